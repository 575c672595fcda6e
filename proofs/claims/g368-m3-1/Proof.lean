import JvmDerived
import JvmDerived.Pilot.@@N@@Statement
import JvmDerived.Pilot.@@N@@Code
set_option linter.unusedVariables false
set_option linter.unusedSimpArgs false
@@BLOCK:NumsL.lean.txt@@
namespace Jvm.Pilot.@@N@@
open Jvm Jvm.ClassFile Sem Op Lib Jvm.Free Jvm.Stand Jvm.LawKit Jvm.RoadKit Bundle Jvm.Pilot.@@N@@.Jvm.D
abbrev oI (x : Int32) : Slot := .val (.int x)
abbrev oJ (x : Int64) : Slot := .val (.long x)
abbrev oA (x : Addr) : Slot := .val (.ref x)
abbrev oN : Slot := .val .null
abbrev oU : Slot := .unset
abbrev oS : Slot := .second
theorem own_w {Z : State} {a0 : Array Value} (hw : ∀ d ∈ tables_1, d.before a0 Z = true) (i : Nat) {d : Jvm.Cond} (h : tables_1[i]? = some d) : d.before a0 Z = true := hw d (List.mem_of_getElem? h)
section Own
variable {p : Program} {l : Launch} {e : Env} {R : Room} {s : State} {m : MethodId} {args : Array Value} {below : List Frame} {meth : Method} {c : Code} {T : State} {locs : List Loc} {cells slots : Nat} {P : State → Outcome → Prop} {pc : Nat} {ls : Array Slot} {st : List Value} {Z : State} {a0 : Array Value} {h : Heap} {bytes : ByteArray}
/-- the run goes on from A and ends so that P holds -/
def Go (p : Program) (e : Env) (below : List Frame) (P : State → Outcome → Prop) (A : State) : Prop := ∃ s₂ o, Steps p.tables e below A s₂ ∧ P s₂ o
theorem own_go {A A' : State} (h : ∀ t, Steps p.tables e below A' t → Steps p.tables e below A t) (k : Go p e below P A') : Go p e below P A := by
  obtain ⟨s₂, o, h1, h2⟩ := k
  exact ⟨s₂, o, h _ h1, h2⟩
/-! loads, stores, constants -/
theorem own_iload_n (pc' : Nat) (X : Stand p l e R s m args below meth c T locs cells slots) (hx : p.tables.exec = Jvm.exec) (hby : c.code = bytes) {k : Fin 4} {v : Int32} (hd : decode bytes pc = .ok (.iload_n k, 1)) (hp : pc + 1 = pc') (hl : ls[k.val]? = some (.val (.int v))) (r : Go p e below P (T.setTop (mkF m pc' ls (.int v :: st)))) : Go p e below P (T.setTop (mkF m pc ls st)) := by
  subst hp; exact own_go (fun t q => XS.iloadN X.here hx rfl (hb hby hd) hl q) r
theorem own_iload (pc' : Nat) (X : Stand p l e R s m args below meth c T locs cells slots) (hx : p.tables.exec = Jvm.exec) (hby : c.code = bytes) {k : Nat} {v : Int32} (hd : decode bytes pc = .ok (.iload k, 2)) (hp : pc + 2 = pc') (hl : ls[k]? = some (.val (.int v))) (r : Go p e below P (T.setTop (mkF m pc' ls (.int v :: st)))) : Go p e below P (T.setTop (mkF m pc ls st)) := by
  subst hp; exact own_go (fun t q => XS.iload X.here hx rfl (hb hby hd) hl q) r
theorem own_lload_n (pc' : Nat) (X : Stand p l e R s m args below meth c T locs cells slots) (hx : p.tables.exec = Jvm.exec) (hby : c.code = bytes) {k : Fin 4} {v : Int64} (hd : decode bytes pc = .ok (.lload_n k, 1)) (hp : pc + 1 = pc') (hl : ls[k.val]? = some (.val (.long v))) (r : Go p e below P (T.setTop (mkF m pc' ls (.long v :: st)))) : Go p e below P (T.setTop (mkF m pc ls st)) := by
  subst hp; exact own_go (fun t q => XT.lloadN X.here hx rfl (hb hby hd) hl q) r
theorem own_lload (pc' : Nat) (X : Stand p l e R s m args below meth c T locs cells slots) (hx : p.tables.exec = Jvm.exec) (hby : c.code = bytes) {k : Nat} {v : Int64} (hd : decode bytes pc = .ok (.lload k, 2)) (hp : pc + 2 = pc') (hl : ls[k]? = some (.val (.long v))) (r : Go p e below P (T.setTop (mkF m pc' ls (.long v :: st)))) : Go p e below P (T.setTop (mkF m pc ls st)) := by
  subst hp; exact own_go (fun t q => XT.lload X.here hx rfl (hb hby hd) hl q) r
theorem own_aload_n (pc' : Nat) (X : Stand p l e R s m args below meth c T locs cells slots) (hx : p.tables.exec = Jvm.exec) (hby : c.code = bytes) {k : Fin 4} {v : Value} (hd : decode bytes pc = .ok (.aload_n k, 1)) (hp : pc + 1 = pc') (hl : ls[k.val]? = some (.val v)) (hv : v.isRef = true) (r : Go p e below P (T.setTop (mkF m pc' ls (v :: st)))) : Go p e below P (T.setTop (mkF m pc ls st)) := by
  subst hp; exact own_go (fun t q => XS.aloadN X.here hx rfl (hb hby hd) hl hv q) r
theorem own_aload (pc' : Nat) (X : Stand p l e R s m args below meth c T locs cells slots) (hx : p.tables.exec = Jvm.exec) (hby : c.code = bytes) {k : Nat} {v : Value} (hd : decode bytes pc = .ok (.aload k, 2)) (hp : pc + 2 = pc') (hl : ls[k]? = some (.val v)) (hv : v.isRef = true) (r : Go p e below P (T.setTop (mkF m pc' ls (v :: st)))) : Go p e below P (T.setTop (mkF m pc ls st)) := by
  subst hp; exact own_go (fun t q => XS.aload X.here hx rfl (hb hby hd) hl hv q) r
theorem own_istore_n (pc' : Nat) (l' : Array Slot) (X : Stand p l e R s m args below meth c T locs cells slots) (hx : p.tables.exec = Jvm.exec) (hby : c.code = bytes) {k : Fin 4} {v : Int32} (hd : decode bytes pc = .ok (.istore_n k, 1)) (hp : pc + 1 = pc') (hl : storeLocals ls k.val (.int v) = some l') (r : Go p e below P (T.setTop (mkF m pc' l' st))) : Go p e below P (T.setTop (mkF m pc ls (.int v :: st))) := by
  subst hp; exact own_go (fun t q => XS.istoreN X.here hx rfl (hb hby hd) rfl hl q) r
theorem own_istore (pc' : Nat) (l' : Array Slot) (X : Stand p l e R s m args below meth c T locs cells slots) (hx : p.tables.exec = Jvm.exec) (hby : c.code = bytes) {k : Nat} {v : Int32} (hd : decode bytes pc = .ok (.istore k, 2)) (hp : pc + 2 = pc') (hl : storeLocals ls k (.int v) = some l') (r : Go p e below P (T.setTop (mkF m pc' l' st))) : Go p e below P (T.setTop (mkF m pc ls (.int v :: st))) := by
  subst hp; exact own_go (fun t q => XS.istore X.here hx rfl (hb hby hd) rfl hl q) r
theorem own_lstore_n (pc' : Nat) (l' : Array Slot) (X : Stand p l e R s m args below meth c T locs cells slots) (hx : p.tables.exec = Jvm.exec) (hby : c.code = bytes) {k : Fin 4} {v : Int64} (hd : decode bytes pc = .ok (.lstore_n k, 1)) (hp : pc + 1 = pc') (hl : storeLocals ls k.val (.long v) = some l') (r : Go p e below P (T.setTop (mkF m pc' l' st))) : Go p e below P (T.setTop (mkF m pc ls (.long v :: st))) := by
  subst hp; exact own_go (fun t q => XT.lstoreN X.here hx rfl (hb hby hd) rfl hl q) r
theorem own_lstore (pc' : Nat) (l' : Array Slot) (X : Stand p l e R s m args below meth c T locs cells slots) (hx : p.tables.exec = Jvm.exec) (hby : c.code = bytes) {k : Nat} {v : Int64} (hd : decode bytes pc = .ok (.lstore k, 2)) (hp : pc + 2 = pc') (hl : storeLocals ls k (.long v) = some l') (r : Go p e below P (T.setTop (mkF m pc' l' st))) : Go p e below P (T.setTop (mkF m pc ls (.long v :: st))) := by
  subst hp; exact own_go (fun t q => XT.lstore X.here hx rfl (hb hby hd) rfl hl q) r
theorem own_astore_n (pc' : Nat) (l' : Array Slot) (X : Stand p l e R s m args below meth c T locs cells slots) (hx : p.tables.exec = Jvm.exec) (hby : c.code = bytes) {k : Fin 4} {v : Value} (hd : decode bytes pc = .ok (.astore_n k, 1)) (hp : pc + 1 = pc') (hv : v.isRef = true) (hl : storeLocals ls k.val v = some l') (r : Go p e below P (T.setTop (mkF m pc' l' st))) : Go p e below P (T.setTop (mkF m pc ls (v :: st))) := by
  subst hp; exact own_go (fun t q => XS.astoreN X.here hx rfl (hb hby hd) rfl hv hl q) r
theorem own_astore (pc' : Nat) (l' : Array Slot) (X : Stand p l e R s m args below meth c T locs cells slots) (hx : p.tables.exec = Jvm.exec) (hby : c.code = bytes) {k : Nat} {v : Value} (hd : decode bytes pc = .ok (.astore k, 2)) (hp : pc + 2 = pc') (hv : v.isRef = true) (hl : storeLocals ls k v = some l') (r : Go p e below P (T.setTop (mkF m pc' l' st))) : Go p e below P (T.setTop (mkF m pc ls (v :: st))) := by
  subst hp; exact own_go (fun t q => XS.astore X.here hx rfl (hb hby hd) rfl hv hl q) r
theorem own_iconst (pc' : Nat) (w : Int32) (X : Stand p l e R s m args below meth c T locs cells slots) (hx : p.tables.exec = Jvm.exec) (hby : c.code = bytes) {i : Int} (hd : decode bytes pc = .ok (.iconst i, 1)) (hp : pc + 1 = pc') (hw : Int32.ofInt i = w) (r : Go p e below P (T.setTop (mkF m pc' ls (.int w :: st)))) : Go p e below P (T.setTop (mkF m pc ls st)) := by
  subst hp hw; exact own_go (fun t q => XS.iconst X.here hx rfl (hb hby hd) q) r
theorem own_bipush (pc' : Nat) (w : Int32) (X : Stand p l e R s m args below meth c T locs cells slots) (hx : p.tables.exec = Jvm.exec) (hby : c.code = bytes) {i : Int} (hd : decode bytes pc = .ok (.bipush i, 2)) (hp : pc + 2 = pc') (hw : (Int8.ofInt i).toInt32 = w) (r : Go p e below P (T.setTop (mkF m pc' ls (.int w :: st)))) : Go p e below P (T.setTop (mkF m pc ls st)) := by
  subst hp hw; exact own_go (fun t q => XS.bipush X.here hx rfl (hb hby hd) q) r
theorem own_sipush (pc' : Nat) (w : Int32) (X : Stand p l e R s m args below meth c T locs cells slots) (hx : p.tables.exec = Jvm.exec) (hby : c.code = bytes) {i : Int} (hd : decode bytes pc = .ok (.sipush i, 3)) (hp : pc + 3 = pc') (hw : (Int16.ofInt i).toInt32 = w) (r : Go p e below P (T.setTop (mkF m pc' ls (.int w :: st)))) : Go p e below P (T.setTop (mkF m pc ls st)) := by
  subst hp hw; exact own_go (fun t q => XS.sipush X.here hx rfl (hb hby hd) q) r
theorem own_lconst (pc' : Nat) (w : Int64) (X : Stand p l e R s m args below meth c T locs cells slots) (hx : p.tables.exec = Jvm.exec) (hby : c.code = bytes) {k : Fin 2} (hd : decode bytes pc = .ok (.lconst k, 1)) (hp : pc + 1 = pc') (hw : Int64.ofNat k = w) (r : Go p e below P (T.setTop (mkF m pc' ls (.long w :: st)))) : Go p e below P (T.setTop (mkF m pc ls st)) := by
  subst hp hw; exact own_go (fun t q => XT.lconst X.here hx rfl (hb hby hd) q) r
theorem own_null (pc' : Nat) (X : Stand p l e R s m args below meth c T locs cells slots) (hx : p.tables.exec = Jvm.exec) (hby : c.code = bytes) (hd : decode bytes pc = .ok (.aconst_null, 1)) (hp : pc + 1 = pc') (r : Go p e below P (T.setTop (mkF m pc' ls (.null :: st)))) : Go p e below P (T.setTop (mkF m pc ls st)) := by
  subst hp; exact own_go (fun t q => XS.aconstNull X.here hx rfl (hb hby hd) q) r
theorem own_ldc (pc' : Nat) (X : Stand p l e R s m args below meth c T locs cells slots) (hx : p.tables.exec = Jvm.exec) (hby : c.code = bytes) (hZ : Z.Warmed39 s.vm) {own : String} {index : Nat} {v : Int32} (hown : s.vm.findClass own = some m.cls) (w : (Cond.constant own index v).before a0 Z = true) (hd : decode bytes pc = .ok (.ldc index, 2)) (hp : pc + 2 = pc') (r : Go p e below P (T.setTop (mkF m pc' ls (.int v :: st)))) : Go p e below P (T.setTop (mkF m pc ls st)) := by
  subst hp; exact own_go (fun t q => X.ldcI hx hown (mvT hZ w) rfl (hb hby hd) q) r
theorem own_ldc2 (pc' : Nat) (X : Stand p l e R s m args below meth c T locs cells slots) (hx : p.tables.exec = Jvm.exec) (hby : c.code = bytes) (hZ : Z.Warmed39 s.vm) {own : String} {index : Nat} {v : Int64} (hown : s.vm.findClass own = some m.cls) (w : (Cond.constantLong own index v).before a0 Z = true) (hd : decode bytes pc = .ok (.ldc2_w index, 3)) (hp : pc + 3 = pc') (r : Go p e below P (T.setTop (mkF m pc' ls (.long v :: st)))) : Go p e below P (T.setTop (mkF m pc ls st)) := by
  subst hp; exact own_go (fun t q => X.ldc2J hx hown (mvT hZ w) rfl (hb hby hd) q) r
/-! arithmetic -/
theorem own_iadd (pc' : Nat) (w : Int32) (X : Stand p l e R s m args below meth c T locs cells slots) (hx : p.tables.exec = Jvm.exec) (hby : c.code = bytes) {x y : Int32} (hd : decode bytes pc = .ok (.iadd, 1)) (hp : pc + 1 = pc') (hw : x + y = w) (r : Go p e below P (T.setTop (mkF m pc' ls (.int w :: st)))) : Go p e below P (T.setTop (mkF m pc ls (.int y :: .int x :: st))) := by
  subst hp hw; exact own_go (fun t q => XS.iadd X.here hx rfl (hb hby hd) rfl q) r
theorem own_isub (pc' : Nat) (w : Int32) (X : Stand p l e R s m args below meth c T locs cells slots) (hx : p.tables.exec = Jvm.exec) (hby : c.code = bytes) {x y : Int32} (hd : decode bytes pc = .ok (.isub, 1)) (hp : pc + 1 = pc') (hw : x - y = w) (r : Go p e below P (T.setTop (mkF m pc' ls (.int w :: st)))) : Go p e below P (T.setTop (mkF m pc ls (.int y :: .int x :: st))) := by
  subst hp hw; exact own_go (fun t q => XS.isub X.here hx rfl (hb hby hd) rfl q) r
theorem own_imul (pc' : Nat) (w : Int32) (X : Stand p l e R s m args below meth c T locs cells slots) (hx : p.tables.exec = Jvm.exec) (hby : c.code = bytes) {x y : Int32} (hd : decode bytes pc = .ok (.imul, 1)) (hp : pc + 1 = pc') (hw : x * y = w) (r : Go p e below P (T.setTop (mkF m pc' ls (.int w :: st)))) : Go p e below P (T.setTop (mkF m pc ls (.int y :: .int x :: st))) := by
  subst hp hw; exact own_go (fun t q => XS.imul X.here hx rfl (hb hby hd) rfl q) r
theorem own_idiv (pc' : Nat) (w : Int32) (X : Stand p l e R s m args below meth c T locs cells slots) (hx : p.tables.exec = Jvm.exec) (hby : c.code = bytes) {x y : Int32} (hd : decode bytes pc = .ok (.idiv, 1)) (hp : pc + 1 = pc') (hy : y ≠ 0) (hw : x / y = w) (r : Go p e below P (T.setTop (mkF m pc' ls (.int w :: st)))) : Go p e below P (T.setTop (mkF m pc ls (.int y :: .int x :: st))) := by
  subst hp hw; exact own_go (fun t q => XS.idiv X.here hx rfl (hb hby hd) rfl hy q) r
theorem own_irem (pc' : Nat) (w : Int32) (X : Stand p l e R s m args below meth c T locs cells slots) (hx : p.tables.exec = Jvm.exec) (hby : c.code = bytes) {x y : Int32} (hd : decode bytes pc = .ok (.irem, 1)) (hp : pc + 1 = pc') (hy : y ≠ 0) (hw : x % y = w) (r : Go p e below P (T.setTop (mkF m pc' ls (.int w :: st)))) : Go p e below P (T.setTop (mkF m pc ls (.int y :: .int x :: st))) := by
  subst hp hw; exact own_go (fun t q => iremM X hx rfl (hb hby hd) rfl hy q) r
theorem own_iand (pc' : Nat) (w : Int32) (X : Stand p l e R s m args below meth c T locs cells slots) (hx : p.tables.exec = Jvm.exec) (hby : c.code = bytes) {x y : Int32} (hd : decode bytes pc = .ok (.iand, 1)) (hp : pc + 1 = pc') (hw : x &&& y = w) (r : Go p e below P (T.setTop (mkF m pc' ls (.int w :: st)))) : Go p e below P (T.setTop (mkF m pc ls (.int y :: .int x :: st))) := by
  subst hp hw; exact own_go (fun t q => XS.iand X.here hx rfl (hb hby hd) rfl q) r
theorem own_ishr (pc' : Nat) (w : Int32) (X : Stand p l e R s m args below meth c T locs cells slots) (hx : p.tables.exec = Jvm.exec) (hby : c.code = bytes) {x y : Int32} (hd : decode bytes pc = .ok (.ishr, 1)) (hp : pc + 1 = pc') (hw : x >>> (y &&& 31) = w) (r : Go p e below P (T.setTop (mkF m pc' ls (.int w :: st)))) : Go p e below P (T.setTop (mkF m pc ls (.int y :: .int x :: st))) := by
  subst hp hw; exact own_go (fun t q => XT.ishr X.here hx rfl (hb hby hd) rfl q) r
theorem own_iushr (pc' : Nat) (w : Int32) (X : Stand p l e R s m args below meth c T locs cells slots) (hx : p.tables.exec = Jvm.exec) (hby : c.code = bytes) {x y : Int32} (hd : decode bytes pc = .ok (.iushr, 1)) (hp : pc + 1 = pc') (hw : XT.ushr x y = w) (r : Go p e below P (T.setTop (mkF m pc' ls (.int w :: st)))) : Go p e below P (T.setTop (mkF m pc ls (.int y :: .int x :: st))) := by
  subst hp hw; exact own_go (fun t q => XT.iushr X.here hx rfl (hb hby hd) rfl q) r
theorem own_ladd (pc' : Nat) (w : Int64) (X : Stand p l e R s m args below meth c T locs cells slots) (hx : p.tables.exec = Jvm.exec) (hby : c.code = bytes) {x y : Int64} (hd : decode bytes pc = .ok (.ladd, 1)) (hp : pc + 1 = pc') (hw : x + y = w) (r : Go p e below P (T.setTop (mkF m pc' ls (.long w :: st)))) : Go p e below P (T.setTop (mkF m pc ls (.long y :: .long x :: st))) := by
  subst hp hw; exact own_go (fun t q => XT.ladd X.here hx rfl (hb hby hd) rfl q) r
theorem own_lsub (pc' : Nat) (w : Int64) (X : Stand p l e R s m args below meth c T locs cells slots) (hx : p.tables.exec = Jvm.exec) (hby : c.code = bytes) {x y : Int64} (hd : decode bytes pc = .ok (.lsub, 1)) (hp : pc + 1 = pc') (hw : x - y = w) (r : Go p e below P (T.setTop (mkF m pc' ls (.long w :: st)))) : Go p e below P (T.setTop (mkF m pc ls (.long y :: .long x :: st))) := by
  subst hp hw; exact own_go (fun t q => XT.lsub X.here hx rfl (hb hby hd) rfl q) r
theorem own_lmul (pc' : Nat) (w : Int64) (X : Stand p l e R s m args below meth c T locs cells slots) (hx : p.tables.exec = Jvm.exec) (hby : c.code = bytes) {x y : Int64} (hd : decode bytes pc = .ok (.lmul, 1)) (hp : pc + 1 = pc') (hw : x * y = w) (r : Go p e below P (T.setTop (mkF m pc' ls (.long w :: st)))) : Go p e below P (T.setTop (mkF m pc ls (.long y :: .long x :: st))) := by
  subst hp hw; exact own_go (fun t q => XT.lmul X.here hx rfl (hb hby hd) rfl q) r
theorem own_ldiv (pc' : Nat) (w : Int64) (X : Stand p l e R s m args below meth c T locs cells slots) (hx : p.tables.exec = Jvm.exec) (hby : c.code = bytes) {x y : Int64} (hd : decode bytes pc = .ok (.ldiv, 1)) (hp : pc + 1 = pc') (hy : y ≠ 0) (hw : x / y = w) (r : Go p e below P (T.setTop (mkF m pc' ls (.long w :: st)))) : Go p e below P (T.setTop (mkF m pc ls (.long y :: .long x :: st))) := by
  subst hp hw; exact own_go (fun t q => XT.ldiv X.here hx rfl (hb hby hd) rfl hy q) r
theorem own_lrem (pc' : Nat) (w : Int64) (X : Stand p l e R s m args below meth c T locs cells slots) (hx : p.tables.exec = Jvm.exec) (hby : c.code = bytes) {x y : Int64} (hd : decode bytes pc = .ok (.lrem, 1)) (hp : pc + 1 = pc') (hy : y ≠ 0) (hw : x - (x / y) * y = w) (r : Go p e below P (T.setTop (mkF m pc' ls (.long w :: st)))) : Go p e below P (T.setTop (mkF m pc ls (.long y :: .long x :: st))) := by
  subst hp hw; exact own_go (fun t q => XT.lrem X.here hx rfl (hb hby hd) rfl hy q) r
theorem own_land (pc' : Nat) (w : Int64) (X : Stand p l e R s m args below meth c T locs cells slots) (hx : p.tables.exec = Jvm.exec) (hby : c.code = bytes) {x y : Int64} (hd : decode bytes pc = .ok (.land, 1)) (hp : pc + 1 = pc') (hw : x &&& y = w) (r : Go p e below P (T.setTop (mkF m pc' ls (.long w :: st)))) : Go p e below P (T.setTop (mkF m pc ls (.long y :: .long x :: st))) := by
  subst hp hw; exact own_go (fun t q => XT.land X.here hx rfl (hb hby hd) rfl q) r
theorem own_lushr (pc' : Nat) (w : Int64) (X : Stand p l e R s m args below meth c T locs cells slots) (hx : p.tables.exec = Jvm.exec) (hby : c.code = bytes) {x : Int64} {y : Int32} (hd : decode bytes pc = .ok (.lushr, 1)) (hp : pc + 1 = pc') (hw : XT.ushrL x y = w) (r : Go p e below P (T.setTop (mkF m pc' ls (.long w :: st)))) : Go p e below P (T.setTop (mkF m pc ls (.int y :: .long x :: st))) := by
  subst hp hw; exact own_go (fun t q => XT.lushr X.here hx rfl (hb hby hd) rfl q) r
theorem own_i2l (pc' : Nat) (w : Int64) (X : Stand p l e R s m args below meth c T locs cells slots) (hx : p.tables.exec = Jvm.exec) (hby : c.code = bytes) {x : Int32} (hd : decode bytes pc = .ok (.i2l, 1)) (hp : pc + 1 = pc') (hw : x.toInt64 = w) (r : Go p e below P (T.setTop (mkF m pc' ls (.long w :: st)))) : Go p e below P (T.setTop (mkF m pc ls (.int x :: st))) := by
  subst hp hw; exact own_go (fun t q => XT.i2l X.here hx rfl (hb hby hd) rfl q) r
theorem own_l2i (pc' : Nat) (w : Int32) (X : Stand p l e R s m args below meth c T locs cells slots) (hx : p.tables.exec = Jvm.exec) (hby : c.code = bytes) {x : Int64} (hd : decode bytes pc = .ok (.l2i, 1)) (hp : pc + 1 = pc') (hw : x.toInt32 = w) (r : Go p e below P (T.setTop (mkF m pc' ls (.int w :: st)))) : Go p e below P (T.setTop (mkF m pc ls (.long x :: st))) := by
  subst hp hw; exact own_go (fun t q => XT.l2i X.here hx rfl (hb hby hd) rfl q) r
theorem own_lcmp (pc' : Nat) (w : Int32) (X : Stand p l e R s m args below meth c T locs cells slots) (hx : p.tables.exec = Jvm.exec) (hby : c.code = bytes) {x y : Int64} (hd : decode bytes pc = .ok (.lcmp, 1)) (hp : pc + 1 = pc') (hw : XT.cmpL x y = w) (r : Go p e below P (T.setTop (mkF m pc' ls (.int w :: st)))) : Go p e below P (T.setTop (mkF m pc ls (.long y :: .long x :: st))) := by
  subst hp hw; exact own_go (fun t q => XT.lcmp X.here hx rfl (hb hby hd) rfl q) r
theorem own_iinc (pc' : Nat) (l' : Array Slot) (X : Stand p l e R s m args below meth c T locs cells slots) (hx : p.tables.exec = Jvm.exec) (hby : c.code = bytes) {k : Nat} {i : Int} {x : Int32} (hd : decode bytes pc = .ok (.iinc k i, 3)) (hp : pc + 3 = pc') (hl : ls[k]? = some (.val (.int x))) (hl' : storeLocals ls k (.int (x + Int32.ofInt i)) = some l') (r : Go p e below P (T.setTop (mkF m pc' l' st))) : Go p e below P (T.setTop (mkF m pc ls st)) := by
  subst hp; exact own_go (fun t q => XS.iinc X.here hx rfl (hb hby hd) hl hl' q) r
theorem own_dup (pc' : Nat) (X : Stand p l e R s m args below meth c T locs cells slots) (hx : p.tables.exec = Jvm.exec) (hby : c.code = bytes) {v : Value} (hd : decode bytes pc = .ok (.dup, 1)) (hp : pc + 1 = pc') (hc : v.category = 1) (r : Go p e below P (T.setTop (mkF m pc' ls (v :: v :: st)))) : Go p e below P (T.setTop (mkF m pc ls (v :: st))) := by
  subst hp; exact own_go (fun t q => XS.dup X.here hx rfl (hb hby hd) rfl hc q) r
theorem own_pop (pc' : Nat) (X : Stand p l e R s m args below meth c T locs cells slots) (hx : p.tables.exec = Jvm.exec) (hby : c.code = bytes) {v : Value} (hd : decode bytes pc = .ok (.pop, 1)) (hp : pc + 1 = pc') (hc : v.category = 1) (r : Go p e below P (T.setTop (mkF m pc' ls st))) : Go p e below P (T.setTop (mkF m pc ls (v :: st))) := by
  subst hp; exact own_go (fun t q => XT.pop X.here hx rfl (hb hby hd) rfl hc q) r
/-! branches -/
theorem own_goto (pc' : Nat) (X : Stand p l e R s m args below meth c T locs cells slots) (hx : p.tables.exec = Jvm.exec) (hby : c.code = bytes) {o : Int} (hd : decode bytes pc = .ok (.goto o, 3)) (ho : 0 ≤ (pc : Int) + o) (hp : ((pc : Int) + o).toNat = pc') (r : Go p e below P (T.setTop (mkF m pc' ls st))) : Go p e below P (T.setTop (mkF m pc ls st)) :=
  own_go (fun t q => XS.goto X.here hx rfl rfl (hb hby hd) ho hp q) r
theorem own_ifY (pc' : Nat) (X : Stand p l e R s m args below meth c T locs cells slots) (hx : p.tables.exec = Jvm.exec) (hby : c.code = bytes) {cd : ClassFile.Cond} {x : Int32} {o : Int} (hd : decode bytes pc = .ok (.ifCond cd o, 3)) (ho : 0 ≤ (pc : Int) + o) (hp : ((pc : Int) + o).toNat = pc') (hc : ifCond.holds cd x = true) (r : Go p e below P (T.setTop (mkF m pc' ls st))) : Go p e below P (T.setTop (mkF m pc ls (.int x :: st))) :=
  own_go (fun t q => XS.ifYes X.here hx rfl rfl (hb hby hd) rfl hc ho hp q) r
theorem own_ifN (pc' : Nat) (X : Stand p l e R s m args below meth c T locs cells slots) (hx : p.tables.exec = Jvm.exec) (hby : c.code = bytes) {cd : ClassFile.Cond} {x : Int32} {o : Int} (hd : decode bytes pc = .ok (.ifCond cd o, 3)) (hp : pc + 3 = pc') (hc : ifCond.holds cd x = false) (r : Go p e below P (T.setTop (mkF m pc' ls st))) : Go p e below P (T.setTop (mkF m pc ls (.int x :: st))) := by
  subst hp; exact own_go (fun t q => XS.ifNo X.here hx rfl (hb hby hd) rfl hc q) r
theorem own_icY (pc' : Nat) (X : Stand p l e R s m args below meth c T locs cells slots) (hx : p.tables.exec = Jvm.exec) (hby : c.code = bytes) {cd : ClassFile.Cond} {x y : Int32} {o : Int} (hd : decode bytes pc = .ok (.if_icmp cd o, 3)) (ho : 0 ≤ (pc : Int) + o) (hp : ((pc : Int) + o).toNat = pc') (hc : if_icmp.holds cd x y = true) (r : Go p e below P (T.setTop (mkF m pc' ls st))) : Go p e below P (T.setTop (mkF m pc ls (.int y :: .int x :: st))) :=
  own_go (fun t q => XS.icmpYes X.here hx rfl rfl (hb hby hd) rfl hc ho hp q) r
theorem own_icN (pc' : Nat) (X : Stand p l e R s m args below meth c T locs cells slots) (hx : p.tables.exec = Jvm.exec) (hby : c.code = bytes) {cd : ClassFile.Cond} {x y : Int32} {o : Int} (hd : decode bytes pc = .ok (.if_icmp cd o, 3)) (hp : pc + 3 = pc') (hc : if_icmp.holds cd x y = false) (r : Go p e below P (T.setTop (mkF m pc' ls st))) : Go p e below P (T.setTop (mkF m pc ls (.int y :: .int x :: st))) := by
  subst hp; exact own_go (fun t q => XS.icmpNo X.here hx rfl (hb hby hd) rfl hc q) r
theorem own_acmp (pc' : Nat) (same : Bool) (X : Stand p l e R s m args below meth c T locs cells slots) (hx : p.tables.exec = Jvm.exec) (hby : c.code = bytes) {cd : ACond} {x y : Value} {o : Int} (hd : decode bytes pc = .ok (.if_acmp cd o, 3)) (h1 : x.isRef = true) (h2 : y.isRef = true) (ho : 0 ≤ (pc : Int) + o) (hp : pc' = if acV cd same = true then ((pc : Int) + o).toNat else pc + 3) (hq : decide (x = y) = same) (r : Go p e below P (T.setTop (mkF m pc' ls st))) : Go p e below P (T.setTop (mkF m pc ls (y :: x :: st))) :=
  own_go (fun t q => Jvm.RoadKit.acmp X hx rfl h1 h2 rfl (hb hby hd) rfl hq ho hp q) r
theorem own_nullY (pc' : Nat) (X : Stand p l e R s m args below meth c T locs cells slots) (hx : p.tables.exec = Jvm.exec) (hby : c.code = bytes) {o : Int} (hd : decode bytes pc = .ok (.ifnull o, 3)) (ho : 0 ≤ (pc : Int) + o) (hp : ((pc : Int) + o).toNat = pc') (r : Go p e below P (T.setTop (mkF m pc' ls st))) : Go p e below P (T.setTop (mkF m pc ls (.null :: st))) :=
  own_go (fun t q => XS.ifnullYes X.here hx rfl rfl (hb hby hd) rfl ho hp q) r
theorem own_nullN (pc' : Nat) (X : Stand p l e R s m args below meth c T locs cells slots) (hx : p.tables.exec = Jvm.exec) (hby : c.code = bytes) {o : Int} {b : Addr} (hd : decode bytes pc = .ok (.ifnull o, 3)) (hp : pc + 3 = pc') (r : Go p e below P (T.setTop (mkF m pc' ls st))) : Go p e below P (T.setTop (mkF m pc ls (.ref b :: st))) := by
  subst hp; exact own_go (fun t q => XS.ifnullNo X.here hx rfl (hb hby hd) rfl q) r
theorem own_nnY (pc' : Nat) (X : Stand p l e R s m args below meth c T locs cells slots) (hx : p.tables.exec = Jvm.exec) (hby : c.code = bytes) {o : Int} {b : Addr} (hd : decode bytes pc = .ok (.ifnonnull o, 3)) (ho : 0 ≤ (pc : Int) + o) (hp : ((pc : Int) + o).toNat = pc') (r : Go p e below P (T.setTop (mkF m pc' ls st))) : Go p e below P (T.setTop (mkF m pc ls (.ref b :: st))) :=
  own_go (fun t q => XT.ifnonnullYes X.here hx rfl rfl (hb hby hd) rfl ho hp q) r
theorem own_nnN (pc' : Nat) (X : Stand p l e R s m args below meth c T locs cells slots) (hx : p.tables.exec = Jvm.exec) (hby : c.code = bytes) {o : Int} (hd : decode bytes pc = .ok (.ifnonnull o, 3)) (hp : pc + 3 = pc') (r : Go p e below P (T.setTop (mkF m pc' ls st))) : Go p e below P (T.setTop (mkF m pc ls (.null :: st))) := by
  subst hp; exact own_go (fun t q => XT.ifnonnullNo X.here hx rfl (hb hby hd) rfl q) r
/-! what lcmp and a branch behind it say -/
theorem own_tltL {x y : Int64} (h : x < y) : ifCond.holds .lt (XT.cmpL x y) = true ∧ ifCond.holds .ge (XT.cmpL x y) = false ∧ ifCond.holds .gt (XT.cmpL y x) = true ∧ ifCond.holds .le (XT.cmpL y x) = false := by
  have h1 : ¬ y < x := fun q => absurd h (Int64.lt_asymm q)
  have h2 : ¬ x = y := fun q => absurd (q ▸ h) Int64.lt_irrefl
  have h3 : ¬ y = x := fun q => h2 q.symm
  simp only [XT.cmpL, h, h1, h2, h3, if_true, if_false]
  decide
theorem own_fltL {x y : Int64} (h : ¬ x < y) : ifCond.holds .lt (XT.cmpL x y) = false ∧ ifCond.holds .ge (XT.cmpL x y) = true ∧ ifCond.holds .gt (XT.cmpL y x) = false ∧ ifCond.holds .le (XT.cmpL y x) = true := by
  by_cases q : x = y
  · subst q
    simp only [XT.cmpL, h, if_true, if_false]
    decide
  · have h1 : y < x := by
      rw [Int64.lt_iff_toInt_lt] at h ⊢
      have : x.toInt ≠ y.toInt := fun z => q (Int64.toInt_inj.mp z)
      omega
    have h3 : ¬ y = x := fun z => q z.symm
    simp only [XT.cmpL, h, h1, q, h3, if_true, if_false]
    decide
theorem own_teqL {x y : Int64} (h : x = y) : ifCond.holds .eq (XT.cmpL x y) = true ∧ ifCond.holds .ne (XT.cmpL x y) = false := by
  subst h
  simp only [XT.cmpL, Int64.lt_irrefl, if_true, if_false]
  decide
theorem own_feqL {x y : Int64} (h : ¬ x = y) : ifCond.holds .eq (XT.cmpL x y) = false ∧ ifCond.holds .ne (XT.cmpL x y) = true := by
  by_cases q : y < x
  · simp only [XT.cmpL, q, if_true]
    decide
  · simp only [XT.cmpL, q, h, if_false]
    decide
/-! fields, statics -/
theorem own_getS (pc' : Nat) (X : Stand p l e R s m args below meth c T locs cells slots) (hx : p.tables.exec = Jvm.exec) (hby : c.code = bytes) (hZ : Z.Warmed39 s.vm) {own O n d : String} {index : Nat} (hown : s.vm.findClass own = some m.cls) (w : (Cond.fieldLink own index O n d).before a0 Z = true) (eT : T.heap = h) {v : Value} (F : Sta Z h O n d v) (hd : decode bytes pc = .ok (.getstatic index, 3)) (hp : pc + 3 = pc')
    (r : ∀ T', Stand p l e R s m args below meth c T' locs cells slots → T'.heap = h → Go p e below P (T'.setTop (mkF m pc' ls (v :: st)))) : Go p e below P (T.setTop (mkF m pc ls st)) := by
  subst hp
  obtain ⟨T', X', e', q⟩ := getS2 X hx hZ hown (host := "") (Or.inl w) Via.refl eT F (g := mkF m pc ls st) rfl (hb hby hd)
  exact own_go q (r T' X' e')
theorem own_getSN (pc' : Nat) (X : Stand p l e R s m args below meth c T locs cells slots) (hx : p.tables.exec = Jvm.exec) (hby : c.code = bytes) (hZ : Z.Warmed39 s.vm) {own O n d host : String} {index : Nat} (hown : s.vm.findClass own = some m.cls) (w : (Cond.fieldLinkNest own index O n d host).before a0 Z = true) (eT : T.heap = h) {v : Value} (F : Sta Z h O n d v) (hd : decode bytes pc = .ok (.getstatic index, 3)) (hp : pc + 3 = pc')
    (r : ∀ T', Stand p l e R s m args below meth c T' locs cells slots → T'.heap = h → Go p e below P (T'.setTop (mkF m pc' ls (v :: st)))) : Go p e below P (T.setTop (mkF m pc ls st)) := by
  subst hp
  obtain ⟨T', X', e', q⟩ := getS2 X hx hZ hown (Or.inr w) Via.refl eT F (g := mkF m pc ls st) rfl (hb hby hd)
  exact own_go q (r T' X' e')
theorem own_getF (pc' : Nat) (X : Stand p l e R s m args below meth c T locs cells slots) (hx : p.tables.exec = Jvm.exec) (hby : c.code = bytes) (hZ : Z.Warmed39 s.vm) {own O n d : String} {index : Nat} (hown : s.vm.findClass own = some m.cls) (w : (Cond.fieldLink own index O n d).before a0 Z = true) (eT : T.heap = h) {a : Addr} {v : Value} (F : Fld Z h a O n d v) (hd : decode bytes pc = .ok (.getfield index, 3)) (hp : pc + 3 = pc')
    (r : ∀ T', Stand p l e R s m args below meth c T' locs cells slots → T'.heap = h → Go p e below P (T'.setTop (mkF m pc' ls (v :: st)))) : Go p e below P (T.setTop (mkF m pc ls (.ref a :: st))) := by
  subst hp
  obtain ⟨T', X', e', q⟩ := getF X hx hZ hown (host := "") (Or.inl w) Via.refl eT F (g := mkF m pc ls (.ref a :: st)) rfl rfl (hb hby hd)
  exact own_go q (r T' X' e')
/-! arrays -/
theorem own_n0 {n0 : Nat} (O : Old Z n0 h) : n0 ≤ h.size := O.1 ▸ O.2.1
theorem own_newR (pc' : Nat) (N : Nat) (X : Stand p l e R s m args below meth c T locs cells slots) (hx : p.tables.exec = Jvm.exec) (hby : c.code = bytes) (hZ : Z.Warmed39 s.vm) {own C : String} {index : Nat} (hown : s.vm.findClass own = some m.cls) (w1 : (Cond.classLink own index C).before a0 Z = true) (w2 : (Cond.arrayOver (.object C)).before a0 Z = true) (eT : T.heap = h)
    (hd : decode bytes pc = .ok (.anewarray index, 3)) (hp : pc + 3 = pc') {n : Int32} (hn : ¬ n < 0) (hcap : n.toNatClampNeg ≤ N) (hbig : N * 8 ≤ 536870912) (hc : cells + 1 ≤ R.cells) (hl : slots + N ≤ R.slots)
    (r : ∀ T' h' cA b, Stand p l e R s m args below meth c T' locs (cells + 1) (slots + N) → T'.heap = h' → Ext h h' → b = h.size → Arv Z h' b cA (.object C) n (List.replicate N .null) .null → Ovr Z cA C → Go p e below P (T'.setTop (mkF m pc' ls (.ref b :: st)))) : Go p e below P (T.setTop (mkF m pc ls (.int n :: st))) := by
  subst hp
  obtain ⟨T', h', cA, X', e', E', A', O', q⟩ := newR X hx hZ hown w1 w2 eT (g := mkF m pc ls (.int n :: st)) rfl (hb hby hd) rfl hn hcap hbig hc hl
  exact own_go q (r T' h' cA h.size X' e' E' rfl ((Arv.new A' hn).pad (pad_rep [] .null N)) O')
theorem own_newP (pc' : Nat) (N : Nat) {aty : ArrayType} (X : Stand p l e R s m args below meth c T locs cells slots) (hx : p.tables.exec = Jvm.exec) (hby : c.code = bytes) (hZ : Z.Warmed39 s.vm) (w : (Cond.arrayClass (newarray.typeOf aty)).before a0 Z = true) (eT : T.heap = h)
    (hd : decode bytes pc = .ok (.newarray aty, 2)) (hp : pc + 2 = pc') {n : Int32} (hn : ¬ n < 0) (hcap : n.toNatClampNeg ≤ N) (hbig : N * 8 ≤ 536870912) (hc : cells + 1 ≤ R.cells) (hl : slots + N ≤ R.slots)
    (r : ∀ T' h' cA b, Stand p l e R s m args below meth c T' locs (cells + 1) (slots + N) → T'.heap = h' → Ext h h' → b = h.size → Arv Z h' b cA (newarray.typeOf aty) n (List.replicate N (defaultValue (newarray.typeOf aty))) (defaultValue (newarray.typeOf aty)) → Go p e below P (T'.setTop (mkF m pc' ls (.ref b :: st)))) : Go p e below P (T.setTop (mkF m pc ls (.int n :: st))) := by
  subst hp
  obtain ⟨T', h', cA, X', e', E', A', q⟩ := newP X hx hZ w eT (g := mkF m pc ls (.int n :: st)) rfl (hb hby hd) rfl hn hcap hbig hc hl
  exact own_go q (r T' h' cA h.size X' e' E' rfl ((Arv.new A' hn).pad (pad_rep [] _ N)))
theorem own_stR (pc' : Nat) (i : Nat) (X : Stand p l e R s m args below meth c T locs cells slots) (hx : p.tables.exec = Jvm.exec) (hby : c.code = bytes) (hZ : Z.Warmed39 s.vm) (eT : T.heap = h) {a y : Addr} {cA : ClassId} {C : String} {n j : Int32} {vs : List Value} (V : Arv Z h a cA (.object C) n vs .null) (O : Ovr Z cA C) (I : Ins Z h y C true)
    (hd : decode bytes pc = .ok (.aastore, 1)) (hp : pc + 1 = pc') (hj : ¬ j < 0 ∧ j < n) (hi : j.toNatClampNeg = i) (hv : i < vs.length)
    (r : ∀ T' h', Stand p l e R s m args below meth c T' (locs ++ [⟨a, j.toNatClampNeg⟩]) cells slots → T'.heap = h' → Wr h h' a j.toNatClampNeg (.ref y) → Arv Z h' a cA (.object C) n (vs.set i (.ref y)) .null → Go p e below P (T'.setTop (mkF m pc' ls st))) : Go p e below P (T.setTop (mkF m pc ls (.ref y :: .int j :: .ref a :: st))) := by
  subst hp
  obtain ⟨cl, A, q1, S, q3, H, G⟩ := V
  obtain ⟨T', h', X', e', W', q⟩ := stR X hx hZ eT A (j := j) (inb_of S hj) rfl (Sto.ofV A q1 O I) (g := mkF m pc ls (.ref y :: .int j :: .ref a :: st)) rfl rfl (hb hby hd)
  exact own_go q (r T' h' X' e' W' (Arv.set A q1 S q3 H G rfl W' i hi hv))
theorem own_stZ (pc' : Nat) (i : Nat) (X : Stand p l e R s m args below meth c T locs cells slots) (hx : p.tables.exec = Jvm.exec) (hby : c.code = bytes) (hZ : Z.Warmed39 s.vm) (eT : T.heap = h) {a : Addr} {cA : ClassId} {n j x : Int32} {vs : List Value} {dv : Value} (V : Arv Z h a cA .boolean n vs dv)
    (hd : decode bytes pc = .ok (.bastore, 1)) (hp : pc + 1 = pc') (hj : ¬ j < 0 ∧ j < n) (hi : j.toNatClampNeg = i) (hv : i < vs.length) (hx1 : nar .boolean x = x)
    (r : ∀ T' h', Stand p l e R s m args below meth c T' (locs ++ [⟨a, j.toNatClampNeg⟩]) cells slots → T'.heap = h' → Wr h h' a j.toNatClampNeg (.int x) → Arv Z h' a cA .boolean n (vs.set i (.int x)) dv → Go p e below P (T'.setTop (mkF m pc' ls st))) : Go p e below P (T.setTop (mkF m pc ls (.int x :: .int j :: .ref a :: st))) := by
  subst hp
  obtain ⟨cl, A, q1, S, q3, H, G⟩ := V
  obtain ⟨T', h', X', e', W', q⟩ := stZ X hx hZ eT A (j := j) (x := x) (inb_of S hj) (g := mkF m pc ls (.int x :: .int j :: .ref a :: st)) rfl rfl (hb hby hd)
  rw [hx1] at W'
  exact own_go q (r T' h' X' e' W' (Arv.set A q1 S q3 H G (hx1 ▸ fits_nar_bool x) W' i hi hv))
theorem own_aaload (pc' : Nat) (v : Value) (X : Stand p l e R s m args below meth c T locs cells slots) (hx : p.tables.exec = Jvm.exec) (hby : c.code = bytes) (hZ : Z.Warmed39 s.vm) (eT : T.heap = h) {a : Addr} {cA : ClassId} {ty : FieldType} {n j : Int32} {vs : List Value} {dv : Value} (V : Arv Z h a cA ty n vs dv) (hty : ty.isReference = true)
    (hd : decode bytes pc = .ok (.aaload, 1)) (hp : pc + 1 = pc') (hj : ¬ j < 0 ∧ j < n) (hv : vs.getD j.toNatClampNeg dv = v)
    (r : Go p e below P (T.setTop (mkF m pc' ls (v :: st)))) : Go p e below P (T.setTop (mkF m pc ls (.int j :: .ref a :: st))) := by
  subst hp
  obtain ⟨cl, A, q1, S, q3, H, G⟩ := V
  exact own_go (fun t q => X.aaload hx (j := j) (v := v) (by rw [eT]; exact A.1) (State.isArrayOf_alike hZ.alike A.2.1) hty A.2.2 (inb_of S hj) (H.at (inb_of S hj) hv) (g := mkF m pc ls (.int j :: .ref a :: st)) rfl rfl (hb hby hd) t q) r
theorem own_zaload (pc' : Nat) (v : Value) (X : Stand p l e R s m args below meth c T locs cells slots) (hx : p.tables.exec = Jvm.exec) (hby : c.code = bytes) (hZ : Z.Warmed39 s.vm) (eT : T.heap = h) {a : Addr} {cA : ClassId} {n j : Int32} {vs : List Value} {dv : Value} (V : Arv Z h a cA .boolean n vs dv)
    (hd : decode bytes pc = .ok (.baload, 1)) (hp : pc + 1 = pc') (hj : ¬ j < 0 ∧ j < n) (hv : vs.getD j.toNatClampNeg dv = v)
    (r : Go p e below P (T.setTop (mkF m pc' ls (v :: st)))) : Go p e below P (T.setTop (mkF m pc ls (.int j :: .ref a :: st))) := by
  subst hp
  obtain ⟨cl, A, q1, S, q3, H, G⟩ := V
  exact own_go (fun t q => X.baloadBooleans hx (j := j) (v := v) (by rw [eT]; exact A.1) (State.isArrayOf_alike hZ.alike A.2.1) A.2.2 (inb_of S hj) (H.at (inb_of S hj) hv) (g := mkF m pc ls (.int j :: .ref a :: st)) rfl rfl (hb hby hd) t q) r
theorem own_len (pc' : Nat) (X : Stand p l e R s m args below meth c T locs cells slots) (hx : p.tables.exec = Jvm.exec) (hby : c.code = bytes) (hZ : Z.Warmed39 s.vm) (eT : T.heap = h) {a : Addr} {cA : ClassId} {ty : FieldType} {n : Int32} {vs : List Value} {dv : Value} (V : Arv Z h a cA ty n vs dv)
    (hd : decode bytes pc = .ok (.arraylength, 1)) (hp : pc + 1 = pc')
    (r : Go p e below P (T.setTop (mkF m pc' ls (.int n :: st)))) : Go p e below P (T.setTop (mkF m pc ls (.ref a :: st))) := by
  subst hp
  obtain ⟨cl, A, q1, S, q3, H, G⟩ := V
  rw [← len_of S q3] at r
  exact own_go (fun t q => X.arraylength hx (by rw [eT]; exact A.1) (State.isArrayOf_alike hZ.alike A.2.1) (g := mkF m pc ls (.ref a :: st)) rfl rfl (hb hby hd) t q) r
/-! calls -/
theorem own_callS (pc' : Nat) {h : Heap} {as' : Array Value} {rm : Room} {Q : Option Value → Heap → List Loc → Prop} {y : MethodName} {code' : ByteArray} {maxL : Nat} {ret' : Option FieldType}
    (hM : MetFree l y (head1 [Cond.code y code' maxL ret'] rm) (fun a U => a = as' ∧ Z.Warmed39 U.vm ∧ U.heap = h) (fun _ _ _ _ _ => True) (fun _ U o U' => ∃ v L, o = .returned v ∧ Q v U'.heap L ∧ FrameEnd U o U' L rm.cells rm.slots))
    (X : Stand p l e R s m args below meth c T locs cells slots) (hx : p.tables.exec = Jvm.exec) (hby : c.code = bytes) (hZ : Z.Warmed39 s.vm) {own : String} {index W : Nat} (hown : s.vm.findClass own = some m.cls)
    (w1 : (Cond.methodLink own index y).before a0 Z = true) (w2 : (Cond.static y).before a0 Z = true) (w3 : (Cond.initialized y.cls).before a0 Z = true) (w4 : (Cond.code y code' maxL ret').before a0 Z = true)
    (hy : y.cls ≠ "java/lang/invoke/MethodHandle" ∧ y.cls ≠ "java/lang/invoke/VarHandle") (hsz : ls.size = c.maxLocals) (argsL rest : List Value) {ps : List FieldType} {rt : Option FieldType} (hps : parseMethodDescriptor y.desc = some ⟨ps, rt⟩) (hlen : argsL.length = ps.length)
    (hd : decode bytes pc = .ok (.invokestatic index, 3)) (hp : pc + 3 = pc') (eT : T.heap = h) (hst : st = argsL.reverse ++ rest) (has : argsL.toArray = as') (hW : (rest.map fun v => v.category).sum = W)
    (hf : rm.frames + 1 ≤ R.frames) (hl : W + (maxL + 11) + rm.locals ≤ R.locals) (hc : cells + rm.cells ≤ R.cells) (hs : slots + rm.slots ≤ R.slots)
    (r : ∀ v T' L, Stand p l e R s m args below meth c T' (locs ++ L) (cells + rm.cells) (slots + rm.slots) → Q v T'.heap L → Go p e below P (T'.setTop (mkF m pc' ls (v.toList ++ rest)))) : Go p e below P (T.setTop (mkF m pc ls st)) := by
  subst hp
  obtain ⟨v, _, ⟨T', L', k', n'⟩, -, X', ⟨L, hQ, l1, l2, l3⟩, q⟩ := Jvm.LawKit.callS X hx hown (mvT hZ w1) (mvT hZ w2) (mvT hZ w3) (mvT hZ w4) hy (backOf (W := W) hM hZ w4 w3 hf hl) (g := mkF m pc ls st) rfl hsz (argsL := argsL) (rest := rest) (lenOf hps hlen) hst (by show 2 * 0 + _ ≤ _; omega) (hb hby hd) (fun _ _ => ⟨has, eT, hc, hs⟩)
  dsimp only [Pt.U, Pt.locs, Pt.cells, Pt.slots] at X' l1 l2 l3 q hQ
  subst l1 l2 l3
  exact own_go q (r v T' L X' hQ)
theorem own_virt (pc' : Nat) {h : Heap} {as' : Array Value} {rm : Room} {Q : Option Value → Heap → List Loc → Prop} {y z : MethodName} {code' : ByteArray} {maxL : Nat} {ret' : Option FieldType}
    (hM : MetFree l z (head1 [Cond.code z code' maxL ret'] rm) (fun a U => a = as' ∧ Z.Warmed39 U.vm ∧ U.heap = h) (fun _ _ _ _ _ => True) (fun _ U o U' => ∃ v L, o = .returned v ∧ Q v U'.heap L ∧ FrameEnd U o U' L rm.cells rm.slots))
    (X : Stand p l e R s m args below meth c T locs cells slots) (hx : p.tables.exec = Jvm.exec) (hby : c.code = bytes) (hZ : Z.Warmed39 s.vm) {own C : String} {index W : Nat} (hown : s.vm.findClass own = some m.cls)
    (w1 : (Cond.methodLink own index y).before a0 Z = true) (w2 : (Cond.declares y).before a0 Z = true) (nf : NotFace s y) (w3 : (Cond.selects C y z).before a0 Z = true) (w4 : (Cond.instanceMethod z).before a0 Z = true) (w5 : (Cond.initialized z.cls).before a0 Z = true) (w6 : (Cond.code z code' maxL ret').before a0 Z = true)
    (hy : y.cls ≠ "java/lang/invoke/MethodHandle" ∧ y.cls ≠ "java/lang/invoke/VarHandle") (hsz : ls.size = c.maxLocals) (b : Addr) (argsL rest : List Value) {ps : List FieldType} {rt : Option FieldType} (hps : parseMethodDescriptor y.desc = some ⟨ps, rt⟩) (hlen : argsL.length = ps.length)
    (hd : decode bytes pc = .ok (.invokevirtual index, 3)) (hp : pc + 3 = pc') (eT : T.heap = h) (E : Exa Z h b C) (hst : st = argsL.reverse ++ .ref b :: rest) (has : (.ref b :: argsL).toArray = as') (hW : (rest.map fun v => v.category).sum = W)
    (hf : rm.frames + 1 ≤ R.frames) (hl : W + (maxL + 11) + rm.locals ≤ R.locals) (hc : cells + rm.cells ≤ R.cells) (hs : slots + rm.slots ≤ R.slots)
    (r : ∀ v T' L, Stand p l e R s m args below meth c T' (locs ++ L) (cells + rm.cells) (slots + rm.slots) → Q v T'.heap L → Go p e below P (T'.setTop (mkF m pc' ls (v.toList ++ rest)))) : Go p e below P (T.setTop (mkF m pc ls st)) := by
  subst hp
  obtain ⟨cq, kq, q1, q2, q3⟩ := isOf (s := s) (T := T) hZ eT E
  obtain ⟨v, _, ⟨T', L', k', n'⟩, -, X', ⟨L, hQ, l1, l2, l3⟩, q⟩ := X.virtualBack hx hown (mvT hZ w1) (mvT hZ w2) nf (mvT hZ w3) (mvT hZ w4) hy (backOf (W := W) hM hZ w6 w5 hf hl) q1 q3 (g := mkF m pc ls st) rfl hsz (Steps.refl _) (argsL := argsL) (rest := rest) (lenOf hps hlen) hst (by show 2 * 0 + _ ≤ _; omega) (hb hby hd) (fun _ _ => ⟨has, eT, hc, hs⟩)
  dsimp only [Pt.U, Pt.locs, Pt.cells, Pt.slots] at X' l1 l2 l3 q hQ
  subst l1 l2 l3
  exact own_go (fun t k => q.trans k) (r v T' L X' hQ)
/-! the end of a walk -/
theorem own_ret {Q : Option Value → Heap → List Loc → Prop} {K N : Nat} {t : FieldType} {w : Value} {i : Instr} (X : Stand p l e R s m args below meth c T locs cells slots) (hx : p.tables.exec = Jvm.exec) (hby : c.code = bytes) (hret : meth.sig.returnType = some t) (hlocks : meth.locks = false)
    (hd : decode bytes pc = .ok (i, 1)) (hn : narrow t w = w)
    (hi : (i = .ireturn ∧ (t = .int ∨ t = .boolean ∨ t = .byte ∨ t = .char ∨ t = .short) ∧ ∃ z, w = .int z) ∨ (i = .lreturn ∧ t = .long ∧ ∃ z, w = .long z) ∨ (i = .dreturn ∧ t = .double ∧ ∃ z, w = .double z) ∨ (i = .freturn ∧ t = .float ∧ ∃ z, w = .float z) ∨ (i = .areturn ∧ t.isReference = true ∧ w.isRef = true))
    (hK : cells ≤ K) (hN : slots ≤ N) (hQ : Q (some w) T.heap locs) :
    Go p e below (fun s₂ o => s₂.status = .running ∧ Ended s₂ below o ∧ ∃ v L, o = .returned v ∧ Q v s₂.heap L ∧ FrameEnd s o s₂ L K N) (T.setTop (mkF m pc ls (w :: st))) := by
  obtain ⟨fs, hr, hrun, hended, hW, hsame⟩ := X.leave (v := some w) (fun h => by rw [hret] at h; cases h) hlocks
  exact ⟨_, _, retOut X hx hret hn hi (hb hby hd) hr, hrun, hended, _, _, rfl, hQ, ⟨_, rfl⟩, hW, hsame.mono hK hN⟩
theorem own_ret0 {Q : Option Value → Heap → List Loc → Prop} {K N : Nat} (X : Stand p l e R s m args below meth c T locs cells slots) (hx : p.tables.exec = Jvm.exec) (hby : c.code = bytes) (hret : meth.sig.returnType = none) (hlocks : meth.locks = false)
    (hd : decode bytes pc = .ok (.return_, 1)) (hK : cells ≤ K) (hN : slots ≤ N) (hQ : Q none T.heap locs) :
    Go p e below (fun s₂ o => s₂.status = .running ∧ Ended s₂ below o ∧ ∃ v L, o = .returned v ∧ Q v s₂.heap L ∧ FrameEnd s o s₂ L K N) (T.setTop (mkF m pc ls [])) := by
  obtain ⟨fs, hr, hrun, hended, hW, hsame⟩ := X.leave (v := none) (fun _ => rfl) hlocks
  exact ⟨_, _, X.returnOut hx hret (hb hby hd) hr, hrun, hended, _, _, rfl, hQ, ⟨_, rfl⟩, hW, hsame.mono hK hN⟩
/-! the case's words -/
theorem own_fld {Z : State} {args : Array Value} {t : Term} {C n d : String} {v : Int32} {x : Addr} (h : (Cond.eq (Term.field t C n d) (Term.int v)).value args Z none Z [] = some true) (ht : t.eval args Z none [] Z = some (.ref x)) : Fld Z Z.heap x C n d (.int v) :=
  Fld.start ((fld_at ht).symm.trans (eqv_i (Term.int_eval v) h))
theorem own_fldN {Z : State} {args : Array Value} {t : Term} {C n d : String} {x : Addr} (h : (Cond.eq (Term.field t C n d) Term.null).value args Z none Z [] = some true) (ht : t.eval args Z none [] Z = some (.ref x)) : Fld Z Z.heap x C n d .null :=
  Fld.start ((fld_at ht).symm.trans (null_v h))
theorem own_eqvR {Z : State} {args : Array Value} {X F : Term} {y : Addr} (hF : F.eval args Z none [] Z = some (.ref y)) (h : (Cond.eq X F).value args Z none Z [] = some true) : X.eval args Z none [] Z = some (.ref y) := by
  obtain ⟨x, y', e1, e2, k1, k2⟩ := cmp_v (Or.inl h)
  cases hF.symm.trans e2
  have hx : x.isRef = true := k2.2
  exact e1.trans (congrArg some (gotT (eq_R e1 hF hx rfl) h))
theorem own_fldR {Z : State} {args : Array Value} {t F : Term} {C n d : String} {x y : Addr} (h : (Cond.eq (Term.field t C n d) F).value args Z none Z [] = some true) (ht : t.eval args Z none [] Z = some (.ref x)) (hF : F.eval args Z none [] Z = some (.ref y)) : Fld Z Z.heap x C n d (.ref y) :=
  Fld.start ((fld_at ht).symm.trans (own_eqvR hF h))
theorem own_len_at {Z : State} {args : Array Value} {t : Term} {z : Int32} {a : Addr} {cl : Cell} (h : (Term.length t).eval args Z none [] Z = some (.int z)) (ht : t.eval args Z none [] Z = some (.ref a)) (ha : Z.arrayAt? a = some cl) : cl.slots.size < 2 ^ 31 ∧ cl.slots.size.toInt32 = z := by
  by_cases q : cl.slots.size < 2 ^ 31
  · refine ⟨q, ?_⟩
    rw [len_f ht ha q] at h
    exact Value.int.inj (Option.some.inj h)
  · exfalso
    simp [Term.eval, ht, ha, q] at h
/-- what a callee that writes nothing leaves -/
def own_Q (r : Option Value) (n0 : Nat) (h0 : Heap) (v : Option Value) (h : Heap) (L : List Loc) : Prop := v = r ∧ Fr n0 L ∧ h = h0
/-- what the law leaves -/
def own_Q1 (n0 : Nat) (v : Option Value) (h : Heap) (L : List Loc) : Prop := v = some (.int 1) ∧ Fr n0 L
end Own
/-! small facts on ints -/
theorem own_mask_nn (x : Int32) : 0 ≤ (x &&& 2147483647).toInt := by
  have h : (x &&& 2147483647).toInt = x.toInt % 2 ^ 31 := Jvm.Kit.i32_mask x 2147483647 (k := 31) (by decide) (by decide)
  omega
theorem own_mod_toInt (x y : Int32) (hy : 0 < y.toInt) (hx : 0 ≤ x.toInt) : (x % y).toInt = x.toInt % y.toInt := Jvm.Kit.i32_rem_nonneg hx
theorem own_and_toInt1 (x : Int32) : (x &&& 1).toInt = x.toInt % 2 := Jvm.Kit.i32_mask x 1 (k := 1) (by decide) (by decide)
theorem own_and_toInt3 (x : Int32) : (x &&& 3).toInt = x.toInt % 4 := Jvm.Kit.i32_mask x 3 (k := 2) (by decide) (by decide)
theorem own_and_toInt7 (x : Int32) : (x &&& 7).toInt = x.toInt % 8 := Jvm.Kit.i32_mask x 7 (k := 3) (by decide) (by decide)
theorem own_mkI (x m : Int32) (k : Nat) (hk : k < 32) (hm : m.toBitVec.toNat = 2 ^ k - 1) : 0 ≤ (x &&& m).toInt ∧ (x &&& m).toInt ≤ m.toInt := by
  have h1 := Jvm.Kit.i32_mask x m hk hm
  have h2 : m.toInt = 2 ^ k - 1 := by
    have h3 : m.toInt = (m.toBitVec).toInt := rfl
    have h4 : (2 : Nat) ^ k ≤ 2 ^ 31 := Nat.pow_le_pow_right (by decide) (by omega)
    rw [h3, BitVec.toInt_eq_toNat_cond, hm]
    have h5 : 0 < (2 : Nat) ^ k := Nat.pow_pos (by decide)
    have h6 : ((2 ^ k - 1 : Nat) : Int) = (2 : Int) ^ k - 1 := by
      rw [Int.natCast_sub h5]; simp
    split
    · exact h6
    · omega
  have h7 : (0 : Int) < 2 ^ k := Int.pow_pos (by decide)
  have h8 := Int.emod_nonneg x.toInt (Int.ne_of_gt h7)
  have h9 := Int.emod_lt_of_pos x.toInt h7
  omega
theorem own_mkJ (x m : Int64) (k : Nat) (hk : k < 64) (hm : m.toBitVec.toNat = 2 ^ k - 1) : 0 ≤ (x &&& m).toInt ∧ (x &&& m).toInt ≤ m.toInt := by
  have h1 := Jvm.Kit.i64_mask x m hk hm
  have h2 : m.toInt = 2 ^ k - 1 := by
    have h3 : m.toInt = (m.toBitVec).toInt := rfl
    have h4 : (2 : Nat) ^ k ≤ 2 ^ 63 := Nat.pow_le_pow_right (by decide) (by omega)
    rw [h3, BitVec.toInt_eq_toNat_cond, hm]
    have h5 : 0 < (2 : Nat) ^ k := Nat.pow_pos (by decide)
    have h6 : ((2 ^ k - 1 : Nat) : Int) = (2 : Int) ^ k - 1 := by
      rw [Int.natCast_sub h5]; simp
    split
    · exact h6
    · omega
  have h7 : (0 : Int) < 2 ^ k := Int.pow_pos (by decide)
  have h8 := Int.emod_nonneg x.toInt (Int.ne_of_gt h7)
  have h9 := Int.emod_lt_of_pos x.toInt h7
  omega
theorem own_rngI (x : Int32) : -2 ^ 31 ≤ x.toInt ∧ x.toInt < 2 ^ 31 := ⟨Int32.le_toInt x, Int32.toInt_lt x⟩
theorem own_rngJ (x : Int64) : -2 ^ 63 ≤ x.toInt ∧ x.toInt < 2 ^ 63 := ⟨Int64.le_toInt x, Int64.toInt_lt x⟩
theorem own_rmI {x : Int32} (hx : 0 ≤ x.toInt) (y : Int32) (hy : 0 < y.toInt) : 0 ≤ (x % y).toInt ∧ (x % y).toInt ≤ y.toInt - 1 := by
  rw [Jvm.Kit.i32_rem_nonneg hx]
  have h8 := Int.emod_nonneg x.toInt (Int.ne_of_gt hy)
  have h9 := Int.emod_lt_of_pos x.toInt hy
  omega
theorem own_rmJ (x y : Int64) (hy : 0 < y.toInt) : -(y.toInt - 1) ≤ (x - (x / y) * y).toInt ∧ (x - (x / y) * y).toInt ≤ y.toInt - 1 := by
  rw [Jvm.Kit.i64_rem]
  have h1 := Int.tmod_lt_of_pos x.toInt hy
  have h2 := Int.lt_tmod_of_pos x.toInt hy
  omega
theorem own_dvI {x : Int32} (hx : 0 ≤ x.toInt) (y : Int32) (hy : 0 < y.toInt) : (x / y).toInt = x.toInt / y.toInt := by
  rw [Jvm.Kit.i32_div (by omega), Int.tdiv_eq_ediv_of_nonneg hx]
theorem own_bdI {x a b : Int32} (h1 : ¬ (x < a)) (h2 : ¬ (b < x)) : a.toInt ≤ x.toInt ∧ x.toInt ≤ b.toInt := by
  rw [Int32.lt_iff_toInt_lt] at h1 h2
  omega
theorem own_bdJ {x a b : Int64} (h1 : ¬ (x < a)) (h2 : ¬ (b < x)) : a.toInt ≤ x.toInt ∧ x.toInt ≤ b.toInt := by
  rw [Int64.lt_iff_toInt_lt] at h1 h2
  omega
theorem own_and1 (x : Int32) : x &&& 1 = 0 ∨ x &&& 1 = 1 := by
  have h1 : (x &&& 1).toInt = x.toInt % 2 := own_and_toInt1 x
  have h3 : ∀ y : Int32, ∀ k : Int32, y.toInt = k.toInt → y = k := fun _ _ q => Int32.toInt_inj.mp q
  have h4 : x.toInt % 2 = 0 ∨ x.toInt % 2 = 1 := by omega
  rcases h4 with h4 | h4
  · exact Or.inl (h3 _ _ (h1.trans h4))
  · exact Or.inr (h3 _ _ (h1.trans h4))
theorem own_mod3 (x : Int32) : (x &&& 2147483647) % 3 = 0 ∨ (x &&& 2147483647) % 3 = 1 ∨ (x &&& 2147483647) % 3 = 2 := by
  have h1 : ((x &&& 2147483647) % 3).toInt = (x &&& 2147483647).toInt % 3 := own_mod_toInt _ 3 (by decide) (own_mask_nn x)
  have h2 := own_mask_nn x
  have h3 : ∀ y : Int32, ∀ k : Int32, y.toInt = k.toInt → y = k := fun _ _ q => Int32.toInt_inj.mp q
  have h4 : (x &&& 2147483647).toInt % 3 = 0 ∨ (x &&& 2147483647).toInt % 3 = 1 ∨ (x &&& 2147483647).toInt % 3 = 2 := by omega
  rcases h4 with h4 | h4 | h4
  · exact Or.inl (h3 _ _ (h1.trans h4))
  · exact Or.inr (Or.inl (h3 _ _ (h1.trans h4)))
  · exact Or.inr (Or.inr (h3 _ _ (h1.trans h4)))
def own_W (Z : State) (w_TRUE w_FALSE w_UNKNOWN : Addr) : Prop := Sta Z Z.heap "com/example/foram/foram/Truth" "TRUE" "Lcom/example/foram/foram/Truth;" (.ref w_TRUE) ∧ Exa Z Z.heap w_TRUE "com/example/foram/foram/Truth" ∧ Sta Z Z.heap "com/example/foram/foram/Truth" "FALSE" "Lcom/example/foram/foram/Truth;" (.ref w_FALSE) ∧ Exa Z Z.heap w_FALSE "com/example/foram/foram/Truth" ∧ Sta Z Z.heap "com/example/foram/foram/Truth" "UNKNOWN" "Lcom/example/foram/foram/Truth;" (.ref w_UNKNOWN) ∧ Exa Z Z.heap w_UNKNOWN "com/example/foram/foram/Truth" ∧ Fld Z Z.heap w_FALSE "java/lang/Enum" "ordinal" "I" (.int (1 : Int32)) ∧ Fld Z Z.heap w_TRUE "java/lang/Enum" "ordinal" "I" (.int (0 : Int32)) ∧ Fld Z Z.heap w_UNKNOWN "java/lang/Enum" "ordinal" "I" (.int (2 : Int32))
theorem d1_0 : decode method_2_code 0 = .ok (.iload_n 0, 1) := by decide +kernel
theorem d1_1 : decode method_2_code 1 = .ok (.ldc 7, 2) := by decide +kernel
theorem d1_3 : decode method_2_code 3 = .ok (.iand, 1) := by decide +kernel
theorem d1_4 : decode method_2_code 4 = .ok (.iconst 3, 1) := by decide +kernel
theorem d1_5 : decode method_2_code 5 = .ok (.irem, 1) := by decide +kernel
theorem d1_6 : decode method_2_code 6 = .ok (.istore_n 1, 1) := by decide +kernel
theorem d1_7 : decode method_2_code 7 = .ok (.iload_n 1, 1) := by decide +kernel
theorem d1_8 : decode method_2_code 8 = .ok (.ifCond .ne 10, 3) := by decide +kernel
theorem d1_11 : decode method_2_code 11 = .ok (.getstatic 8, 3) := by decide +kernel
theorem d1_14 : decode method_2_code 14 = .ok (.astore_n 2, 1) := by decide +kernel
theorem d1_15 : decode method_2_code 15 = .ok (.goto 19, 3) := by decide +kernel
theorem d1_34 : decode method_2_code 34 = .ok (.aload_n 2, 1) := by decide +kernel
theorem d1_35 : decode method_2_code 35 = .ok (.areturn, 1) := by decide +kernel
theorem ef_1 (m : MethodId) (x0 : Int32) : entryFrame m #[(.int x0)] 3 = mkF m 0 #[oI x0, oU, oU] [] := by first | (simp [entryFrame, mkF, argsToLocals, Value.category]; done) | rfl
theorem pn_0 : plainName "com/example/foram/foram/TruthNotPinLaw" = true := by first | (simp [plainName, overriddenIn]; done) | decide +kernel
theorem d1_18 : decode method_2_code 18 = .ok (.iload_n 1, 1) := by decide +kernel
theorem d1_19 : decode method_2_code 19 = .ok (.iconst 1, 1) := by decide +kernel
theorem d1_20 : decode method_2_code 20 = .ok (.if_icmp .ne 10, 3) := by decide +kernel
theorem d1_23 : decode method_2_code 23 = .ok (.getstatic 14, 3) := by decide +kernel
theorem d1_26 : decode method_2_code 26 = .ok (.astore_n 2, 1) := by decide +kernel
theorem d1_27 : decode method_2_code 27 = .ok (.goto 7, 3) := by decide +kernel
theorem d1_30 : decode method_2_code 30 = .ok (.getstatic 17, 3) := by decide +kernel
theorem d1_33 : decode method_2_code 33 = .ok (.astore_n 2, 1) := by decide +kernel
theorem pd_0 : parseMethodDescriptor "(I)Lcom/example/foram/foram/Truth;" = some ⟨[.int], some (.object "com/example/foram/foram/Truth")⟩ := by decide +kernel
theorem d2_0 : decode prog_55_method_4_code 0 = .ok (.iload_n 0, 1) := by decide +kernel
theorem d2_1 : decode prog_55_method_4_code 1 = .ok (.ifCond .eq 9, 3) := by decide +kernel
theorem d2_10 : decode prog_55_method_4_code 10 = .ok (.getstatic 7, 3) := by decide +kernel
theorem d2_13 : decode prog_55_method_4_code 13 = .ok (.areturn, 1) := by decide +kernel
theorem ef_2 (m : MethodId) (x0 : Int32) : entryFrame m #[(.int x0)] 1 = mkF m 0 #[oI x0] [] := by first | (simp [entryFrame, mkF, argsToLocals, Value.category]; done) | rfl
theorem pn_1 : plainName "com/example/foram/foram/Truth" = true := by first | (simp [plainName, overriddenIn]; done) | decide +kernel
theorem d2_4 : decode prog_55_method_4_code 4 = .ok (.getstatic 3, 3) := by decide +kernel
theorem d2_7 : decode prog_55_method_4_code 7 = .ok (.goto 6, 3) := by decide +kernel
theorem pd_1 : parseMethodDescriptor "(Z)Lcom/example/foram/foram/Truth;" = some ⟨[.boolean], some (.object "com/example/foram/foram/Truth")⟩ := by decide +kernel
theorem d3_0 : decode prog_55_method_7_code 0 = .ok (.aload_n 0, 1) := by decide +kernel
theorem d3_1 : decode prog_55_method_7_code 1 = .ok (.getstatic 3, 3) := by decide +kernel
theorem d3_4 : decode prog_55_method_7_code 4 = .ok (.if_acmp .ne 10, 3) := by decide +kernel
theorem d3_7 : decode prog_55_method_7_code 7 = .ok (.getstatic 7, 3) := by decide +kernel
theorem d3_10 : decode prog_55_method_7_code 10 = .ok (.astore_n 1, 1) := by decide +kernel
theorem d3_11 : decode prog_55_method_7_code 11 = .ok (.goto 21, 3) := by decide +kernel
theorem d3_32 : decode prog_55_method_7_code 32 = .ok (.aload_n 1, 1) := by decide +kernel
theorem d3_33 : decode prog_55_method_7_code 33 = .ok (.areturn, 1) := by decide +kernel
theorem ef_3 (m : MethodId) (r0 : Addr) : entryFrame m #[(.ref r0)] 2 = mkF m 0 #[oA r0, oU] [] := by first | (simp [entryFrame, mkF, argsToLocals, Value.category]; done) | rfl
theorem d3_14 : decode prog_55_method_7_code 14 = .ok (.aload_n 0, 1) := by decide +kernel
theorem d3_15 : decode prog_55_method_7_code 15 = .ok (.getstatic 7, 3) := by decide +kernel
theorem d3_18 : decode prog_55_method_7_code 18 = .ok (.if_acmp .ne 10, 3) := by decide +kernel
theorem d3_21 : decode prog_55_method_7_code 21 = .ok (.getstatic 3, 3) := by decide +kernel
theorem d3_24 : decode prog_55_method_7_code 24 = .ok (.astore_n 1, 1) := by decide +kernel
theorem d3_25 : decode prog_55_method_7_code 25 = .ok (.goto 7, 3) := by decide +kernel
theorem d3_28 : decode prog_55_method_7_code 28 = .ok (.getstatic 10, 3) := by decide +kernel
theorem d3_31 : decode prog_55_method_7_code 31 = .ok (.astore_n 1, 1) := by decide +kernel
theorem pd_2 : parseMethodDescriptor "()Lcom/example/foram/foram/Truth;" = some ⟨[], some (.object "com/example/foram/foram/Truth")⟩ := by decide +kernel
theorem d4_0 : decode prog_55_method_5_code 0 = .ok (.aload_n 0, 1) := by decide +kernel
theorem d4_1 : decode prog_55_method_5_code 1 = .ok (.getstatic 7, 3) := by decide +kernel
theorem d4_4 : decode prog_55_method_5_code 4 = .ok (.if_acmp .eq 10, 3) := by decide +kernel
theorem d4_14 : decode prog_55_method_5_code 14 = .ok (.getstatic 7, 3) := by decide +kernel
theorem d4_17 : decode prog_55_method_5_code 17 = .ok (.astore_n 2, 1) := by decide +kernel
theorem d4_18 : decode prog_55_method_5_code 18 = .ok (.goto 28, 3) := by decide +kernel
theorem d4_46 : decode prog_55_method_5_code 46 = .ok (.aload_n 2, 1) := by decide +kernel
theorem d4_47 : decode prog_55_method_5_code 47 = .ok (.areturn, 1) := by decide +kernel
theorem ef_4 (m : MethodId) (r0 : Addr) (r1 : Addr) : entryFrame m #[(.ref r0), (.ref r1)] 3 = mkF m 0 #[oA r0, oA r1, oU] [] := by first | (simp [entryFrame, mkF, argsToLocals, Value.category]; done) | rfl
theorem d4_7 : decode prog_55_method_5_code 7 = .ok (.aload_n 1, 1) := by decide +kernel
theorem d4_8 : decode prog_55_method_5_code 8 = .ok (.getstatic 7, 3) := by decide +kernel
theorem d4_11 : decode prog_55_method_5_code 11 = .ok (.if_acmp .ne 10, 3) := by decide +kernel
theorem d4_21 : decode prog_55_method_5_code 21 = .ok (.aload_n 0, 1) := by decide +kernel
theorem d4_22 : decode prog_55_method_5_code 22 = .ok (.getstatic 3, 3) := by decide +kernel
theorem d4_25 : decode prog_55_method_5_code 25 = .ok (.if_acmp .ne 17, 3) := by decide +kernel
theorem d4_28 : decode prog_55_method_5_code 28 = .ok (.aload_n 1, 1) := by decide +kernel
theorem d4_29 : decode prog_55_method_5_code 29 = .ok (.getstatic 3, 3) := by decide +kernel
theorem d4_32 : decode prog_55_method_5_code 32 = .ok (.if_acmp .ne 10, 3) := by decide +kernel
theorem d4_35 : decode prog_55_method_5_code 35 = .ok (.getstatic 3, 3) := by decide +kernel
theorem d4_38 : decode prog_55_method_5_code 38 = .ok (.astore_n 2, 1) := by decide +kernel
theorem d4_39 : decode prog_55_method_5_code 39 = .ok (.goto 7, 3) := by decide +kernel
theorem d4_42 : decode prog_55_method_5_code 42 = .ok (.getstatic 10, 3) := by decide +kernel
theorem d4_45 : decode prog_55_method_5_code 45 = .ok (.astore_n 2, 1) := by decide +kernel
theorem pd_3 : parseMethodDescriptor "(Lcom/example/foram/foram/Truth;)Lcom/example/foram/foram/Truth;" = some ⟨[(.object "com/example/foram/foram/Truth")], some (.object "com/example/foram/foram/Truth")⟩ := by decide +kernel
theorem d5_0 : decode prog_55_method_6_code 0 = .ok (.aload_n 0, 1) := by decide +kernel
theorem d5_1 : decode prog_55_method_6_code 1 = .ok (.getstatic 3, 3) := by decide +kernel
theorem d5_4 : decode prog_55_method_6_code 4 = .ok (.if_acmp .eq 10, 3) := by decide +kernel
theorem d5_14 : decode prog_55_method_6_code 14 = .ok (.getstatic 3, 3) := by decide +kernel
theorem d5_17 : decode prog_55_method_6_code 17 = .ok (.astore_n 2, 1) := by decide +kernel
theorem d5_18 : decode prog_55_method_6_code 18 = .ok (.goto 28, 3) := by decide +kernel
theorem d5_46 : decode prog_55_method_6_code 46 = .ok (.aload_n 2, 1) := by decide +kernel
theorem d5_47 : decode prog_55_method_6_code 47 = .ok (.areturn, 1) := by decide +kernel
theorem ef_5 (m : MethodId) (r0 : Addr) (r1 : Addr) : entryFrame m #[(.ref r0), (.ref r1)] 3 = mkF m 0 #[oA r0, oA r1, oU] [] := by first | (simp [entryFrame, mkF, argsToLocals, Value.category]; done) | rfl
theorem d5_7 : decode prog_55_method_6_code 7 = .ok (.aload_n 1, 1) := by decide +kernel
theorem d5_8 : decode prog_55_method_6_code 8 = .ok (.getstatic 3, 3) := by decide +kernel
theorem d5_11 : decode prog_55_method_6_code 11 = .ok (.if_acmp .ne 10, 3) := by decide +kernel
theorem d5_21 : decode prog_55_method_6_code 21 = .ok (.aload_n 0, 1) := by decide +kernel
theorem d5_22 : decode prog_55_method_6_code 22 = .ok (.getstatic 7, 3) := by decide +kernel
theorem d5_25 : decode prog_55_method_6_code 25 = .ok (.if_acmp .ne 17, 3) := by decide +kernel
theorem d5_28 : decode prog_55_method_6_code 28 = .ok (.aload_n 1, 1) := by decide +kernel
theorem d5_29 : decode prog_55_method_6_code 29 = .ok (.getstatic 7, 3) := by decide +kernel
theorem d5_32 : decode prog_55_method_6_code 32 = .ok (.if_acmp .ne 10, 3) := by decide +kernel
theorem d5_35 : decode prog_55_method_6_code 35 = .ok (.getstatic 7, 3) := by decide +kernel
theorem d5_38 : decode prog_55_method_6_code 38 = .ok (.astore_n 2, 1) := by decide +kernel
theorem d5_39 : decode prog_55_method_6_code 39 = .ok (.goto 7, 3) := by decide +kernel
theorem d5_42 : decode prog_55_method_6_code 42 = .ok (.getstatic 10, 3) := by decide +kernel
theorem d5_45 : decode prog_55_method_6_code 45 = .ok (.astore_n 2, 1) := by decide +kernel
theorem ef_0 (m : MethodId) (x0 : Int32) (x1 : Int32) (x2 : Int32) : entryFrame m #[(.int x0), (.int x1), (.int x2)] maxLocals = mkF m 0 #[oI x0, oI x1, oI x2, oU, oU, oU, oU, oU, oU] [] := by first | (simp [entryFrame, mkF, argsToLocals, Value.category, maxLocals]; done) | rfl
set_option maxRecDepth 65536 in
set_option maxHeartbeats 40000000 in
theorem rm1_1 (l : Launch) (Z : State) (a0 : Array Value) (hw : ∀ d ∈ tables_1, d.before a0 Z = true) (ws : List Jvm.Cond) (w_TRUE w_FALSE w_UNKNOWN : Addr) (W : own_W Z w_TRUE w_FALSE w_UNKNOWN) (x0 : Int32) (h0 : Heap) (n0 : Nat) (O0 : Old Z n0 h0) (hv1 : ((x0 &&& (2147483647 : Int32)) % (3 : Int32)) = (0 : Int32)) :
    MetFree l (⟨"com/example/foram/foram/TruthNotPinLaw", "pick", "(I)Lcom/example/foram/foram/Truth;"⟩ : MethodName) (head1 (Jvm.Cond.code (⟨"com/example/foram/foram/TruthNotPinLaw", "pick", "(I)Lcom/example/foram/foram/Truth;"⟩ : MethodName) method_2_code 3 (some (.object "com/example/foram/foram/Truth")) :: ws) ({ frames := 0, cells := 0, slots := 0, locals := 0 } : Room)) (fun a U => a = #[(.int x0)] ∧ Z.Warmed39 U.vm ∧ U.heap = h0) (fun _ _ _ _ _ => True) (fun _ U o U' => ∃ v L, o = .returned v ∧ own_Q (some (.ref w_TRUE)) n0 h0 v U'.heap L ∧ FrameEnd U o U' L ({ frames := 0, cells := 0, slots := 0, locals := 0 } : Room).cells ({ frames := 0, cells := 0, slots := 0, locals := 0 } : Room).slots) := by
  refine MetFree.of_bodySF (plainFor_of_name pn_0) hisR ?_
  intro p e s m args below meth c s₁ Bd hml0 hP hK
  obtain ⟨rfl, hZ, hh⟩ := hP
  have hx := Bd.exec
  have hby := Bd.bytes
  have hml : c.maxLocals = 3 := hml0
  have hlk := BodyLoose.notSynchronized Bd
  have hret := Bd.returns
  have hown : s.vm.findClass "com/example/foram/foram/TruthNotPinLaw" = some m.cls := findClass_of_methodNamed Bd.named
  have hnm := (name_of_methodNamed Bd.named Bd.method).1
  have X0 : Stand p l e ({ frames := 0, cells := 0, slots := 0, locals := 0 } : Room) s m #[(.int x0)] below meth c s₁ [] 0 0 := Stand.of_body Bd
  have e0 : s₁.heap = h0 := by rw [← hh, Bd.state]; rfl
  have N0 := Fr.nil n0
  rw [ef_1 m x0]
  show Go p e below _ (s₁.setTop (mkF m 0 #[oI x0, oU, oU] []))
  refine own_iload_n 1 X0 hx hby d1_0 rfl rfl ?_
  refine own_ldc 3 X0 hx hby hZ hown (own_w hw 4 rfl) d1_1 rfl ?_
  refine own_iand 4 (x0 &&& (2147483647 : Int32)) X0 hx hby d1_3 rfl rfl ?_
  refine own_iconst 5 (3 : Int32) X0 hx hby d1_4 rfl (by decide) ?_
  refine own_irem 6 (0 : Int32) X0 hx hby d1_5 rfl (by decide) hv1 ?_
  refine own_istore_n 7 #[oI x0, oI (0 : Int32), oU] X0 hx hby d1_6 rfl rfl ?_
  refine own_iload_n 8 X0 hx hby d1_7 rfl rfl ?_
  refine own_ifN 11 X0 hx hby d1_8 rfl (by decide) ?_
  refine own_getS 14 X0 hx hby hZ hown (own_w hw 5 rfl) e0 (W.1.ext O0.2) d1_11 rfl ?_
  intro T2 X2 e2
  refine own_astore_n 15 #[oI x0, oI (0 : Int32), oA w_TRUE] X2 hx hby d1_14 rfl rfl rfl ?_
  refine own_goto 34 X2 hx hby d1_15 (by decide) (by decide) ?_
  refine own_aload_n 35 X2 hx hby d1_34 rfl rfl rfl ?_
  exact own_ret (Q := own_Q _ n0 h0) X2 hx hby hret hlk d1_35 rfl (Or.inr (Or.inr (Or.inr (Or.inr ⟨rfl, rfl, rfl⟩)))) (by decide) (by decide) ⟨rfl, N0, e2⟩
set_option maxRecDepth 65536 in
set_option maxHeartbeats 40000000 in
theorem rm1_2 (l : Launch) (Z : State) (a0 : Array Value) (hw : ∀ d ∈ tables_1, d.before a0 Z = true) (ws : List Jvm.Cond) (w_TRUE w_FALSE w_UNKNOWN : Addr) (W : own_W Z w_TRUE w_FALSE w_UNKNOWN) (x0 : Int32) (h0 : Heap) (n0 : Nat) (O0 : Old Z n0 h0) (hv1 : ((x0 &&& (2147483647 : Int32)) % (3 : Int32)) = (1 : Int32)) :
    MetFree l (⟨"com/example/foram/foram/TruthNotPinLaw", "pick", "(I)Lcom/example/foram/foram/Truth;"⟩ : MethodName) (head1 (Jvm.Cond.code (⟨"com/example/foram/foram/TruthNotPinLaw", "pick", "(I)Lcom/example/foram/foram/Truth;"⟩ : MethodName) method_2_code 3 (some (.object "com/example/foram/foram/Truth")) :: ws) ({ frames := 0, cells := 0, slots := 0, locals := 0 } : Room)) (fun a U => a = #[(.int x0)] ∧ Z.Warmed39 U.vm ∧ U.heap = h0) (fun _ _ _ _ _ => True) (fun _ U o U' => ∃ v L, o = .returned v ∧ own_Q (some (.ref w_FALSE)) n0 h0 v U'.heap L ∧ FrameEnd U o U' L ({ frames := 0, cells := 0, slots := 0, locals := 0 } : Room).cells ({ frames := 0, cells := 0, slots := 0, locals := 0 } : Room).slots) := by
  refine MetFree.of_bodySF (plainFor_of_name pn_0) hisR ?_
  intro p e s m args below meth c s₁ Bd hml0 hP hK
  obtain ⟨rfl, hZ, hh⟩ := hP
  have hx := Bd.exec
  have hby := Bd.bytes
  have hml : c.maxLocals = 3 := hml0
  have hlk := BodyLoose.notSynchronized Bd
  have hret := Bd.returns
  have hown : s.vm.findClass "com/example/foram/foram/TruthNotPinLaw" = some m.cls := findClass_of_methodNamed Bd.named
  have hnm := (name_of_methodNamed Bd.named Bd.method).1
  have X0 : Stand p l e ({ frames := 0, cells := 0, slots := 0, locals := 0 } : Room) s m #[(.int x0)] below meth c s₁ [] 0 0 := Stand.of_body Bd
  have e0 : s₁.heap = h0 := by rw [← hh, Bd.state]; rfl
  have N0 := Fr.nil n0
  rw [ef_1 m x0]
  show Go p e below _ (s₁.setTop (mkF m 0 #[oI x0, oU, oU] []))
  refine own_iload_n 1 X0 hx hby d1_0 rfl rfl ?_
  refine own_ldc 3 X0 hx hby hZ hown (own_w hw 4 rfl) d1_1 rfl ?_
  refine own_iand 4 (x0 &&& (2147483647 : Int32)) X0 hx hby d1_3 rfl rfl ?_
  refine own_iconst 5 (3 : Int32) X0 hx hby d1_4 rfl (by decide) ?_
  refine own_irem 6 (1 : Int32) X0 hx hby d1_5 rfl (by decide) hv1 ?_
  refine own_istore_n 7 #[oI x0, oI (1 : Int32), oU] X0 hx hby d1_6 rfl rfl ?_
  refine own_iload_n 8 X0 hx hby d1_7 rfl rfl ?_
  refine own_ifY 18 X0 hx hby d1_8 (by decide) (by decide) (by decide) ?_
  refine own_iload_n 19 X0 hx hby d1_18 rfl rfl ?_
  refine own_iconst 20 (1 : Int32) X0 hx hby d1_19 rfl (by decide) ?_
  refine own_icN 23 X0 hx hby d1_20 rfl (by decide) ?_
  refine own_getS 26 X0 hx hby hZ hown (own_w hw 29 rfl) e0 (W.2.2.1.ext O0.2) d1_23 rfl ?_
  intro T3 X3 e3
  refine own_astore_n 27 #[oI x0, oI (1 : Int32), oA w_FALSE] X3 hx hby d1_26 rfl rfl rfl ?_
  refine own_goto 34 X3 hx hby d1_27 (by decide) (by decide) ?_
  refine own_aload_n 35 X3 hx hby d1_34 rfl rfl rfl ?_
  exact own_ret (Q := own_Q _ n0 h0) X3 hx hby hret hlk d1_35 rfl (Or.inr (Or.inr (Or.inr (Or.inr ⟨rfl, rfl, rfl⟩)))) (by decide) (by decide) ⟨rfl, N0, e3⟩
set_option maxRecDepth 65536 in
set_option maxHeartbeats 40000000 in
theorem rm1_3 (l : Launch) (Z : State) (a0 : Array Value) (hw : ∀ d ∈ tables_1, d.before a0 Z = true) (ws : List Jvm.Cond) (w_TRUE w_FALSE w_UNKNOWN : Addr) (W : own_W Z w_TRUE w_FALSE w_UNKNOWN) (x0 : Int32) (h0 : Heap) (n0 : Nat) (O0 : Old Z n0 h0) (hv1 : ((x0 &&& (2147483647 : Int32)) % (3 : Int32)) = (2 : Int32)) :
    MetFree l (⟨"com/example/foram/foram/TruthNotPinLaw", "pick", "(I)Lcom/example/foram/foram/Truth;"⟩ : MethodName) (head1 (Jvm.Cond.code (⟨"com/example/foram/foram/TruthNotPinLaw", "pick", "(I)Lcom/example/foram/foram/Truth;"⟩ : MethodName) method_2_code 3 (some (.object "com/example/foram/foram/Truth")) :: ws) ({ frames := 0, cells := 0, slots := 0, locals := 0 } : Room)) (fun a U => a = #[(.int x0)] ∧ Z.Warmed39 U.vm ∧ U.heap = h0) (fun _ _ _ _ _ => True) (fun _ U o U' => ∃ v L, o = .returned v ∧ own_Q (some (.ref w_UNKNOWN)) n0 h0 v U'.heap L ∧ FrameEnd U o U' L ({ frames := 0, cells := 0, slots := 0, locals := 0 } : Room).cells ({ frames := 0, cells := 0, slots := 0, locals := 0 } : Room).slots) := by
  refine MetFree.of_bodySF (plainFor_of_name pn_0) hisR ?_
  intro p e s m args below meth c s₁ Bd hml0 hP hK
  obtain ⟨rfl, hZ, hh⟩ := hP
  have hx := Bd.exec
  have hby := Bd.bytes
  have hml : c.maxLocals = 3 := hml0
  have hlk := BodyLoose.notSynchronized Bd
  have hret := Bd.returns
  have hown : s.vm.findClass "com/example/foram/foram/TruthNotPinLaw" = some m.cls := findClass_of_methodNamed Bd.named
  have hnm := (name_of_methodNamed Bd.named Bd.method).1
  have X0 : Stand p l e ({ frames := 0, cells := 0, slots := 0, locals := 0 } : Room) s m #[(.int x0)] below meth c s₁ [] 0 0 := Stand.of_body Bd
  have e0 : s₁.heap = h0 := by rw [← hh, Bd.state]; rfl
  have N0 := Fr.nil n0
  rw [ef_1 m x0]
  show Go p e below _ (s₁.setTop (mkF m 0 #[oI x0, oU, oU] []))
  refine own_iload_n 1 X0 hx hby d1_0 rfl rfl ?_
  refine own_ldc 3 X0 hx hby hZ hown (own_w hw 4 rfl) d1_1 rfl ?_
  refine own_iand 4 (x0 &&& (2147483647 : Int32)) X0 hx hby d1_3 rfl rfl ?_
  refine own_iconst 5 (3 : Int32) X0 hx hby d1_4 rfl (by decide) ?_
  refine own_irem 6 (2 : Int32) X0 hx hby d1_5 rfl (by decide) hv1 ?_
  refine own_istore_n 7 #[oI x0, oI (2 : Int32), oU] X0 hx hby d1_6 rfl rfl ?_
  refine own_iload_n 8 X0 hx hby d1_7 rfl rfl ?_
  refine own_ifY 18 X0 hx hby d1_8 (by decide) (by decide) (by decide) ?_
  refine own_iload_n 19 X0 hx hby d1_18 rfl rfl ?_
  refine own_iconst 20 (1 : Int32) X0 hx hby d1_19 rfl (by decide) ?_
  refine own_icY 30 X0 hx hby d1_20 (by decide) (by decide) (by decide) ?_
  refine own_getS 33 X0 hx hby hZ hown (own_w hw 30 rfl) e0 (W.2.2.2.2.1.ext O0.2) d1_30 rfl ?_
  intro T4 X4 e4
  refine own_astore_n 34 #[oI x0, oI (2 : Int32), oA w_UNKNOWN] X4 hx hby d1_33 rfl rfl rfl ?_
  refine own_aload_n 35 X4 hx hby d1_34 rfl rfl rfl ?_
  exact own_ret (Q := own_Q _ n0 h0) X4 hx hby hret hlk d1_35 rfl (Or.inr (Or.inr (Or.inr (Or.inr ⟨rfl, rfl, rfl⟩)))) (by decide) (by decide) ⟨rfl, N0, e4⟩
set_option maxRecDepth 65536 in
set_option maxHeartbeats 40000000 in
theorem rm2_1 (l : Launch) (Z : State) (a0 : Array Value) (hw : ∀ d ∈ tables_1, d.before a0 Z = true) (ws : List Jvm.Cond) (w_TRUE w_FALSE w_UNKNOWN : Addr) (W : own_W Z w_TRUE w_FALSE w_UNKNOWN) (x0 : Int32) (h0 : Heap) (n0 : Nat) (O0 : Old Z n0 h0) (hc10 : x0 = (0 : Int32)) :
    MetFree l (⟨"com/example/foram/foram/Truth", "of", "(Z)Lcom/example/foram/foram/Truth;"⟩ : MethodName) (head1 (Jvm.Cond.code (⟨"com/example/foram/foram/Truth", "of", "(Z)Lcom/example/foram/foram/Truth;"⟩ : MethodName) prog_55_method_4_code 1 (some (.object "com/example/foram/foram/Truth")) :: ws) ({ frames := 0, cells := 0, slots := 0, locals := 0 } : Room)) (fun a U => a = #[(.int x0)] ∧ Z.Warmed39 U.vm ∧ U.heap = h0) (fun _ _ _ _ _ => True) (fun _ U o U' => ∃ v L, o = .returned v ∧ own_Q (some (.ref w_FALSE)) n0 h0 v U'.heap L ∧ FrameEnd U o U' L ({ frames := 0, cells := 0, slots := 0, locals := 0 } : Room).cells ({ frames := 0, cells := 0, slots := 0, locals := 0 } : Room).slots) := by
  refine MetFree.of_bodySF (plainFor_of_name pn_1) hisR ?_
  intro p e s m args below meth c s₁ Bd hml0 hP hK
  obtain ⟨rfl, hZ, hh⟩ := hP
  have hx := Bd.exec
  have hby := Bd.bytes
  have hml : c.maxLocals = 1 := hml0
  have hlk := BodyLoose.notSynchronized Bd
  have hret := Bd.returns
  have hown : s.vm.findClass "com/example/foram/foram/Truth" = some m.cls := findClass_of_methodNamed Bd.named
  have hnm := (name_of_methodNamed Bd.named Bd.method).1
  have X0 : Stand p l e ({ frames := 0, cells := 0, slots := 0, locals := 0 } : Room) s m #[(.int x0)] below meth c s₁ [] 0 0 := Stand.of_body Bd
  have e0 : s₁.heap = h0 := by rw [← hh, Bd.state]; rfl
  have N0 := Fr.nil n0
  rw [ef_2 m x0]
  show Go p e below _ (s₁.setTop (mkF m 0 #[oI x0] []))
  refine own_iload_n 1 X0 hx hby d2_0 rfl rfl ?_
  refine own_ifY 10 X0 hx hby d2_1 (by decide) (by decide) ((if0 _ _).trans (teq hc10).1) ?_
  refine own_getS 13 X0 hx hby hZ hown (own_w hw 11 rfl) e0 (W.2.2.1.ext O0.2) d2_10 rfl ?_
  intro T11 X11 e11
  exact own_ret (Q := own_Q _ n0 h0) X11 hx hby hret hlk d2_13 rfl (Or.inr (Or.inr (Or.inr (Or.inr ⟨rfl, rfl, rfl⟩)))) (by decide) (by decide) ⟨rfl, N0, e11⟩
set_option maxRecDepth 65536 in
set_option maxHeartbeats 40000000 in
theorem rm2_2 (l : Launch) (Z : State) (a0 : Array Value) (hw : ∀ d ∈ tables_1, d.before a0 Z = true) (ws : List Jvm.Cond) (w_TRUE w_FALSE w_UNKNOWN : Addr) (W : own_W Z w_TRUE w_FALSE w_UNKNOWN) (x0 : Int32) (h0 : Heap) (n0 : Nat) (O0 : Old Z n0 h0) (hc10 : ¬ (x0 = (0 : Int32))) :
    MetFree l (⟨"com/example/foram/foram/Truth", "of", "(Z)Lcom/example/foram/foram/Truth;"⟩ : MethodName) (head1 (Jvm.Cond.code (⟨"com/example/foram/foram/Truth", "of", "(Z)Lcom/example/foram/foram/Truth;"⟩ : MethodName) prog_55_method_4_code 1 (some (.object "com/example/foram/foram/Truth")) :: ws) ({ frames := 0, cells := 0, slots := 0, locals := 0 } : Room)) (fun a U => a = #[(.int x0)] ∧ Z.Warmed39 U.vm ∧ U.heap = h0) (fun _ _ _ _ _ => True) (fun _ U o U' => ∃ v L, o = .returned v ∧ own_Q (some (.ref w_TRUE)) n0 h0 v U'.heap L ∧ FrameEnd U o U' L ({ frames := 0, cells := 0, slots := 0, locals := 0 } : Room).cells ({ frames := 0, cells := 0, slots := 0, locals := 0 } : Room).slots) := by
  refine MetFree.of_bodySF (plainFor_of_name pn_1) hisR ?_
  intro p e s m args below meth c s₁ Bd hml0 hP hK
  obtain ⟨rfl, hZ, hh⟩ := hP
  have hx := Bd.exec
  have hby := Bd.bytes
  have hml : c.maxLocals = 1 := hml0
  have hlk := BodyLoose.notSynchronized Bd
  have hret := Bd.returns
  have hown : s.vm.findClass "com/example/foram/foram/Truth" = some m.cls := findClass_of_methodNamed Bd.named
  have hnm := (name_of_methodNamed Bd.named Bd.method).1
  have X0 : Stand p l e ({ frames := 0, cells := 0, slots := 0, locals := 0 } : Room) s m #[(.int x0)] below meth c s₁ [] 0 0 := Stand.of_body Bd
  have e0 : s₁.heap = h0 := by rw [← hh, Bd.state]; rfl
  have N0 := Fr.nil n0
  rw [ef_2 m x0]
  show Go p e below _ (s₁.setTop (mkF m 0 #[oI x0] []))
  refine own_iload_n 1 X0 hx hby d2_0 rfl rfl ?_
  refine own_ifN 4 X0 hx hby d2_1 rfl ((if0 _ _).trans (feq hc10).1) ?_
  refine own_getS 7 X0 hx hby hZ hown (own_w hw 18 rfl) e0 (W.1.ext O0.2) d2_4 rfl ?_
  intro T12 X12 e12
  refine own_goto 13 X12 hx hby d2_7 (by decide) (by decide) ?_
  exact own_ret (Q := own_Q _ n0 h0) X12 hx hby hret hlk d2_13 rfl (Or.inr (Or.inr (Or.inr (Or.inr ⟨rfl, rfl, rfl⟩)))) (by decide) (by decide) ⟨rfl, N0, e12⟩
set_option maxRecDepth 65536 in
set_option maxHeartbeats 40000000 in
theorem rm3_1 (l : Launch) (Z : State) (a0 : Array Value) (hw : ∀ d ∈ tables_1, d.before a0 Z = true) (ws : List Jvm.Cond) (w_TRUE w_FALSE w_UNKNOWN : Addr) (W : own_W Z w_TRUE w_FALSE w_UNKNOWN) (r0 : Addr) (h0 : Heap) (n0 : Nat) (O0 : Old Z n0 h0) (hc15 : r0 = w_TRUE) :
    MetFree l (⟨"com/example/foram/foram/Truth", "not", "()Lcom/example/foram/foram/Truth;"⟩ : MethodName) (head1 (Jvm.Cond.code (⟨"com/example/foram/foram/Truth", "not", "()Lcom/example/foram/foram/Truth;"⟩ : MethodName) prog_55_method_7_code 2 (some (.object "com/example/foram/foram/Truth")) :: ws) ({ frames := 0, cells := 0, slots := 0, locals := 0 } : Room)) (fun a U => a = #[(.ref r0)] ∧ Z.Warmed39 U.vm ∧ U.heap = h0) (fun _ _ _ _ _ => True) (fun _ U o U' => ∃ v L, o = .returned v ∧ own_Q (some (.ref w_FALSE)) n0 h0 v U'.heap L ∧ FrameEnd U o U' L ({ frames := 0, cells := 0, slots := 0, locals := 0 } : Room).cells ({ frames := 0, cells := 0, slots := 0, locals := 0 } : Room).slots) := by
  refine MetFree.of_bodySF (plainFor_of_name pn_1) hisR ?_
  intro p e s m args below meth c s₁ Bd hml0 hP hK
  obtain ⟨rfl, hZ, hh⟩ := hP
  have hx := Bd.exec
  have hby := Bd.bytes
  have hml : c.maxLocals = 2 := hml0
  have hlk := BodyLoose.notSynchronized Bd
  have hret := Bd.returns
  have hown : s.vm.findClass "com/example/foram/foram/Truth" = some m.cls := findClass_of_methodNamed Bd.named
  have hnm := (name_of_methodNamed Bd.named Bd.method).1
  have X0 : Stand p l e ({ frames := 0, cells := 0, slots := 0, locals := 0 } : Room) s m #[(.ref r0)] below meth c s₁ [] 0 0 := Stand.of_body Bd
  have e0 : s₁.heap = h0 := by rw [← hh, Bd.state]; rfl
  have N0 := Fr.nil n0
  rw [ef_3 m r0]
  show Go p e below _ (s₁.setTop (mkF m 0 #[oA r0, oU] []))
  refine own_aload_n 1 X0 hx hby d3_0 rfl rfl rfl ?_
  refine own_getS 4 X0 hx hby hZ hown (own_w hw 18 rfl) e0 (W.1.ext O0.2) d3_1 rfl ?_
  intro T14 X14 e14
  refine own_acmp 7 true X14 hx hby d3_4 rfl rfl (by decide) (by decide) (decide_eq_true (congrArg Value.ref hc15)) ?_
  refine own_getS 10 X14 hx hby hZ hown (own_w hw 11 rfl) e14 (W.2.2.1.ext O0.2) d3_7 rfl ?_
  intro T16 X16 e16
  refine own_astore_n 11 #[oA r0, oA w_FALSE] X16 hx hby d3_10 rfl rfl rfl ?_
  refine own_goto 32 X16 hx hby d3_11 (by decide) (by decide) ?_
  refine own_aload_n 33 X16 hx hby d3_32 rfl rfl rfl ?_
  exact own_ret (Q := own_Q _ n0 h0) X16 hx hby hret hlk d3_33 rfl (Or.inr (Or.inr (Or.inr (Or.inr ⟨rfl, rfl, rfl⟩)))) (by decide) (by decide) ⟨rfl, N0, e16⟩
set_option maxRecDepth 65536 in
set_option maxHeartbeats 40000000 in
theorem rm3_2 (l : Launch) (Z : State) (a0 : Array Value) (hw : ∀ d ∈ tables_1, d.before a0 Z = true) (ws : List Jvm.Cond) (w_TRUE w_FALSE w_UNKNOWN : Addr) (W : own_W Z w_TRUE w_FALSE w_UNKNOWN) (r0 : Addr) (h0 : Heap) (n0 : Nat) (O0 : Old Z n0 h0) (hc15 : ¬ (r0 = w_TRUE)) (hc18 : r0 = w_FALSE) :
    MetFree l (⟨"com/example/foram/foram/Truth", "not", "()Lcom/example/foram/foram/Truth;"⟩ : MethodName) (head1 (Jvm.Cond.code (⟨"com/example/foram/foram/Truth", "not", "()Lcom/example/foram/foram/Truth;"⟩ : MethodName) prog_55_method_7_code 2 (some (.object "com/example/foram/foram/Truth")) :: ws) ({ frames := 0, cells := 0, slots := 0, locals := 0 } : Room)) (fun a U => a = #[(.ref r0)] ∧ Z.Warmed39 U.vm ∧ U.heap = h0) (fun _ _ _ _ _ => True) (fun _ U o U' => ∃ v L, o = .returned v ∧ own_Q (some (.ref w_TRUE)) n0 h0 v U'.heap L ∧ FrameEnd U o U' L ({ frames := 0, cells := 0, slots := 0, locals := 0 } : Room).cells ({ frames := 0, cells := 0, slots := 0, locals := 0 } : Room).slots) := by
  refine MetFree.of_bodySF (plainFor_of_name pn_1) hisR ?_
  intro p e s m args below meth c s₁ Bd hml0 hP hK
  obtain ⟨rfl, hZ, hh⟩ := hP
  have hx := Bd.exec
  have hby := Bd.bytes
  have hml : c.maxLocals = 2 := hml0
  have hlk := BodyLoose.notSynchronized Bd
  have hret := Bd.returns
  have hown : s.vm.findClass "com/example/foram/foram/Truth" = some m.cls := findClass_of_methodNamed Bd.named
  have hnm := (name_of_methodNamed Bd.named Bd.method).1
  have X0 : Stand p l e ({ frames := 0, cells := 0, slots := 0, locals := 0 } : Room) s m #[(.ref r0)] below meth c s₁ [] 0 0 := Stand.of_body Bd
  have e0 : s₁.heap = h0 := by rw [← hh, Bd.state]; rfl
  have N0 := Fr.nil n0
  rw [ef_3 m r0]
  show Go p e below _ (s₁.setTop (mkF m 0 #[oA r0, oU] []))
  refine own_aload_n 1 X0 hx hby d3_0 rfl rfl rfl ?_
  refine own_getS 4 X0 hx hby hZ hown (own_w hw 18 rfl) e0 (W.1.ext O0.2) d3_1 rfl ?_
  intro T14 X14 e14
  refine own_acmp 14 false X14 hx hby d3_4 rfl rfl (by decide) (by decide) (decide_eq_false fun q => hc15 (Value.ref.inj q)) ?_
  refine own_aload_n 15 X14 hx hby d3_14 rfl rfl rfl ?_
  refine own_getS 18 X14 hx hby hZ hown (own_w hw 11 rfl) e14 (W.2.2.1.ext O0.2) d3_15 rfl ?_
  intro T17 X17 e17
  refine own_acmp 21 true X17 hx hby d3_18 rfl rfl (by decide) (by decide) (decide_eq_true (congrArg Value.ref hc18)) ?_
  refine own_getS 24 X17 hx hby hZ hown (own_w hw 18 rfl) e17 (W.1.ext O0.2) d3_21 rfl ?_
  intro T19 X19 e19
  refine own_astore_n 25 #[oA r0, oA w_TRUE] X19 hx hby d3_24 rfl rfl rfl ?_
  refine own_goto 32 X19 hx hby d3_25 (by decide) (by decide) ?_
  refine own_aload_n 33 X19 hx hby d3_32 rfl rfl rfl ?_
  exact own_ret (Q := own_Q _ n0 h0) X19 hx hby hret hlk d3_33 rfl (Or.inr (Or.inr (Or.inr (Or.inr ⟨rfl, rfl, rfl⟩)))) (by decide) (by decide) ⟨rfl, N0, e19⟩
set_option maxRecDepth 65536 in
set_option maxHeartbeats 40000000 in
theorem rm3_3 (l : Launch) (Z : State) (a0 : Array Value) (hw : ∀ d ∈ tables_1, d.before a0 Z = true) (ws : List Jvm.Cond) (w_TRUE w_FALSE w_UNKNOWN : Addr) (W : own_W Z w_TRUE w_FALSE w_UNKNOWN) (r0 : Addr) (h0 : Heap) (n0 : Nat) (O0 : Old Z n0 h0) (hc15 : ¬ (r0 = w_TRUE)) (hc18 : ¬ (r0 = w_FALSE)) :
    MetFree l (⟨"com/example/foram/foram/Truth", "not", "()Lcom/example/foram/foram/Truth;"⟩ : MethodName) (head1 (Jvm.Cond.code (⟨"com/example/foram/foram/Truth", "not", "()Lcom/example/foram/foram/Truth;"⟩ : MethodName) prog_55_method_7_code 2 (some (.object "com/example/foram/foram/Truth")) :: ws) ({ frames := 0, cells := 0, slots := 0, locals := 0 } : Room)) (fun a U => a = #[(.ref r0)] ∧ Z.Warmed39 U.vm ∧ U.heap = h0) (fun _ _ _ _ _ => True) (fun _ U o U' => ∃ v L, o = .returned v ∧ own_Q (some (.ref w_UNKNOWN)) n0 h0 v U'.heap L ∧ FrameEnd U o U' L ({ frames := 0, cells := 0, slots := 0, locals := 0 } : Room).cells ({ frames := 0, cells := 0, slots := 0, locals := 0 } : Room).slots) := by
  refine MetFree.of_bodySF (plainFor_of_name pn_1) hisR ?_
  intro p e s m args below meth c s₁ Bd hml0 hP hK
  obtain ⟨rfl, hZ, hh⟩ := hP
  have hx := Bd.exec
  have hby := Bd.bytes
  have hml : c.maxLocals = 2 := hml0
  have hlk := BodyLoose.notSynchronized Bd
  have hret := Bd.returns
  have hown : s.vm.findClass "com/example/foram/foram/Truth" = some m.cls := findClass_of_methodNamed Bd.named
  have hnm := (name_of_methodNamed Bd.named Bd.method).1
  have X0 : Stand p l e ({ frames := 0, cells := 0, slots := 0, locals := 0 } : Room) s m #[(.ref r0)] below meth c s₁ [] 0 0 := Stand.of_body Bd
  have e0 : s₁.heap = h0 := by rw [← hh, Bd.state]; rfl
  have N0 := Fr.nil n0
  rw [ef_3 m r0]
  show Go p e below _ (s₁.setTop (mkF m 0 #[oA r0, oU] []))
  refine own_aload_n 1 X0 hx hby d3_0 rfl rfl rfl ?_
  refine own_getS 4 X0 hx hby hZ hown (own_w hw 18 rfl) e0 (W.1.ext O0.2) d3_1 rfl ?_
  intro T14 X14 e14
  refine own_acmp 14 false X14 hx hby d3_4 rfl rfl (by decide) (by decide) (decide_eq_false fun q => hc15 (Value.ref.inj q)) ?_
  refine own_aload_n 15 X14 hx hby d3_14 rfl rfl rfl ?_
  refine own_getS 18 X14 hx hby hZ hown (own_w hw 11 rfl) e14 (W.2.2.1.ext O0.2) d3_15 rfl ?_
  intro T17 X17 e17
  refine own_acmp 28 false X17 hx hby d3_18 rfl rfl (by decide) (by decide) (decide_eq_false fun q => hc18 (Value.ref.inj q)) ?_
  refine own_getS 31 X17 hx hby hZ hown (own_w hw 32 rfl) e17 (W.2.2.2.2.1.ext O0.2) d3_28 rfl ?_
  intro T20 X20 e20
  refine own_astore_n 32 #[oA r0, oA w_UNKNOWN] X20 hx hby d3_31 rfl rfl rfl ?_
  refine own_aload_n 33 X20 hx hby d3_32 rfl rfl rfl ?_
  exact own_ret (Q := own_Q _ n0 h0) X20 hx hby hret hlk d3_33 rfl (Or.inr (Or.inr (Or.inr (Or.inr ⟨rfl, rfl, rfl⟩)))) (by decide) (by decide) ⟨rfl, N0, e20⟩
set_option maxRecDepth 65536 in
set_option maxHeartbeats 40000000 in
theorem rm4_1 (l : Launch) (Z : State) (a0 : Array Value) (hw : ∀ d ∈ tables_1, d.before a0 Z = true) (ws : List Jvm.Cond) (w_TRUE w_FALSE w_UNKNOWN : Addr) (W : own_W Z w_TRUE w_FALSE w_UNKNOWN) (r0 : Addr) (r1 : Addr) (h0 : Heap) (n0 : Nat) (O0 : Old Z n0 h0) (hc26 : r0 = w_FALSE) :
    MetFree l (⟨"com/example/foram/foram/Truth", "and", "(Lcom/example/foram/foram/Truth;)Lcom/example/foram/foram/Truth;"⟩ : MethodName) (head1 (Jvm.Cond.code (⟨"com/example/foram/foram/Truth", "and", "(Lcom/example/foram/foram/Truth;)Lcom/example/foram/foram/Truth;"⟩ : MethodName) prog_55_method_5_code 3 (some (.object "com/example/foram/foram/Truth")) :: ws) ({ frames := 0, cells := 0, slots := 0, locals := 0 } : Room)) (fun a U => a = #[(.ref r0), (.ref r1)] ∧ Z.Warmed39 U.vm ∧ U.heap = h0) (fun _ _ _ _ _ => True) (fun _ U o U' => ∃ v L, o = .returned v ∧ own_Q (some (.ref w_FALSE)) n0 h0 v U'.heap L ∧ FrameEnd U o U' L ({ frames := 0, cells := 0, slots := 0, locals := 0 } : Room).cells ({ frames := 0, cells := 0, slots := 0, locals := 0 } : Room).slots) := by
  refine MetFree.of_bodySF (plainFor_of_name pn_1) hisR ?_
  intro p e s m args below meth c s₁ Bd hml0 hP hK
  obtain ⟨rfl, hZ, hh⟩ := hP
  have hx := Bd.exec
  have hby := Bd.bytes
  have hml : c.maxLocals = 3 := hml0
  have hlk := BodyLoose.notSynchronized Bd
  have hret := Bd.returns
  have hown : s.vm.findClass "com/example/foram/foram/Truth" = some m.cls := findClass_of_methodNamed Bd.named
  have hnm := (name_of_methodNamed Bd.named Bd.method).1
  have X0 : Stand p l e ({ frames := 0, cells := 0, slots := 0, locals := 0 } : Room) s m #[(.ref r0), (.ref r1)] below meth c s₁ [] 0 0 := Stand.of_body Bd
  have e0 : s₁.heap = h0 := by rw [← hh, Bd.state]; rfl
  have N0 := Fr.nil n0
  rw [ef_4 m r0 r1]
  show Go p e below _ (s₁.setTop (mkF m 0 #[oA r0, oA r1, oU] []))
  refine own_aload_n 1 X0 hx hby d4_0 rfl rfl rfl ?_
  refine own_getS 4 X0 hx hby hZ hown (own_w hw 11 rfl) e0 (W.2.2.1.ext O0.2) d4_1 rfl ?_
  intro T25 X25 e25
  refine own_acmp 14 true X25 hx hby d4_4 rfl rfl (by decide) (by decide) (decide_eq_true (congrArg Value.ref hc26)) ?_
  refine own_getS 17 X25 hx hby hZ hown (own_w hw 11 rfl) e25 (W.2.2.1.ext O0.2) d4_14 rfl ?_
  intro T27 X27 e27
  refine own_astore_n 18 #[oA r0, oA r1, oA w_FALSE] X27 hx hby d4_17 rfl rfl rfl ?_
  refine own_goto 46 X27 hx hby d4_18 (by decide) (by decide) ?_
  refine own_aload_n 47 X27 hx hby d4_46 rfl rfl rfl ?_
  exact own_ret (Q := own_Q _ n0 h0) X27 hx hby hret hlk d4_47 rfl (Or.inr (Or.inr (Or.inr (Or.inr ⟨rfl, rfl, rfl⟩)))) (by decide) (by decide) ⟨rfl, N0, e27⟩
set_option maxRecDepth 65536 in
set_option maxHeartbeats 40000000 in
theorem rm4_2 (l : Launch) (Z : State) (a0 : Array Value) (hw : ∀ d ∈ tables_1, d.before a0 Z = true) (ws : List Jvm.Cond) (w_TRUE w_FALSE w_UNKNOWN : Addr) (W : own_W Z w_TRUE w_FALSE w_UNKNOWN) (r0 : Addr) (r1 : Addr) (h0 : Heap) (n0 : Nat) (O0 : Old Z n0 h0) (hc26 : ¬ (r0 = w_FALSE)) (hc29 : r1 = w_FALSE) :
    MetFree l (⟨"com/example/foram/foram/Truth", "and", "(Lcom/example/foram/foram/Truth;)Lcom/example/foram/foram/Truth;"⟩ : MethodName) (head1 (Jvm.Cond.code (⟨"com/example/foram/foram/Truth", "and", "(Lcom/example/foram/foram/Truth;)Lcom/example/foram/foram/Truth;"⟩ : MethodName) prog_55_method_5_code 3 (some (.object "com/example/foram/foram/Truth")) :: ws) ({ frames := 0, cells := 0, slots := 0, locals := 0 } : Room)) (fun a U => a = #[(.ref r0), (.ref r1)] ∧ Z.Warmed39 U.vm ∧ U.heap = h0) (fun _ _ _ _ _ => True) (fun _ U o U' => ∃ v L, o = .returned v ∧ own_Q (some (.ref w_FALSE)) n0 h0 v U'.heap L ∧ FrameEnd U o U' L ({ frames := 0, cells := 0, slots := 0, locals := 0 } : Room).cells ({ frames := 0, cells := 0, slots := 0, locals := 0 } : Room).slots) := by
  refine MetFree.of_bodySF (plainFor_of_name pn_1) hisR ?_
  intro p e s m args below meth c s₁ Bd hml0 hP hK
  obtain ⟨rfl, hZ, hh⟩ := hP
  have hx := Bd.exec
  have hby := Bd.bytes
  have hml : c.maxLocals = 3 := hml0
  have hlk := BodyLoose.notSynchronized Bd
  have hret := Bd.returns
  have hown : s.vm.findClass "com/example/foram/foram/Truth" = some m.cls := findClass_of_methodNamed Bd.named
  have hnm := (name_of_methodNamed Bd.named Bd.method).1
  have X0 : Stand p l e ({ frames := 0, cells := 0, slots := 0, locals := 0 } : Room) s m #[(.ref r0), (.ref r1)] below meth c s₁ [] 0 0 := Stand.of_body Bd
  have e0 : s₁.heap = h0 := by rw [← hh, Bd.state]; rfl
  have N0 := Fr.nil n0
  rw [ef_4 m r0 r1]
  show Go p e below _ (s₁.setTop (mkF m 0 #[oA r0, oA r1, oU] []))
  refine own_aload_n 1 X0 hx hby d4_0 rfl rfl rfl ?_
  refine own_getS 4 X0 hx hby hZ hown (own_w hw 11 rfl) e0 (W.2.2.1.ext O0.2) d4_1 rfl ?_
  intro T25 X25 e25
  refine own_acmp 7 false X25 hx hby d4_4 rfl rfl (by decide) (by decide) (decide_eq_false fun q => hc26 (Value.ref.inj q)) ?_
  refine own_aload_n 8 X25 hx hby d4_7 rfl rfl rfl ?_
  refine own_getS 11 X25 hx hby hZ hown (own_w hw 11 rfl) e25 (W.2.2.1.ext O0.2) d4_8 rfl ?_
  intro T28 X28 e28
  refine own_acmp 14 true X28 hx hby d4_11 rfl rfl (by decide) (by decide) (decide_eq_true (congrArg Value.ref hc29)) ?_
  refine own_getS 17 X28 hx hby hZ hown (own_w hw 11 rfl) e28 (W.2.2.1.ext O0.2) d4_14 rfl ?_
  intro T30 X30 e30
  refine own_astore_n 18 #[oA r0, oA r1, oA w_FALSE] X30 hx hby d4_17 rfl rfl rfl ?_
  refine own_goto 46 X30 hx hby d4_18 (by decide) (by decide) ?_
  refine own_aload_n 47 X30 hx hby d4_46 rfl rfl rfl ?_
  exact own_ret (Q := own_Q _ n0 h0) X30 hx hby hret hlk d4_47 rfl (Or.inr (Or.inr (Or.inr (Or.inr ⟨rfl, rfl, rfl⟩)))) (by decide) (by decide) ⟨rfl, N0, e30⟩
set_option maxRecDepth 65536 in
set_option maxHeartbeats 40000000 in
theorem rm4_3 (l : Launch) (Z : State) (a0 : Array Value) (hw : ∀ d ∈ tables_1, d.before a0 Z = true) (ws : List Jvm.Cond) (w_TRUE w_FALSE w_UNKNOWN : Addr) (W : own_W Z w_TRUE w_FALSE w_UNKNOWN) (r0 : Addr) (r1 : Addr) (h0 : Heap) (n0 : Nat) (O0 : Old Z n0 h0) (hc26 : ¬ (r0 = w_FALSE)) (hc29 : ¬ (r1 = w_FALSE)) (hc32 : r0 = w_TRUE) (hc34 : r1 = w_TRUE) :
    MetFree l (⟨"com/example/foram/foram/Truth", "and", "(Lcom/example/foram/foram/Truth;)Lcom/example/foram/foram/Truth;"⟩ : MethodName) (head1 (Jvm.Cond.code (⟨"com/example/foram/foram/Truth", "and", "(Lcom/example/foram/foram/Truth;)Lcom/example/foram/foram/Truth;"⟩ : MethodName) prog_55_method_5_code 3 (some (.object "com/example/foram/foram/Truth")) :: ws) ({ frames := 0, cells := 0, slots := 0, locals := 0 } : Room)) (fun a U => a = #[(.ref r0), (.ref r1)] ∧ Z.Warmed39 U.vm ∧ U.heap = h0) (fun _ _ _ _ _ => True) (fun _ U o U' => ∃ v L, o = .returned v ∧ own_Q (some (.ref w_TRUE)) n0 h0 v U'.heap L ∧ FrameEnd U o U' L ({ frames := 0, cells := 0, slots := 0, locals := 0 } : Room).cells ({ frames := 0, cells := 0, slots := 0, locals := 0 } : Room).slots) := by
  refine MetFree.of_bodySF (plainFor_of_name pn_1) hisR ?_
  intro p e s m args below meth c s₁ Bd hml0 hP hK
  obtain ⟨rfl, hZ, hh⟩ := hP
  have hx := Bd.exec
  have hby := Bd.bytes
  have hml : c.maxLocals = 3 := hml0
  have hlk := BodyLoose.notSynchronized Bd
  have hret := Bd.returns
  have hown : s.vm.findClass "com/example/foram/foram/Truth" = some m.cls := findClass_of_methodNamed Bd.named
  have hnm := (name_of_methodNamed Bd.named Bd.method).1
  have X0 : Stand p l e ({ frames := 0, cells := 0, slots := 0, locals := 0 } : Room) s m #[(.ref r0), (.ref r1)] below meth c s₁ [] 0 0 := Stand.of_body Bd
  have e0 : s₁.heap = h0 := by rw [← hh, Bd.state]; rfl
  have N0 := Fr.nil n0
  rw [ef_4 m r0 r1]
  show Go p e below _ (s₁.setTop (mkF m 0 #[oA r0, oA r1, oU] []))
  refine own_aload_n 1 X0 hx hby d4_0 rfl rfl rfl ?_
  refine own_getS 4 X0 hx hby hZ hown (own_w hw 11 rfl) e0 (W.2.2.1.ext O0.2) d4_1 rfl ?_
  intro T25 X25 e25
  refine own_acmp 7 false X25 hx hby d4_4 rfl rfl (by decide) (by decide) (decide_eq_false fun q => hc26 (Value.ref.inj q)) ?_
  refine own_aload_n 8 X25 hx hby d4_7 rfl rfl rfl ?_
  refine own_getS 11 X25 hx hby hZ hown (own_w hw 11 rfl) e25 (W.2.2.1.ext O0.2) d4_8 rfl ?_
  intro T28 X28 e28
  refine own_acmp 21 false X28 hx hby d4_11 rfl rfl (by decide) (by decide) (decide_eq_false fun q => hc29 (Value.ref.inj q)) ?_
  refine own_aload_n 22 X28 hx hby d4_21 rfl rfl rfl ?_
  refine own_getS 25 X28 hx hby hZ hown (own_w hw 18 rfl) e28 (W.1.ext O0.2) d4_22 rfl ?_
  intro T31 X31 e31
  refine own_acmp 28 true X31 hx hby d4_25 rfl rfl (by decide) (by decide) (decide_eq_true (congrArg Value.ref hc32)) ?_
  refine own_aload_n 29 X31 hx hby d4_28 rfl rfl rfl ?_
  refine own_getS 32 X31 hx hby hZ hown (own_w hw 18 rfl) e31 (W.1.ext O0.2) d4_29 rfl ?_
  intro T33 X33 e33
  refine own_acmp 35 true X33 hx hby d4_32 rfl rfl (by decide) (by decide) (decide_eq_true (congrArg Value.ref hc34)) ?_
  refine own_getS 38 X33 hx hby hZ hown (own_w hw 18 rfl) e33 (W.1.ext O0.2) d4_35 rfl ?_
  intro T35 X35 e35
  refine own_astore_n 39 #[oA r0, oA r1, oA w_TRUE] X35 hx hby d4_38 rfl rfl rfl ?_
  refine own_goto 46 X35 hx hby d4_39 (by decide) (by decide) ?_
  refine own_aload_n 47 X35 hx hby d4_46 rfl rfl rfl ?_
  exact own_ret (Q := own_Q _ n0 h0) X35 hx hby hret hlk d4_47 rfl (Or.inr (Or.inr (Or.inr (Or.inr ⟨rfl, rfl, rfl⟩)))) (by decide) (by decide) ⟨rfl, N0, e35⟩
set_option maxRecDepth 65536 in
set_option maxHeartbeats 40000000 in
theorem rm4_4 (l : Launch) (Z : State) (a0 : Array Value) (hw : ∀ d ∈ tables_1, d.before a0 Z = true) (ws : List Jvm.Cond) (w_TRUE w_FALSE w_UNKNOWN : Addr) (W : own_W Z w_TRUE w_FALSE w_UNKNOWN) (r0 : Addr) (r1 : Addr) (h0 : Heap) (n0 : Nat) (O0 : Old Z n0 h0) (hc26 : ¬ (r0 = w_FALSE)) (hc29 : ¬ (r1 = w_FALSE)) (hc32 : r0 = w_TRUE) (hc34 : ¬ (r1 = w_TRUE)) :
    MetFree l (⟨"com/example/foram/foram/Truth", "and", "(Lcom/example/foram/foram/Truth;)Lcom/example/foram/foram/Truth;"⟩ : MethodName) (head1 (Jvm.Cond.code (⟨"com/example/foram/foram/Truth", "and", "(Lcom/example/foram/foram/Truth;)Lcom/example/foram/foram/Truth;"⟩ : MethodName) prog_55_method_5_code 3 (some (.object "com/example/foram/foram/Truth")) :: ws) ({ frames := 0, cells := 0, slots := 0, locals := 0 } : Room)) (fun a U => a = #[(.ref r0), (.ref r1)] ∧ Z.Warmed39 U.vm ∧ U.heap = h0) (fun _ _ _ _ _ => True) (fun _ U o U' => ∃ v L, o = .returned v ∧ own_Q (some (.ref w_UNKNOWN)) n0 h0 v U'.heap L ∧ FrameEnd U o U' L ({ frames := 0, cells := 0, slots := 0, locals := 0 } : Room).cells ({ frames := 0, cells := 0, slots := 0, locals := 0 } : Room).slots) := by
  refine MetFree.of_bodySF (plainFor_of_name pn_1) hisR ?_
  intro p e s m args below meth c s₁ Bd hml0 hP hK
  obtain ⟨rfl, hZ, hh⟩ := hP
  have hx := Bd.exec
  have hby := Bd.bytes
  have hml : c.maxLocals = 3 := hml0
  have hlk := BodyLoose.notSynchronized Bd
  have hret := Bd.returns
  have hown : s.vm.findClass "com/example/foram/foram/Truth" = some m.cls := findClass_of_methodNamed Bd.named
  have hnm := (name_of_methodNamed Bd.named Bd.method).1
  have X0 : Stand p l e ({ frames := 0, cells := 0, slots := 0, locals := 0 } : Room) s m #[(.ref r0), (.ref r1)] below meth c s₁ [] 0 0 := Stand.of_body Bd
  have e0 : s₁.heap = h0 := by rw [← hh, Bd.state]; rfl
  have N0 := Fr.nil n0
  rw [ef_4 m r0 r1]
  show Go p e below _ (s₁.setTop (mkF m 0 #[oA r0, oA r1, oU] []))
  refine own_aload_n 1 X0 hx hby d4_0 rfl rfl rfl ?_
  refine own_getS 4 X0 hx hby hZ hown (own_w hw 11 rfl) e0 (W.2.2.1.ext O0.2) d4_1 rfl ?_
  intro T25 X25 e25
  refine own_acmp 7 false X25 hx hby d4_4 rfl rfl (by decide) (by decide) (decide_eq_false fun q => hc26 (Value.ref.inj q)) ?_
  refine own_aload_n 8 X25 hx hby d4_7 rfl rfl rfl ?_
  refine own_getS 11 X25 hx hby hZ hown (own_w hw 11 rfl) e25 (W.2.2.1.ext O0.2) d4_8 rfl ?_
  intro T28 X28 e28
  refine own_acmp 21 false X28 hx hby d4_11 rfl rfl (by decide) (by decide) (decide_eq_false fun q => hc29 (Value.ref.inj q)) ?_
  refine own_aload_n 22 X28 hx hby d4_21 rfl rfl rfl ?_
  refine own_getS 25 X28 hx hby hZ hown (own_w hw 18 rfl) e28 (W.1.ext O0.2) d4_22 rfl ?_
  intro T31 X31 e31
  refine own_acmp 28 true X31 hx hby d4_25 rfl rfl (by decide) (by decide) (decide_eq_true (congrArg Value.ref hc32)) ?_
  refine own_aload_n 29 X31 hx hby d4_28 rfl rfl rfl ?_
  refine own_getS 32 X31 hx hby hZ hown (own_w hw 18 rfl) e31 (W.1.ext O0.2) d4_29 rfl ?_
  intro T33 X33 e33
  refine own_acmp 42 false X33 hx hby d4_32 rfl rfl (by decide) (by decide) (decide_eq_false fun q => hc34 (Value.ref.inj q)) ?_
  refine own_getS 45 X33 hx hby hZ hown (own_w hw 32 rfl) e33 (W.2.2.2.2.1.ext O0.2) d4_42 rfl ?_
  intro T36 X36 e36
  refine own_astore_n 46 #[oA r0, oA r1, oA w_UNKNOWN] X36 hx hby d4_45 rfl rfl rfl ?_
  refine own_aload_n 47 X36 hx hby d4_46 rfl rfl rfl ?_
  exact own_ret (Q := own_Q _ n0 h0) X36 hx hby hret hlk d4_47 rfl (Or.inr (Or.inr (Or.inr (Or.inr ⟨rfl, rfl, rfl⟩)))) (by decide) (by decide) ⟨rfl, N0, e36⟩
set_option maxRecDepth 65536 in
set_option maxHeartbeats 40000000 in
theorem rm4_5 (l : Launch) (Z : State) (a0 : Array Value) (hw : ∀ d ∈ tables_1, d.before a0 Z = true) (ws : List Jvm.Cond) (w_TRUE w_FALSE w_UNKNOWN : Addr) (W : own_W Z w_TRUE w_FALSE w_UNKNOWN) (r0 : Addr) (r1 : Addr) (h0 : Heap) (n0 : Nat) (O0 : Old Z n0 h0) (hc26 : ¬ (r0 = w_FALSE)) (hc29 : ¬ (r1 = w_FALSE)) (hc32 : ¬ (r0 = w_TRUE)) :
    MetFree l (⟨"com/example/foram/foram/Truth", "and", "(Lcom/example/foram/foram/Truth;)Lcom/example/foram/foram/Truth;"⟩ : MethodName) (head1 (Jvm.Cond.code (⟨"com/example/foram/foram/Truth", "and", "(Lcom/example/foram/foram/Truth;)Lcom/example/foram/foram/Truth;"⟩ : MethodName) prog_55_method_5_code 3 (some (.object "com/example/foram/foram/Truth")) :: ws) ({ frames := 0, cells := 0, slots := 0, locals := 0 } : Room)) (fun a U => a = #[(.ref r0), (.ref r1)] ∧ Z.Warmed39 U.vm ∧ U.heap = h0) (fun _ _ _ _ _ => True) (fun _ U o U' => ∃ v L, o = .returned v ∧ own_Q (some (.ref w_UNKNOWN)) n0 h0 v U'.heap L ∧ FrameEnd U o U' L ({ frames := 0, cells := 0, slots := 0, locals := 0 } : Room).cells ({ frames := 0, cells := 0, slots := 0, locals := 0 } : Room).slots) := by
  refine MetFree.of_bodySF (plainFor_of_name pn_1) hisR ?_
  intro p e s m args below meth c s₁ Bd hml0 hP hK
  obtain ⟨rfl, hZ, hh⟩ := hP
  have hx := Bd.exec
  have hby := Bd.bytes
  have hml : c.maxLocals = 3 := hml0
  have hlk := BodyLoose.notSynchronized Bd
  have hret := Bd.returns
  have hown : s.vm.findClass "com/example/foram/foram/Truth" = some m.cls := findClass_of_methodNamed Bd.named
  have hnm := (name_of_methodNamed Bd.named Bd.method).1
  have X0 : Stand p l e ({ frames := 0, cells := 0, slots := 0, locals := 0 } : Room) s m #[(.ref r0), (.ref r1)] below meth c s₁ [] 0 0 := Stand.of_body Bd
  have e0 : s₁.heap = h0 := by rw [← hh, Bd.state]; rfl
  have N0 := Fr.nil n0
  rw [ef_4 m r0 r1]
  show Go p e below _ (s₁.setTop (mkF m 0 #[oA r0, oA r1, oU] []))
  refine own_aload_n 1 X0 hx hby d4_0 rfl rfl rfl ?_
  refine own_getS 4 X0 hx hby hZ hown (own_w hw 11 rfl) e0 (W.2.2.1.ext O0.2) d4_1 rfl ?_
  intro T25 X25 e25
  refine own_acmp 7 false X25 hx hby d4_4 rfl rfl (by decide) (by decide) (decide_eq_false fun q => hc26 (Value.ref.inj q)) ?_
  refine own_aload_n 8 X25 hx hby d4_7 rfl rfl rfl ?_
  refine own_getS 11 X25 hx hby hZ hown (own_w hw 11 rfl) e25 (W.2.2.1.ext O0.2) d4_8 rfl ?_
  intro T28 X28 e28
  refine own_acmp 21 false X28 hx hby d4_11 rfl rfl (by decide) (by decide) (decide_eq_false fun q => hc29 (Value.ref.inj q)) ?_
  refine own_aload_n 22 X28 hx hby d4_21 rfl rfl rfl ?_
  refine own_getS 25 X28 hx hby hZ hown (own_w hw 18 rfl) e28 (W.1.ext O0.2) d4_22 rfl ?_
  intro T31 X31 e31
  refine own_acmp 42 false X31 hx hby d4_25 rfl rfl (by decide) (by decide) (decide_eq_false fun q => hc32 (Value.ref.inj q)) ?_
  refine own_getS 45 X31 hx hby hZ hown (own_w hw 32 rfl) e31 (W.2.2.2.2.1.ext O0.2) d4_42 rfl ?_
  intro T37 X37 e37
  refine own_astore_n 46 #[oA r0, oA r1, oA w_UNKNOWN] X37 hx hby d4_45 rfl rfl rfl ?_
  refine own_aload_n 47 X37 hx hby d4_46 rfl rfl rfl ?_
  exact own_ret (Q := own_Q _ n0 h0) X37 hx hby hret hlk d4_47 rfl (Or.inr (Or.inr (Or.inr (Or.inr ⟨rfl, rfl, rfl⟩)))) (by decide) (by decide) ⟨rfl, N0, e37⟩
set_option maxRecDepth 65536 in
set_option maxHeartbeats 40000000 in
theorem rm5_1 (l : Launch) (Z : State) (a0 : Array Value) (hw : ∀ d ∈ tables_1, d.before a0 Z = true) (ws : List Jvm.Cond) (w_TRUE w_FALSE w_UNKNOWN : Addr) (W : own_W Z w_TRUE w_FALSE w_UNKNOWN) (r0 : Addr) (r1 : Addr) (h0 : Heap) (n0 : Nat) (O0 : Old Z n0 h0) (hc43 : r0 = w_TRUE) :
    MetFree l (⟨"com/example/foram/foram/Truth", "or", "(Lcom/example/foram/foram/Truth;)Lcom/example/foram/foram/Truth;"⟩ : MethodName) (head1 (Jvm.Cond.code (⟨"com/example/foram/foram/Truth", "or", "(Lcom/example/foram/foram/Truth;)Lcom/example/foram/foram/Truth;"⟩ : MethodName) prog_55_method_6_code 3 (some (.object "com/example/foram/foram/Truth")) :: ws) ({ frames := 0, cells := 0, slots := 0, locals := 0 } : Room)) (fun a U => a = #[(.ref r0), (.ref r1)] ∧ Z.Warmed39 U.vm ∧ U.heap = h0) (fun _ _ _ _ _ => True) (fun _ U o U' => ∃ v L, o = .returned v ∧ own_Q (some (.ref w_TRUE)) n0 h0 v U'.heap L ∧ FrameEnd U o U' L ({ frames := 0, cells := 0, slots := 0, locals := 0 } : Room).cells ({ frames := 0, cells := 0, slots := 0, locals := 0 } : Room).slots) := by
  refine MetFree.of_bodySF (plainFor_of_name pn_1) hisR ?_
  intro p e s m args below meth c s₁ Bd hml0 hP hK
  obtain ⟨rfl, hZ, hh⟩ := hP
  have hx := Bd.exec
  have hby := Bd.bytes
  have hml : c.maxLocals = 3 := hml0
  have hlk := BodyLoose.notSynchronized Bd
  have hret := Bd.returns
  have hown : s.vm.findClass "com/example/foram/foram/Truth" = some m.cls := findClass_of_methodNamed Bd.named
  have hnm := (name_of_methodNamed Bd.named Bd.method).1
  have X0 : Stand p l e ({ frames := 0, cells := 0, slots := 0, locals := 0 } : Room) s m #[(.ref r0), (.ref r1)] below meth c s₁ [] 0 0 := Stand.of_body Bd
  have e0 : s₁.heap = h0 := by rw [← hh, Bd.state]; rfl
  have N0 := Fr.nil n0
  rw [ef_5 m r0 r1]
  show Go p e below _ (s₁.setTop (mkF m 0 #[oA r0, oA r1, oU] []))
  refine own_aload_n 1 X0 hx hby d5_0 rfl rfl rfl ?_
  refine own_getS 4 X0 hx hby hZ hown (own_w hw 18 rfl) e0 (W.1.ext O0.2) d5_1 rfl ?_
  intro T42 X42 e42
  refine own_acmp 14 true X42 hx hby d5_4 rfl rfl (by decide) (by decide) (decide_eq_true (congrArg Value.ref hc43)) ?_
  refine own_getS 17 X42 hx hby hZ hown (own_w hw 18 rfl) e42 (W.1.ext O0.2) d5_14 rfl ?_
  intro T44 X44 e44
  refine own_astore_n 18 #[oA r0, oA r1, oA w_TRUE] X44 hx hby d5_17 rfl rfl rfl ?_
  refine own_goto 46 X44 hx hby d5_18 (by decide) (by decide) ?_
  refine own_aload_n 47 X44 hx hby d5_46 rfl rfl rfl ?_
  exact own_ret (Q := own_Q _ n0 h0) X44 hx hby hret hlk d5_47 rfl (Or.inr (Or.inr (Or.inr (Or.inr ⟨rfl, rfl, rfl⟩)))) (by decide) (by decide) ⟨rfl, N0, e44⟩
set_option maxRecDepth 65536 in
set_option maxHeartbeats 40000000 in
theorem rm5_2 (l : Launch) (Z : State) (a0 : Array Value) (hw : ∀ d ∈ tables_1, d.before a0 Z = true) (ws : List Jvm.Cond) (w_TRUE w_FALSE w_UNKNOWN : Addr) (W : own_W Z w_TRUE w_FALSE w_UNKNOWN) (r0 : Addr) (r1 : Addr) (h0 : Heap) (n0 : Nat) (O0 : Old Z n0 h0) (hc43 : ¬ (r0 = w_TRUE)) (hc46 : r1 = w_TRUE) :
    MetFree l (⟨"com/example/foram/foram/Truth", "or", "(Lcom/example/foram/foram/Truth;)Lcom/example/foram/foram/Truth;"⟩ : MethodName) (head1 (Jvm.Cond.code (⟨"com/example/foram/foram/Truth", "or", "(Lcom/example/foram/foram/Truth;)Lcom/example/foram/foram/Truth;"⟩ : MethodName) prog_55_method_6_code 3 (some (.object "com/example/foram/foram/Truth")) :: ws) ({ frames := 0, cells := 0, slots := 0, locals := 0 } : Room)) (fun a U => a = #[(.ref r0), (.ref r1)] ∧ Z.Warmed39 U.vm ∧ U.heap = h0) (fun _ _ _ _ _ => True) (fun _ U o U' => ∃ v L, o = .returned v ∧ own_Q (some (.ref w_TRUE)) n0 h0 v U'.heap L ∧ FrameEnd U o U' L ({ frames := 0, cells := 0, slots := 0, locals := 0 } : Room).cells ({ frames := 0, cells := 0, slots := 0, locals := 0 } : Room).slots) := by
  refine MetFree.of_bodySF (plainFor_of_name pn_1) hisR ?_
  intro p e s m args below meth c s₁ Bd hml0 hP hK
  obtain ⟨rfl, hZ, hh⟩ := hP
  have hx := Bd.exec
  have hby := Bd.bytes
  have hml : c.maxLocals = 3 := hml0
  have hlk := BodyLoose.notSynchronized Bd
  have hret := Bd.returns
  have hown : s.vm.findClass "com/example/foram/foram/Truth" = some m.cls := findClass_of_methodNamed Bd.named
  have hnm := (name_of_methodNamed Bd.named Bd.method).1
  have X0 : Stand p l e ({ frames := 0, cells := 0, slots := 0, locals := 0 } : Room) s m #[(.ref r0), (.ref r1)] below meth c s₁ [] 0 0 := Stand.of_body Bd
  have e0 : s₁.heap = h0 := by rw [← hh, Bd.state]; rfl
  have N0 := Fr.nil n0
  rw [ef_5 m r0 r1]
  show Go p e below _ (s₁.setTop (mkF m 0 #[oA r0, oA r1, oU] []))
  refine own_aload_n 1 X0 hx hby d5_0 rfl rfl rfl ?_
  refine own_getS 4 X0 hx hby hZ hown (own_w hw 18 rfl) e0 (W.1.ext O0.2) d5_1 rfl ?_
  intro T42 X42 e42
  refine own_acmp 7 false X42 hx hby d5_4 rfl rfl (by decide) (by decide) (decide_eq_false fun q => hc43 (Value.ref.inj q)) ?_
  refine own_aload_n 8 X42 hx hby d5_7 rfl rfl rfl ?_
  refine own_getS 11 X42 hx hby hZ hown (own_w hw 18 rfl) e42 (W.1.ext O0.2) d5_8 rfl ?_
  intro T45 X45 e45
  refine own_acmp 14 true X45 hx hby d5_11 rfl rfl (by decide) (by decide) (decide_eq_true (congrArg Value.ref hc46)) ?_
  refine own_getS 17 X45 hx hby hZ hown (own_w hw 18 rfl) e45 (W.1.ext O0.2) d5_14 rfl ?_
  intro T47 X47 e47
  refine own_astore_n 18 #[oA r0, oA r1, oA w_TRUE] X47 hx hby d5_17 rfl rfl rfl ?_
  refine own_goto 46 X47 hx hby d5_18 (by decide) (by decide) ?_
  refine own_aload_n 47 X47 hx hby d5_46 rfl rfl rfl ?_
  exact own_ret (Q := own_Q _ n0 h0) X47 hx hby hret hlk d5_47 rfl (Or.inr (Or.inr (Or.inr (Or.inr ⟨rfl, rfl, rfl⟩)))) (by decide) (by decide) ⟨rfl, N0, e47⟩
set_option maxRecDepth 65536 in
set_option maxHeartbeats 40000000 in
theorem rm5_3 (l : Launch) (Z : State) (a0 : Array Value) (hw : ∀ d ∈ tables_1, d.before a0 Z = true) (ws : List Jvm.Cond) (w_TRUE w_FALSE w_UNKNOWN : Addr) (W : own_W Z w_TRUE w_FALSE w_UNKNOWN) (r0 : Addr) (r1 : Addr) (h0 : Heap) (n0 : Nat) (O0 : Old Z n0 h0) (hc43 : ¬ (r0 = w_TRUE)) (hc46 : ¬ (r1 = w_TRUE)) (hc49 : r0 = w_FALSE) (hc51 : r1 = w_FALSE) :
    MetFree l (⟨"com/example/foram/foram/Truth", "or", "(Lcom/example/foram/foram/Truth;)Lcom/example/foram/foram/Truth;"⟩ : MethodName) (head1 (Jvm.Cond.code (⟨"com/example/foram/foram/Truth", "or", "(Lcom/example/foram/foram/Truth;)Lcom/example/foram/foram/Truth;"⟩ : MethodName) prog_55_method_6_code 3 (some (.object "com/example/foram/foram/Truth")) :: ws) ({ frames := 0, cells := 0, slots := 0, locals := 0 } : Room)) (fun a U => a = #[(.ref r0), (.ref r1)] ∧ Z.Warmed39 U.vm ∧ U.heap = h0) (fun _ _ _ _ _ => True) (fun _ U o U' => ∃ v L, o = .returned v ∧ own_Q (some (.ref w_FALSE)) n0 h0 v U'.heap L ∧ FrameEnd U o U' L ({ frames := 0, cells := 0, slots := 0, locals := 0 } : Room).cells ({ frames := 0, cells := 0, slots := 0, locals := 0 } : Room).slots) := by
  refine MetFree.of_bodySF (plainFor_of_name pn_1) hisR ?_
  intro p e s m args below meth c s₁ Bd hml0 hP hK
  obtain ⟨rfl, hZ, hh⟩ := hP
  have hx := Bd.exec
  have hby := Bd.bytes
  have hml : c.maxLocals = 3 := hml0
  have hlk := BodyLoose.notSynchronized Bd
  have hret := Bd.returns
  have hown : s.vm.findClass "com/example/foram/foram/Truth" = some m.cls := findClass_of_methodNamed Bd.named
  have hnm := (name_of_methodNamed Bd.named Bd.method).1
  have X0 : Stand p l e ({ frames := 0, cells := 0, slots := 0, locals := 0 } : Room) s m #[(.ref r0), (.ref r1)] below meth c s₁ [] 0 0 := Stand.of_body Bd
  have e0 : s₁.heap = h0 := by rw [← hh, Bd.state]; rfl
  have N0 := Fr.nil n0
  rw [ef_5 m r0 r1]
  show Go p e below _ (s₁.setTop (mkF m 0 #[oA r0, oA r1, oU] []))
  refine own_aload_n 1 X0 hx hby d5_0 rfl rfl rfl ?_
  refine own_getS 4 X0 hx hby hZ hown (own_w hw 18 rfl) e0 (W.1.ext O0.2) d5_1 rfl ?_
  intro T42 X42 e42
  refine own_acmp 7 false X42 hx hby d5_4 rfl rfl (by decide) (by decide) (decide_eq_false fun q => hc43 (Value.ref.inj q)) ?_
  refine own_aload_n 8 X42 hx hby d5_7 rfl rfl rfl ?_
  refine own_getS 11 X42 hx hby hZ hown (own_w hw 18 rfl) e42 (W.1.ext O0.2) d5_8 rfl ?_
  intro T45 X45 e45
  refine own_acmp 21 false X45 hx hby d5_11 rfl rfl (by decide) (by decide) (decide_eq_false fun q => hc46 (Value.ref.inj q)) ?_
  refine own_aload_n 22 X45 hx hby d5_21 rfl rfl rfl ?_
  refine own_getS 25 X45 hx hby hZ hown (own_w hw 11 rfl) e45 (W.2.2.1.ext O0.2) d5_22 rfl ?_
  intro T48 X48 e48
  refine own_acmp 28 true X48 hx hby d5_25 rfl rfl (by decide) (by decide) (decide_eq_true (congrArg Value.ref hc49)) ?_
  refine own_aload_n 29 X48 hx hby d5_28 rfl rfl rfl ?_
  refine own_getS 32 X48 hx hby hZ hown (own_w hw 11 rfl) e48 (W.2.2.1.ext O0.2) d5_29 rfl ?_
  intro T50 X50 e50
  refine own_acmp 35 true X50 hx hby d5_32 rfl rfl (by decide) (by decide) (decide_eq_true (congrArg Value.ref hc51)) ?_
  refine own_getS 38 X50 hx hby hZ hown (own_w hw 11 rfl) e50 (W.2.2.1.ext O0.2) d5_35 rfl ?_
  intro T52 X52 e52
  refine own_astore_n 39 #[oA r0, oA r1, oA w_FALSE] X52 hx hby d5_38 rfl rfl rfl ?_
  refine own_goto 46 X52 hx hby d5_39 (by decide) (by decide) ?_
  refine own_aload_n 47 X52 hx hby d5_46 rfl rfl rfl ?_
  exact own_ret (Q := own_Q _ n0 h0) X52 hx hby hret hlk d5_47 rfl (Or.inr (Or.inr (Or.inr (Or.inr ⟨rfl, rfl, rfl⟩)))) (by decide) (by decide) ⟨rfl, N0, e52⟩
set_option maxRecDepth 65536 in
set_option maxHeartbeats 40000000 in
theorem rm5_4 (l : Launch) (Z : State) (a0 : Array Value) (hw : ∀ d ∈ tables_1, d.before a0 Z = true) (ws : List Jvm.Cond) (w_TRUE w_FALSE w_UNKNOWN : Addr) (W : own_W Z w_TRUE w_FALSE w_UNKNOWN) (r0 : Addr) (r1 : Addr) (h0 : Heap) (n0 : Nat) (O0 : Old Z n0 h0) (hc43 : ¬ (r0 = w_TRUE)) (hc46 : ¬ (r1 = w_TRUE)) (hc49 : r0 = w_FALSE) (hc51 : ¬ (r1 = w_FALSE)) :
    MetFree l (⟨"com/example/foram/foram/Truth", "or", "(Lcom/example/foram/foram/Truth;)Lcom/example/foram/foram/Truth;"⟩ : MethodName) (head1 (Jvm.Cond.code (⟨"com/example/foram/foram/Truth", "or", "(Lcom/example/foram/foram/Truth;)Lcom/example/foram/foram/Truth;"⟩ : MethodName) prog_55_method_6_code 3 (some (.object "com/example/foram/foram/Truth")) :: ws) ({ frames := 0, cells := 0, slots := 0, locals := 0 } : Room)) (fun a U => a = #[(.ref r0), (.ref r1)] ∧ Z.Warmed39 U.vm ∧ U.heap = h0) (fun _ _ _ _ _ => True) (fun _ U o U' => ∃ v L, o = .returned v ∧ own_Q (some (.ref w_UNKNOWN)) n0 h0 v U'.heap L ∧ FrameEnd U o U' L ({ frames := 0, cells := 0, slots := 0, locals := 0 } : Room).cells ({ frames := 0, cells := 0, slots := 0, locals := 0 } : Room).slots) := by
  refine MetFree.of_bodySF (plainFor_of_name pn_1) hisR ?_
  intro p e s m args below meth c s₁ Bd hml0 hP hK
  obtain ⟨rfl, hZ, hh⟩ := hP
  have hx := Bd.exec
  have hby := Bd.bytes
  have hml : c.maxLocals = 3 := hml0
  have hlk := BodyLoose.notSynchronized Bd
  have hret := Bd.returns
  have hown : s.vm.findClass "com/example/foram/foram/Truth" = some m.cls := findClass_of_methodNamed Bd.named
  have hnm := (name_of_methodNamed Bd.named Bd.method).1
  have X0 : Stand p l e ({ frames := 0, cells := 0, slots := 0, locals := 0 } : Room) s m #[(.ref r0), (.ref r1)] below meth c s₁ [] 0 0 := Stand.of_body Bd
  have e0 : s₁.heap = h0 := by rw [← hh, Bd.state]; rfl
  have N0 := Fr.nil n0
  rw [ef_5 m r0 r1]
  show Go p e below _ (s₁.setTop (mkF m 0 #[oA r0, oA r1, oU] []))
  refine own_aload_n 1 X0 hx hby d5_0 rfl rfl rfl ?_
  refine own_getS 4 X0 hx hby hZ hown (own_w hw 18 rfl) e0 (W.1.ext O0.2) d5_1 rfl ?_
  intro T42 X42 e42
  refine own_acmp 7 false X42 hx hby d5_4 rfl rfl (by decide) (by decide) (decide_eq_false fun q => hc43 (Value.ref.inj q)) ?_
  refine own_aload_n 8 X42 hx hby d5_7 rfl rfl rfl ?_
  refine own_getS 11 X42 hx hby hZ hown (own_w hw 18 rfl) e42 (W.1.ext O0.2) d5_8 rfl ?_
  intro T45 X45 e45
  refine own_acmp 21 false X45 hx hby d5_11 rfl rfl (by decide) (by decide) (decide_eq_false fun q => hc46 (Value.ref.inj q)) ?_
  refine own_aload_n 22 X45 hx hby d5_21 rfl rfl rfl ?_
  refine own_getS 25 X45 hx hby hZ hown (own_w hw 11 rfl) e45 (W.2.2.1.ext O0.2) d5_22 rfl ?_
  intro T48 X48 e48
  refine own_acmp 28 true X48 hx hby d5_25 rfl rfl (by decide) (by decide) (decide_eq_true (congrArg Value.ref hc49)) ?_
  refine own_aload_n 29 X48 hx hby d5_28 rfl rfl rfl ?_
  refine own_getS 32 X48 hx hby hZ hown (own_w hw 11 rfl) e48 (W.2.2.1.ext O0.2) d5_29 rfl ?_
  intro T50 X50 e50
  refine own_acmp 42 false X50 hx hby d5_32 rfl rfl (by decide) (by decide) (decide_eq_false fun q => hc51 (Value.ref.inj q)) ?_
  refine own_getS 45 X50 hx hby hZ hown (own_w hw 32 rfl) e50 (W.2.2.2.2.1.ext O0.2) d5_42 rfl ?_
  intro T53 X53 e53
  refine own_astore_n 46 #[oA r0, oA r1, oA w_UNKNOWN] X53 hx hby d5_45 rfl rfl rfl ?_
  refine own_aload_n 47 X53 hx hby d5_46 rfl rfl rfl ?_
  exact own_ret (Q := own_Q _ n0 h0) X53 hx hby hret hlk d5_47 rfl (Or.inr (Or.inr (Or.inr (Or.inr ⟨rfl, rfl, rfl⟩)))) (by decide) (by decide) ⟨rfl, N0, e53⟩
set_option maxRecDepth 65536 in
set_option maxHeartbeats 40000000 in
theorem rm5_5 (l : Launch) (Z : State) (a0 : Array Value) (hw : ∀ d ∈ tables_1, d.before a0 Z = true) (ws : List Jvm.Cond) (w_TRUE w_FALSE w_UNKNOWN : Addr) (W : own_W Z w_TRUE w_FALSE w_UNKNOWN) (r0 : Addr) (r1 : Addr) (h0 : Heap) (n0 : Nat) (O0 : Old Z n0 h0) (hc43 : ¬ (r0 = w_TRUE)) (hc46 : ¬ (r1 = w_TRUE)) (hc49 : ¬ (r0 = w_FALSE)) :
    MetFree l (⟨"com/example/foram/foram/Truth", "or", "(Lcom/example/foram/foram/Truth;)Lcom/example/foram/foram/Truth;"⟩ : MethodName) (head1 (Jvm.Cond.code (⟨"com/example/foram/foram/Truth", "or", "(Lcom/example/foram/foram/Truth;)Lcom/example/foram/foram/Truth;"⟩ : MethodName) prog_55_method_6_code 3 (some (.object "com/example/foram/foram/Truth")) :: ws) ({ frames := 0, cells := 0, slots := 0, locals := 0 } : Room)) (fun a U => a = #[(.ref r0), (.ref r1)] ∧ Z.Warmed39 U.vm ∧ U.heap = h0) (fun _ _ _ _ _ => True) (fun _ U o U' => ∃ v L, o = .returned v ∧ own_Q (some (.ref w_UNKNOWN)) n0 h0 v U'.heap L ∧ FrameEnd U o U' L ({ frames := 0, cells := 0, slots := 0, locals := 0 } : Room).cells ({ frames := 0, cells := 0, slots := 0, locals := 0 } : Room).slots) := by
  refine MetFree.of_bodySF (plainFor_of_name pn_1) hisR ?_
  intro p e s m args below meth c s₁ Bd hml0 hP hK
  obtain ⟨rfl, hZ, hh⟩ := hP
  have hx := Bd.exec
  have hby := Bd.bytes
  have hml : c.maxLocals = 3 := hml0
  have hlk := BodyLoose.notSynchronized Bd
  have hret := Bd.returns
  have hown : s.vm.findClass "com/example/foram/foram/Truth" = some m.cls := findClass_of_methodNamed Bd.named
  have hnm := (name_of_methodNamed Bd.named Bd.method).1
  have X0 : Stand p l e ({ frames := 0, cells := 0, slots := 0, locals := 0 } : Room) s m #[(.ref r0), (.ref r1)] below meth c s₁ [] 0 0 := Stand.of_body Bd
  have e0 : s₁.heap = h0 := by rw [← hh, Bd.state]; rfl
  have N0 := Fr.nil n0
  rw [ef_5 m r0 r1]
  show Go p e below _ (s₁.setTop (mkF m 0 #[oA r0, oA r1, oU] []))
  refine own_aload_n 1 X0 hx hby d5_0 rfl rfl rfl ?_
  refine own_getS 4 X0 hx hby hZ hown (own_w hw 18 rfl) e0 (W.1.ext O0.2) d5_1 rfl ?_
  intro T42 X42 e42
  refine own_acmp 7 false X42 hx hby d5_4 rfl rfl (by decide) (by decide) (decide_eq_false fun q => hc43 (Value.ref.inj q)) ?_
  refine own_aload_n 8 X42 hx hby d5_7 rfl rfl rfl ?_
  refine own_getS 11 X42 hx hby hZ hown (own_w hw 18 rfl) e42 (W.1.ext O0.2) d5_8 rfl ?_
  intro T45 X45 e45
  refine own_acmp 21 false X45 hx hby d5_11 rfl rfl (by decide) (by decide) (decide_eq_false fun q => hc46 (Value.ref.inj q)) ?_
  refine own_aload_n 22 X45 hx hby d5_21 rfl rfl rfl ?_
  refine own_getS 25 X45 hx hby hZ hown (own_w hw 11 rfl) e45 (W.2.2.1.ext O0.2) d5_22 rfl ?_
  intro T48 X48 e48
  refine own_acmp 42 false X48 hx hby d5_25 rfl rfl (by decide) (by decide) (decide_eq_false fun q => hc49 (Value.ref.inj q)) ?_
  refine own_getS 45 X48 hx hby hZ hown (own_w hw 32 rfl) e48 (W.2.2.2.2.1.ext O0.2) d5_42 rfl ?_
  intro T54 X54 e54
  refine own_astore_n 46 #[oA r0, oA r1, oA w_UNKNOWN] X54 hx hby d5_45 rfl rfl rfl ?_
  refine own_aload_n 47 X54 hx hby d5_46 rfl rfl rfl ?_
  exact own_ret (Q := own_Q _ n0 h0) X54 hx hby hret hlk d5_47 rfl (Or.inr (Or.inr (Or.inr (Or.inr ⟨rfl, rfl, rfl⟩)))) (by decide) (by decide) ⟨rfl, N0, e54⟩
set_option maxRecDepth 65536 in
set_option maxHeartbeats 40000000 in
theorem rm0 (l : Launch) (Z : State) (a0 : Array Value) (hw : ∀ d ∈ tables_1, d.before a0 Z = true) (ws : List Jvm.Cond) (w_TRUE w_FALSE w_UNKNOWN : Addr) (W : own_W Z w_TRUE w_FALSE w_UNKNOWN) (x0 : Int32) (x1 : Int32) (x2 : Int32) (h0 : Heap) (n0 : Nat) (O0 : Old Z n0 h0)  :
    MetFree l x (head1 (Jvm.Cond.code x code maxLocals ret :: ws) room_1) (fun a U => a = #[(.int x0), (.int x1), (.int x2)] ∧ Z.Warmed39 U.vm ∧ U.heap = h0) (fun _ _ _ _ _ => True) (fun _ U o U' => ∃ v L, o = .returned v ∧ own_Q1 n0 v U'.heap L ∧ FrameEnd U o U' L 0 0) := by
  refine MetFree.of_bodySF (plainFor_of_name pn_0) hisR ?_
  intro p e s m args below meth c s₁ Bd hml0 hP hK
  obtain ⟨rfl, hZ, hh⟩ := hP
  have hx := Bd.exec
  have hby := Bd.bytes
  have hml : c.maxLocals = 9 := hml0
  have hlk := BodyLoose.notSynchronized Bd
  have hret := Bd.returns
  have hown : s.vm.findClass "com/example/foram/foram/TruthNotPinLaw" = some m.cls := findClass_of_methodNamed Bd.named
  have hnm := (name_of_methodNamed Bd.named Bd.method).1
  have X0 : Stand p l e room_1 s m #[(.int x0), (.int x1), (.int x2)] below meth c s₁ [] 0 0 := Stand.of_body Bd
  have e0 : s₁.heap = h0 := by rw [← hh, Bd.state]; rfl
  have N0 := Fr.nil n0
  rw [ef_0 m x0 x1 x2]
  show Go p e below _ (s₁.setTop (mkF m 0 #[oI x0, oI x1, oI x2, oU, oU, oU, oU, oU, oU] []))
  refine own_iload_n 1 X0 hx hby at_0 rfl rfl ?_
  rcases own_mod3 x0 with hv5 | hv5 | hv5
  · refine own_callS (W := 0) 4 (rm1_1 l Z a0 hw [] w_TRUE w_FALSE w_UNKNOWN W x0 h0 n0 O0 hv5) X0 hx hby hZ hown (own_w hw 0 rfl) (own_w hw 1 rfl) (own_w hw 2 rfl) (own_w hw 3 rfl) (by decide) (by rw [hml]; rfl) [(.int x0)] [] pd_0 rfl at_1 rfl e0 rfl rfl rfl (by decide) (by decide) (by decide) (by decide) ?_
    rintro _ T6 L6 X6 ⟨rfl, N6, e6⟩
    have N6 := Fr.app N0 N6
    show Go p e below _ (T6.setTop (mkF m 4 _ [(.ref w_TRUE)]))
    refine own_astore_n 5 #[oI x0, oI x1, oI x2, oA w_TRUE, oU, oU, oU, oU, oU] X6 hx hby at_4 rfl rfl rfl ?_
    refine own_iload_n 6 X6 hx hby at_5 rfl rfl ?_
    rcases own_mod3 x1 with hv7 | hv7 | hv7
    · refine own_callS (W := 0) 9 (rm1_1 l Z a0 hw [] w_TRUE w_FALSE w_UNKNOWN W x1 h0 n0 O0 hv7) X6 hx hby hZ hown (own_w hw 0 rfl) (own_w hw 1 rfl) (own_w hw 2 rfl) (own_w hw 3 rfl) (by decide) (by rw [hml]; rfl) [(.int x1)] [] pd_0 rfl at_6 rfl e6 rfl rfl rfl (by decide) (by decide) (by decide) (by decide) ?_
      rintro _ T8 L8 X8 ⟨rfl, N8, e8⟩
      have N8 := Fr.app N6 N8
      show Go p e below _ (T8.setTop (mkF m 9 _ [(.ref w_TRUE)]))
      refine own_astore 11 #[oI x0, oI x1, oI x2, oA w_TRUE, oA w_TRUE, oU, oU, oU, oU] X8 hx hby at_9 rfl rfl rfl ?_
      refine own_iload_n 12 X8 hx hby at_11 rfl rfl ?_
      refine own_iconst 13 (1 : Int32) X8 hx hby at_12 rfl (by decide) ?_
      rcases own_and1 x2 with hv9 | hv9
      · refine own_iand 14 (0 : Int32) X8 hx hby at_13 rfl hv9 ?_
        refine own_ifY 21 X8 hx hby at_14 (by decide) (by decide) (by decide) ?_
        refine own_iconst 22 (0 : Int32) X8 hx hby at_21 rfl (by decide) ?_
        refine own_istore 24 #[oI x0, oI x1, oI x2, oA w_TRUE, oA w_TRUE, oI (0 : Int32), oU, oU, oU] X8 hx hby at_22 rfl rfl ?_
        refine own_iload 26 X8 hx hby at_24 rfl rfl ?_
        refine own_callS (W := 0) 29 (rm2_1 l Z a0 hw [] w_TRUE w_FALSE w_UNKNOWN W (0 : Int32) h0 n0 O0 (by decide)) X8 hx hby hZ hown (own_w hw 8 rfl) (own_w hw 9 rfl) (own_w hw 6 rfl) (own_w hw 10 rfl) (by decide) (by rw [hml]; rfl) [(.int (0 : Int32))] [] pd_1 rfl at_26 rfl e8 rfl rfl rfl (by decide) (by decide) (by decide) (by decide) ?_
        rintro _ T13 L13 X13 ⟨rfl, N13, e13⟩
        have N13 := Fr.app N8 N13
        show Go p e below _ (T13.setTop (mkF m 29 _ [(.ref w_FALSE)]))
        refine own_virt (W := 0) 32 (rm3_2 l Z a0 hw [] w_TRUE w_FALSE w_UNKNOWN W w_FALSE h0 n0 O0 (Fld.ne W.2.2.2.2.2.2.1 W.2.2.2.2.2.2.2.1 (fun q => absurd (Value.int.inj q) (by decide))) rfl) X13 hx hby hZ hown (own_w hw 13 rfl) (own_w hw 14 rfl) (notFace_of_selects (args := #[]) (mvT hZ (own_w hw 16 rfl))) (own_w hw 16 rfl) (own_w hw 15 rfl) (own_w hw 6 rfl) (own_w hw 17 rfl) (by decide) (by rw [hml]; rfl) w_FALSE [] [] pd_2 rfl at_29 rfl e13 (W.2.2.2.1.ext O0.2) rfl rfl rfl (by decide) (by decide) (by decide) (by decide) ?_
        rintro _ T21 L21 X21 ⟨rfl, N21, e21⟩
        have N21 := Fr.app N13 N21
        show Go p e below _ (T21.setTop (mkF m 32 _ [(.ref w_TRUE)]))
        refine own_iload 34 X21 hx hby at_32 rfl rfl ?_
        refine own_ifN 37 X21 hx hby at_34 rfl (by decide) ?_
        refine own_iconst 38 (1 : Int32) X21 hx hby at_37 rfl (by decide) ?_
        refine own_goto 42 X21 hx hby at_38 (by decide) (by decide) ?_
        refine own_callS (W := 1) 45 (rm2_2 l Z a0 hw [] w_TRUE w_FALSE w_UNKNOWN W (1 : Int32) h0 n0 O0 (by decide)) X21 hx hby hZ hown (own_w hw 8 rfl) (own_w hw 9 rfl) (own_w hw 6 rfl) (own_w hw 10 rfl) (by decide) (by rw [hml]; rfl) [(.int (1 : Int32))] [(.ref w_TRUE)] pd_1 rfl at_42 rfl e21 rfl rfl rfl (by decide) (by decide) (by decide) (by decide) ?_
        rintro _ T22 L22 X22 ⟨rfl, N22, e22⟩
        have N22 := Fr.app N21 N22
        show Go p e below _ (T22.setTop (mkF m 45 _ [(.ref w_TRUE), (.ref w_TRUE)]))
        refine own_acmp 48 true X22 hx hby at_45 rfl rfl (by decide) (by decide) (decide_eq_true (congrArg Value.ref rfl)) ?_
        refine own_iconst 49 (1 : Int32) X22 hx hby at_48 rfl (by decide) ?_
        refine own_goto 53 X22 hx hby at_49 (by decide) (by decide) ?_
        refine own_istore 55 #[oI x0, oI x1, oI x2, oA w_TRUE, oA w_TRUE, oI (0 : Int32), oI (1 : Int32), oU, oU] X22 hx hby at_53 rfl rfl ?_
        refine own_aload_n 56 X22 hx hby at_55 rfl rfl rfl ?_
        refine own_virt (W := 0) 59 (rm3_1 l Z a0 hw [] w_TRUE w_FALSE w_UNKNOWN W w_TRUE h0 n0 O0 rfl) X22 hx hby hZ hown (own_w hw 13 rfl) (own_w hw 14 rfl) (notFace_of_selects (args := #[]) (mvT hZ (own_w hw 16 rfl))) (own_w hw 16 rfl) (own_w hw 15 rfl) (own_w hw 6 rfl) (own_w hw 17 rfl) (by decide) (by rw [hml]; rfl) w_TRUE [] [] pd_2 rfl at_56 rfl e22 (W.2.1.ext O0.2) rfl rfl rfl (by decide) (by decide) (by decide) (by decide) ?_
        rintro _ T23 L23 X23 ⟨rfl, N23, e23⟩
        have N23 := Fr.app N22 N23
        show Go p e below _ (T23.setTop (mkF m 59 _ [(.ref w_FALSE)]))
        refine own_virt (W := 0) 62 (rm3_2 l Z a0 hw [] w_TRUE w_FALSE w_UNKNOWN W w_FALSE h0 n0 O0 (Fld.ne W.2.2.2.2.2.2.1 W.2.2.2.2.2.2.2.1 (fun q => absurd (Value.int.inj q) (by decide))) rfl) X23 hx hby hZ hown (own_w hw 13 rfl) (own_w hw 14 rfl) (notFace_of_selects (args := #[]) (mvT hZ (own_w hw 16 rfl))) (own_w hw 16 rfl) (own_w hw 15 rfl) (own_w hw 6 rfl) (own_w hw 17 rfl) (by decide) (by rw [hml]; rfl) w_FALSE [] [] pd_2 rfl at_59 rfl e23 (W.2.2.2.1.ext O0.2) rfl rfl rfl (by decide) (by decide) (by decide) (by decide) ?_
        rintro _ T24 L24 X24 ⟨rfl, N24, e24⟩
        have N24 := Fr.app N23 N24
        show Go p e below _ (T24.setTop (mkF m 62 _ [(.ref w_TRUE)]))
        refine own_aload_n 63 X24 hx hby at_62 rfl rfl rfl ?_
        refine own_acmp 66 true X24 hx hby at_63 rfl rfl (by decide) (by decide) (decide_eq_true (congrArg Value.ref rfl)) ?_
        refine own_iconst 67 (1 : Int32) X24 hx hby at_66 rfl (by decide) ?_
        refine own_goto 71 X24 hx hby at_67 (by decide) (by decide) ?_
        refine own_istore 73 #[oI x0, oI x1, oI x2, oA w_TRUE, oA w_TRUE, oI (0 : Int32), oI (1 : Int32), oI (1 : Int32), oU] X24 hx hby at_71 rfl rfl ?_
        refine own_aload_n 74 X24 hx hby at_73 rfl rfl rfl ?_
        refine own_aload 76 X24 hx hby at_74 rfl rfl rfl ?_
        refine own_virt (W := 0) 79 (rm4_3 l Z a0 hw [] w_TRUE w_FALSE w_UNKNOWN W w_TRUE w_TRUE h0 n0 O0 (Fld.ne W.2.2.2.2.2.2.2.1 W.2.2.2.2.2.2.1 (fun q => absurd (Value.int.inj q) (by decide))) (Fld.ne W.2.2.2.2.2.2.2.1 W.2.2.2.2.2.2.1 (fun q => absurd (Value.int.inj q) (by decide))) rfl rfl) X24 hx hby hZ hown (own_w hw 19 rfl) (own_w hw 20 rfl) (notFace_of_selects (args := #[]) (mvT hZ (own_w hw 22 rfl))) (own_w hw 22 rfl) (own_w hw 21 rfl) (own_w hw 6 rfl) (own_w hw 23 rfl) (by decide) (by rw [hml]; rfl) w_TRUE [(.ref w_TRUE)] [] pd_3 rfl at_76 rfl e24 (W.2.1.ext O0.2) rfl rfl rfl (by decide) (by decide) (by decide) (by decide) ?_
        rintro _ T38 L38 X38 ⟨rfl, N38, e38⟩
        have N38 := Fr.app N24 N38
        show Go p e below _ (T38.setTop (mkF m 79 _ [(.ref w_TRUE)]))
        refine own_virt (W := 0) 82 (rm3_1 l Z a0 hw [] w_TRUE w_FALSE w_UNKNOWN W w_TRUE h0 n0 O0 rfl) X38 hx hby hZ hown (own_w hw 13 rfl) (own_w hw 14 rfl) (notFace_of_selects (args := #[]) (mvT hZ (own_w hw 16 rfl))) (own_w hw 16 rfl) (own_w hw 15 rfl) (own_w hw 6 rfl) (own_w hw 17 rfl) (by decide) (by rw [hml]; rfl) w_TRUE [] [] pd_2 rfl at_79 rfl e38 (W.2.1.ext O0.2) rfl rfl rfl (by decide) (by decide) (by decide) (by decide) ?_
        rintro _ T39 L39 X39 ⟨rfl, N39, e39⟩
        have N39 := Fr.app N38 N39
        show Go p e below _ (T39.setTop (mkF m 82 _ [(.ref w_FALSE)]))
        refine own_aload_n 83 X39 hx hby at_82 rfl rfl rfl ?_
        refine own_virt (W := 1) 86 (rm3_1 l Z a0 hw [] w_TRUE w_FALSE w_UNKNOWN W w_TRUE h0 n0 O0 rfl) X39 hx hby hZ hown (own_w hw 13 rfl) (own_w hw 14 rfl) (notFace_of_selects (args := #[]) (mvT hZ (own_w hw 16 rfl))) (own_w hw 16 rfl) (own_w hw 15 rfl) (own_w hw 6 rfl) (own_w hw 17 rfl) (by decide) (by rw [hml]; rfl) w_TRUE [] [(.ref w_FALSE)] pd_2 rfl at_83 rfl e39 (W.2.1.ext O0.2) rfl rfl rfl (by decide) (by decide) (by decide) (by decide) ?_
        rintro _ T40 L40 X40 ⟨rfl, N40, e40⟩
        have N40 := Fr.app N39 N40
        show Go p e below _ (T40.setTop (mkF m 86 _ [(.ref w_FALSE), (.ref w_FALSE)]))
        refine own_aload 88 X40 hx hby at_86 rfl rfl rfl ?_
        refine own_virt (W := 2) 91 (rm3_1 l Z a0 hw [] w_TRUE w_FALSE w_UNKNOWN W w_TRUE h0 n0 O0 rfl) X40 hx hby hZ hown (own_w hw 13 rfl) (own_w hw 14 rfl) (notFace_of_selects (args := #[]) (mvT hZ (own_w hw 16 rfl))) (own_w hw 16 rfl) (own_w hw 15 rfl) (own_w hw 6 rfl) (own_w hw 17 rfl) (by decide) (by rw [hml]; rfl) w_TRUE [] [(.ref w_FALSE), (.ref w_FALSE)] pd_2 rfl at_88 rfl e40 (W.2.1.ext O0.2) rfl rfl rfl (by decide) (by decide) (by decide) (by decide) ?_
        rintro _ T41 L41 X41 ⟨rfl, N41, e41⟩
        have N41 := Fr.app N40 N41
        show Go p e below _ (T41.setTop (mkF m 91 _ [(.ref w_FALSE), (.ref w_FALSE), (.ref w_FALSE)]))
        refine own_virt (W := 1) 94 (rm5_3 l Z a0 hw [] w_TRUE w_FALSE w_UNKNOWN W w_FALSE w_FALSE h0 n0 O0 (Fld.ne W.2.2.2.2.2.2.1 W.2.2.2.2.2.2.2.1 (fun q => absurd (Value.int.inj q) (by decide))) (Fld.ne W.2.2.2.2.2.2.1 W.2.2.2.2.2.2.2.1 (fun q => absurd (Value.int.inj q) (by decide))) rfl rfl) X41 hx hby hZ hown (own_w hw 24 rfl) (own_w hw 25 rfl) (notFace_of_selects (args := #[]) (mvT hZ (own_w hw 27 rfl))) (own_w hw 27 rfl) (own_w hw 26 rfl) (own_w hw 6 rfl) (own_w hw 28 rfl) (by decide) (by rw [hml]; rfl) w_FALSE [(.ref w_FALSE)] [(.ref w_FALSE)] pd_3 rfl at_91 rfl e41 (W.2.2.2.1.ext O0.2) rfl rfl rfl (by decide) (by decide) (by decide) (by decide) ?_
        rintro _ T55 L55 X55 ⟨rfl, N55, e55⟩
        have N55 := Fr.app N41 N55
        show Go p e below _ (T55.setTop (mkF m 94 _ [(.ref w_FALSE), (.ref w_FALSE)]))
        refine own_acmp 97 true X55 hx hby at_94 rfl rfl (by decide) (by decide) (decide_eq_true (congrArg Value.ref rfl)) ?_
        refine own_iconst 98 (1 : Int32) X55 hx hby at_97 rfl (by decide) ?_
        refine own_goto 102 X55 hx hby at_98 (by decide) (by decide) ?_
        refine own_istore 104 #[oI x0, oI x1, oI x2, oA w_TRUE, oA w_TRUE, oI (0 : Int32), oI (1 : Int32), oI (1 : Int32), oI (1 : Int32)] X55 hx hby at_102 rfl rfl ?_
        refine own_iload 106 X55 hx hby at_104 rfl rfl ?_
        refine own_ifN 109 X55 hx hby at_106 rfl (by decide) ?_
        refine own_iload 111 X55 hx hby at_109 rfl rfl ?_
        refine own_ifN 114 X55 hx hby at_111 rfl (by decide) ?_
        refine own_iload 116 X55 hx hby at_114 rfl rfl ?_
        refine own_ifN 119 X55 hx hby at_116 rfl (by decide) ?_
        refine own_iconst 120 (1 : Int32) X55 hx hby at_119 rfl (by decide) ?_
        refine own_goto 124 X55 hx hby at_120 (by decide) (by decide) ?_
        exact own_ret (Q := own_Q1 n0) X55 hx hby hret hlk at_124 rfl (Or.inl ⟨rfl, by simp, _, rfl⟩) (by decide) (by decide) ⟨rfl, N55⟩
      · refine own_iand 14 (1 : Int32) X8 hx hby at_13 rfl hv9 ?_
        refine own_ifN 17 X8 hx hby at_14 rfl (by decide) ?_
        refine own_iconst 18 (1 : Int32) X8 hx hby at_17 rfl (by decide) ?_
        refine own_goto 22 X8 hx hby at_18 (by decide) (by decide) ?_
        refine own_istore 24 #[oI x0, oI x1, oI x2, oA w_TRUE, oA w_TRUE, oI (1 : Int32), oU, oU, oU] X8 hx hby at_22 rfl rfl ?_
        refine own_iload 26 X8 hx hby at_24 rfl rfl ?_
        refine own_callS (W := 0) 29 (rm2_2 l Z a0 hw [] w_TRUE w_FALSE w_UNKNOWN W (1 : Int32) h0 n0 O0 (by decide)) X8 hx hby hZ hown (own_w hw 8 rfl) (own_w hw 9 rfl) (own_w hw 6 rfl) (own_w hw 10 rfl) (by decide) (by rw [hml]; rfl) [(.int (1 : Int32))] [] pd_1 rfl at_26 rfl e8 rfl rfl rfl (by decide) (by decide) (by decide) (by decide) ?_
        rintro _ T56 L56 X56 ⟨rfl, N56, e56⟩
        have N56 := Fr.app N8 N56
        show Go p e below _ (T56.setTop (mkF m 29 _ [(.ref w_TRUE)]))
        refine own_virt (W := 0) 32 (rm3_1 l Z a0 hw [] w_TRUE w_FALSE w_UNKNOWN W w_TRUE h0 n0 O0 rfl) X56 hx hby hZ hown (own_w hw 13 rfl) (own_w hw 14 rfl) (notFace_of_selects (args := #[]) (mvT hZ (own_w hw 16 rfl))) (own_w hw 16 rfl) (own_w hw 15 rfl) (own_w hw 6 rfl) (own_w hw 17 rfl) (by decide) (by rw [hml]; rfl) w_TRUE [] [] pd_2 rfl at_29 rfl e56 (W.2.1.ext O0.2) rfl rfl rfl (by decide) (by decide) (by decide) (by decide) ?_
        rintro _ T57 L57 X57 ⟨rfl, N57, e57⟩
        have N57 := Fr.app N56 N57
        show Go p e below _ (T57.setTop (mkF m 32 _ [(.ref w_FALSE)]))
        refine own_iload 34 X57 hx hby at_32 rfl rfl ?_
        refine own_ifY 41 X57 hx hby at_34 (by decide) (by decide) (by decide) ?_
        refine own_iconst 42 (0 : Int32) X57 hx hby at_41 rfl (by decide) ?_
        refine own_callS (W := 1) 45 (rm2_1 l Z a0 hw [] w_TRUE w_FALSE w_UNKNOWN W (0 : Int32) h0 n0 O0 (by decide)) X57 hx hby hZ hown (own_w hw 8 rfl) (own_w hw 9 rfl) (own_w hw 6 rfl) (own_w hw 10 rfl) (by decide) (by rw [hml]; rfl) [(.int (0 : Int32))] [(.ref w_FALSE)] pd_1 rfl at_42 rfl e57 rfl rfl rfl (by decide) (by decide) (by decide) (by decide) ?_
        rintro _ T58 L58 X58 ⟨rfl, N58, e58⟩
        have N58 := Fr.app N57 N58
        show Go p e below _ (T58.setTop (mkF m 45 _ [(.ref w_FALSE), (.ref w_FALSE)]))
        refine own_acmp 48 true X58 hx hby at_45 rfl rfl (by decide) (by decide) (decide_eq_true (congrArg Value.ref rfl)) ?_
        refine own_iconst 49 (1 : Int32) X58 hx hby at_48 rfl (by decide) ?_
        refine own_goto 53 X58 hx hby at_49 (by decide) (by decide) ?_
        refine own_istore 55 #[oI x0, oI x1, oI x2, oA w_TRUE, oA w_TRUE, oI (1 : Int32), oI (1 : Int32), oU, oU] X58 hx hby at_53 rfl rfl ?_
        refine own_aload_n 56 X58 hx hby at_55 rfl rfl rfl ?_
        refine own_virt (W := 0) 59 (rm3_1 l Z a0 hw [] w_TRUE w_FALSE w_UNKNOWN W w_TRUE h0 n0 O0 rfl) X58 hx hby hZ hown (own_w hw 13 rfl) (own_w hw 14 rfl) (notFace_of_selects (args := #[]) (mvT hZ (own_w hw 16 rfl))) (own_w hw 16 rfl) (own_w hw 15 rfl) (own_w hw 6 rfl) (own_w hw 17 rfl) (by decide) (by rw [hml]; rfl) w_TRUE [] [] pd_2 rfl at_56 rfl e58 (W.2.1.ext O0.2) rfl rfl rfl (by decide) (by decide) (by decide) (by decide) ?_
        rintro _ T59 L59 X59 ⟨rfl, N59, e59⟩
        have N59 := Fr.app N58 N59
        show Go p e below _ (T59.setTop (mkF m 59 _ [(.ref w_FALSE)]))
        refine own_virt (W := 0) 62 (rm3_2 l Z a0 hw [] w_TRUE w_FALSE w_UNKNOWN W w_FALSE h0 n0 O0 (Fld.ne W.2.2.2.2.2.2.1 W.2.2.2.2.2.2.2.1 (fun q => absurd (Value.int.inj q) (by decide))) rfl) X59 hx hby hZ hown (own_w hw 13 rfl) (own_w hw 14 rfl) (notFace_of_selects (args := #[]) (mvT hZ (own_w hw 16 rfl))) (own_w hw 16 rfl) (own_w hw 15 rfl) (own_w hw 6 rfl) (own_w hw 17 rfl) (by decide) (by rw [hml]; rfl) w_FALSE [] [] pd_2 rfl at_59 rfl e59 (W.2.2.2.1.ext O0.2) rfl rfl rfl (by decide) (by decide) (by decide) (by decide) ?_
        rintro _ T60 L60 X60 ⟨rfl, N60, e60⟩
        have N60 := Fr.app N59 N60
        show Go p e below _ (T60.setTop (mkF m 62 _ [(.ref w_TRUE)]))
        refine own_aload_n 63 X60 hx hby at_62 rfl rfl rfl ?_
        refine own_acmp 66 true X60 hx hby at_63 rfl rfl (by decide) (by decide) (decide_eq_true (congrArg Value.ref rfl)) ?_
        refine own_iconst 67 (1 : Int32) X60 hx hby at_66 rfl (by decide) ?_
        refine own_goto 71 X60 hx hby at_67 (by decide) (by decide) ?_
        refine own_istore 73 #[oI x0, oI x1, oI x2, oA w_TRUE, oA w_TRUE, oI (1 : Int32), oI (1 : Int32), oI (1 : Int32), oU] X60 hx hby at_71 rfl rfl ?_
        refine own_aload_n 74 X60 hx hby at_73 rfl rfl rfl ?_
        refine own_aload 76 X60 hx hby at_74 rfl rfl rfl ?_
        refine own_virt (W := 0) 79 (rm4_3 l Z a0 hw [] w_TRUE w_FALSE w_UNKNOWN W w_TRUE w_TRUE h0 n0 O0 (Fld.ne W.2.2.2.2.2.2.2.1 W.2.2.2.2.2.2.1 (fun q => absurd (Value.int.inj q) (by decide))) (Fld.ne W.2.2.2.2.2.2.2.1 W.2.2.2.2.2.2.1 (fun q => absurd (Value.int.inj q) (by decide))) rfl rfl) X60 hx hby hZ hown (own_w hw 19 rfl) (own_w hw 20 rfl) (notFace_of_selects (args := #[]) (mvT hZ (own_w hw 22 rfl))) (own_w hw 22 rfl) (own_w hw 21 rfl) (own_w hw 6 rfl) (own_w hw 23 rfl) (by decide) (by rw [hml]; rfl) w_TRUE [(.ref w_TRUE)] [] pd_3 rfl at_76 rfl e60 (W.2.1.ext O0.2) rfl rfl rfl (by decide) (by decide) (by decide) (by decide) ?_
        rintro _ T61 L61 X61 ⟨rfl, N61, e61⟩
        have N61 := Fr.app N60 N61
        show Go p e below _ (T61.setTop (mkF m 79 _ [(.ref w_TRUE)]))
        refine own_virt (W := 0) 82 (rm3_1 l Z a0 hw [] w_TRUE w_FALSE w_UNKNOWN W w_TRUE h0 n0 O0 rfl) X61 hx hby hZ hown (own_w hw 13 rfl) (own_w hw 14 rfl) (notFace_of_selects (args := #[]) (mvT hZ (own_w hw 16 rfl))) (own_w hw 16 rfl) (own_w hw 15 rfl) (own_w hw 6 rfl) (own_w hw 17 rfl) (by decide) (by rw [hml]; rfl) w_TRUE [] [] pd_2 rfl at_79 rfl e61 (W.2.1.ext O0.2) rfl rfl rfl (by decide) (by decide) (by decide) (by decide) ?_
        rintro _ T62 L62 X62 ⟨rfl, N62, e62⟩
        have N62 := Fr.app N61 N62
        show Go p e below _ (T62.setTop (mkF m 82 _ [(.ref w_FALSE)]))
        refine own_aload_n 83 X62 hx hby at_82 rfl rfl rfl ?_
        refine own_virt (W := 1) 86 (rm3_1 l Z a0 hw [] w_TRUE w_FALSE w_UNKNOWN W w_TRUE h0 n0 O0 rfl) X62 hx hby hZ hown (own_w hw 13 rfl) (own_w hw 14 rfl) (notFace_of_selects (args := #[]) (mvT hZ (own_w hw 16 rfl))) (own_w hw 16 rfl) (own_w hw 15 rfl) (own_w hw 6 rfl) (own_w hw 17 rfl) (by decide) (by rw [hml]; rfl) w_TRUE [] [(.ref w_FALSE)] pd_2 rfl at_83 rfl e62 (W.2.1.ext O0.2) rfl rfl rfl (by decide) (by decide) (by decide) (by decide) ?_
        rintro _ T63 L63 X63 ⟨rfl, N63, e63⟩
        have N63 := Fr.app N62 N63
        show Go p e below _ (T63.setTop (mkF m 86 _ [(.ref w_FALSE), (.ref w_FALSE)]))
        refine own_aload 88 X63 hx hby at_86 rfl rfl rfl ?_
        refine own_virt (W := 2) 91 (rm3_1 l Z a0 hw [] w_TRUE w_FALSE w_UNKNOWN W w_TRUE h0 n0 O0 rfl) X63 hx hby hZ hown (own_w hw 13 rfl) (own_w hw 14 rfl) (notFace_of_selects (args := #[]) (mvT hZ (own_w hw 16 rfl))) (own_w hw 16 rfl) (own_w hw 15 rfl) (own_w hw 6 rfl) (own_w hw 17 rfl) (by decide) (by rw [hml]; rfl) w_TRUE [] [(.ref w_FALSE), (.ref w_FALSE)] pd_2 rfl at_88 rfl e63 (W.2.1.ext O0.2) rfl rfl rfl (by decide) (by decide) (by decide) (by decide) ?_
        rintro _ T64 L64 X64 ⟨rfl, N64, e64⟩
        have N64 := Fr.app N63 N64
        show Go p e below _ (T64.setTop (mkF m 91 _ [(.ref w_FALSE), (.ref w_FALSE), (.ref w_FALSE)]))
        refine own_virt (W := 1) 94 (rm5_3 l Z a0 hw [] w_TRUE w_FALSE w_UNKNOWN W w_FALSE w_FALSE h0 n0 O0 (Fld.ne W.2.2.2.2.2.2.1 W.2.2.2.2.2.2.2.1 (fun q => absurd (Value.int.inj q) (by decide))) (Fld.ne W.2.2.2.2.2.2.1 W.2.2.2.2.2.2.2.1 (fun q => absurd (Value.int.inj q) (by decide))) rfl rfl) X64 hx hby hZ hown (own_w hw 24 rfl) (own_w hw 25 rfl) (notFace_of_selects (args := #[]) (mvT hZ (own_w hw 27 rfl))) (own_w hw 27 rfl) (own_w hw 26 rfl) (own_w hw 6 rfl) (own_w hw 28 rfl) (by decide) (by rw [hml]; rfl) w_FALSE [(.ref w_FALSE)] [(.ref w_FALSE)] pd_3 rfl at_91 rfl e64 (W.2.2.2.1.ext O0.2) rfl rfl rfl (by decide) (by decide) (by decide) (by decide) ?_
        rintro _ T65 L65 X65 ⟨rfl, N65, e65⟩
        have N65 := Fr.app N64 N65
        show Go p e below _ (T65.setTop (mkF m 94 _ [(.ref w_FALSE), (.ref w_FALSE)]))
        refine own_acmp 97 true X65 hx hby at_94 rfl rfl (by decide) (by decide) (decide_eq_true (congrArg Value.ref rfl)) ?_
        refine own_iconst 98 (1 : Int32) X65 hx hby at_97 rfl (by decide) ?_
        refine own_goto 102 X65 hx hby at_98 (by decide) (by decide) ?_
        refine own_istore 104 #[oI x0, oI x1, oI x2, oA w_TRUE, oA w_TRUE, oI (1 : Int32), oI (1 : Int32), oI (1 : Int32), oI (1 : Int32)] X65 hx hby at_102 rfl rfl ?_
        refine own_iload 106 X65 hx hby at_104 rfl rfl ?_
        refine own_ifN 109 X65 hx hby at_106 rfl (by decide) ?_
        refine own_iload 111 X65 hx hby at_109 rfl rfl ?_
        refine own_ifN 114 X65 hx hby at_111 rfl (by decide) ?_
        refine own_iload 116 X65 hx hby at_114 rfl rfl ?_
        refine own_ifN 119 X65 hx hby at_116 rfl (by decide) ?_
        refine own_iconst 120 (1 : Int32) X65 hx hby at_119 rfl (by decide) ?_
        refine own_goto 124 X65 hx hby at_120 (by decide) (by decide) ?_
        exact own_ret (Q := own_Q1 n0) X65 hx hby hret hlk at_124 rfl (Or.inl ⟨rfl, by simp, _, rfl⟩) (by decide) (by decide) ⟨rfl, N65⟩
    · refine own_callS (W := 0) 9 (rm1_2 l Z a0 hw [] w_TRUE w_FALSE w_UNKNOWN W x1 h0 n0 O0 hv7) X6 hx hby hZ hown (own_w hw 0 rfl) (own_w hw 1 rfl) (own_w hw 2 rfl) (own_w hw 3 rfl) (by decide) (by rw [hml]; rfl) [(.int x1)] [] pd_0 rfl at_6 rfl e6 rfl rfl rfl (by decide) (by decide) (by decide) (by decide) ?_
      rintro _ T66 L66 X66 ⟨rfl, N66, e66⟩
      have N66 := Fr.app N6 N66
      show Go p e below _ (T66.setTop (mkF m 9 _ [(.ref w_FALSE)]))
      refine own_astore 11 #[oI x0, oI x1, oI x2, oA w_TRUE, oA w_FALSE, oU, oU, oU, oU] X66 hx hby at_9 rfl rfl rfl ?_
      refine own_iload_n 12 X66 hx hby at_11 rfl rfl ?_
      refine own_iconst 13 (1 : Int32) X66 hx hby at_12 rfl (by decide) ?_
      rcases own_and1 x2 with hv67 | hv67
      · refine own_iand 14 (0 : Int32) X66 hx hby at_13 rfl hv67 ?_
        refine own_ifY 21 X66 hx hby at_14 (by decide) (by decide) (by decide) ?_
        refine own_iconst 22 (0 : Int32) X66 hx hby at_21 rfl (by decide) ?_
        refine own_istore 24 #[oI x0, oI x1, oI x2, oA w_TRUE, oA w_FALSE, oI (0 : Int32), oU, oU, oU] X66 hx hby at_22 rfl rfl ?_
        refine own_iload 26 X66 hx hby at_24 rfl rfl ?_
        refine own_callS (W := 0) 29 (rm2_1 l Z a0 hw [] w_TRUE w_FALSE w_UNKNOWN W (0 : Int32) h0 n0 O0 (by decide)) X66 hx hby hZ hown (own_w hw 8 rfl) (own_w hw 9 rfl) (own_w hw 6 rfl) (own_w hw 10 rfl) (by decide) (by rw [hml]; rfl) [(.int (0 : Int32))] [] pd_1 rfl at_26 rfl e66 rfl rfl rfl (by decide) (by decide) (by decide) (by decide) ?_
        rintro _ T68 L68 X68 ⟨rfl, N68, e68⟩
        have N68 := Fr.app N66 N68
        show Go p e below _ (T68.setTop (mkF m 29 _ [(.ref w_FALSE)]))
        refine own_virt (W := 0) 32 (rm3_2 l Z a0 hw [] w_TRUE w_FALSE w_UNKNOWN W w_FALSE h0 n0 O0 (Fld.ne W.2.2.2.2.2.2.1 W.2.2.2.2.2.2.2.1 (fun q => absurd (Value.int.inj q) (by decide))) rfl) X68 hx hby hZ hown (own_w hw 13 rfl) (own_w hw 14 rfl) (notFace_of_selects (args := #[]) (mvT hZ (own_w hw 16 rfl))) (own_w hw 16 rfl) (own_w hw 15 rfl) (own_w hw 6 rfl) (own_w hw 17 rfl) (by decide) (by rw [hml]; rfl) w_FALSE [] [] pd_2 rfl at_29 rfl e68 (W.2.2.2.1.ext O0.2) rfl rfl rfl (by decide) (by decide) (by decide) (by decide) ?_
        rintro _ T69 L69 X69 ⟨rfl, N69, e69⟩
        have N69 := Fr.app N68 N69
        show Go p e below _ (T69.setTop (mkF m 32 _ [(.ref w_TRUE)]))
        refine own_iload 34 X69 hx hby at_32 rfl rfl ?_
        refine own_ifN 37 X69 hx hby at_34 rfl (by decide) ?_
        refine own_iconst 38 (1 : Int32) X69 hx hby at_37 rfl (by decide) ?_
        refine own_goto 42 X69 hx hby at_38 (by decide) (by decide) ?_
        refine own_callS (W := 1) 45 (rm2_2 l Z a0 hw [] w_TRUE w_FALSE w_UNKNOWN W (1 : Int32) h0 n0 O0 (by decide)) X69 hx hby hZ hown (own_w hw 8 rfl) (own_w hw 9 rfl) (own_w hw 6 rfl) (own_w hw 10 rfl) (by decide) (by rw [hml]; rfl) [(.int (1 : Int32))] [(.ref w_TRUE)] pd_1 rfl at_42 rfl e69 rfl rfl rfl (by decide) (by decide) (by decide) (by decide) ?_
        rintro _ T70 L70 X70 ⟨rfl, N70, e70⟩
        have N70 := Fr.app N69 N70
        show Go p e below _ (T70.setTop (mkF m 45 _ [(.ref w_TRUE), (.ref w_TRUE)]))
        refine own_acmp 48 true X70 hx hby at_45 rfl rfl (by decide) (by decide) (decide_eq_true (congrArg Value.ref rfl)) ?_
        refine own_iconst 49 (1 : Int32) X70 hx hby at_48 rfl (by decide) ?_
        refine own_goto 53 X70 hx hby at_49 (by decide) (by decide) ?_
        refine own_istore 55 #[oI x0, oI x1, oI x2, oA w_TRUE, oA w_FALSE, oI (0 : Int32), oI (1 : Int32), oU, oU] X70 hx hby at_53 rfl rfl ?_
        refine own_aload_n 56 X70 hx hby at_55 rfl rfl rfl ?_
        refine own_virt (W := 0) 59 (rm3_1 l Z a0 hw [] w_TRUE w_FALSE w_UNKNOWN W w_TRUE h0 n0 O0 rfl) X70 hx hby hZ hown (own_w hw 13 rfl) (own_w hw 14 rfl) (notFace_of_selects (args := #[]) (mvT hZ (own_w hw 16 rfl))) (own_w hw 16 rfl) (own_w hw 15 rfl) (own_w hw 6 rfl) (own_w hw 17 rfl) (by decide) (by rw [hml]; rfl) w_TRUE [] [] pd_2 rfl at_56 rfl e70 (W.2.1.ext O0.2) rfl rfl rfl (by decide) (by decide) (by decide) (by decide) ?_
        rintro _ T71 L71 X71 ⟨rfl, N71, e71⟩
        have N71 := Fr.app N70 N71
        show Go p e below _ (T71.setTop (mkF m 59 _ [(.ref w_FALSE)]))
        refine own_virt (W := 0) 62 (rm3_2 l Z a0 hw [] w_TRUE w_FALSE w_UNKNOWN W w_FALSE h0 n0 O0 (Fld.ne W.2.2.2.2.2.2.1 W.2.2.2.2.2.2.2.1 (fun q => absurd (Value.int.inj q) (by decide))) rfl) X71 hx hby hZ hown (own_w hw 13 rfl) (own_w hw 14 rfl) (notFace_of_selects (args := #[]) (mvT hZ (own_w hw 16 rfl))) (own_w hw 16 rfl) (own_w hw 15 rfl) (own_w hw 6 rfl) (own_w hw 17 rfl) (by decide) (by rw [hml]; rfl) w_FALSE [] [] pd_2 rfl at_59 rfl e71 (W.2.2.2.1.ext O0.2) rfl rfl rfl (by decide) (by decide) (by decide) (by decide) ?_
        rintro _ T72 L72 X72 ⟨rfl, N72, e72⟩
        have N72 := Fr.app N71 N72
        show Go p e below _ (T72.setTop (mkF m 62 _ [(.ref w_TRUE)]))
        refine own_aload_n 63 X72 hx hby at_62 rfl rfl rfl ?_
        refine own_acmp 66 true X72 hx hby at_63 rfl rfl (by decide) (by decide) (decide_eq_true (congrArg Value.ref rfl)) ?_
        refine own_iconst 67 (1 : Int32) X72 hx hby at_66 rfl (by decide) ?_
        refine own_goto 71 X72 hx hby at_67 (by decide) (by decide) ?_
        refine own_istore 73 #[oI x0, oI x1, oI x2, oA w_TRUE, oA w_FALSE, oI (0 : Int32), oI (1 : Int32), oI (1 : Int32), oU] X72 hx hby at_71 rfl rfl ?_
        refine own_aload_n 74 X72 hx hby at_73 rfl rfl rfl ?_
        refine own_aload 76 X72 hx hby at_74 rfl rfl rfl ?_
        refine own_virt (W := 0) 79 (rm4_2 l Z a0 hw [] w_TRUE w_FALSE w_UNKNOWN W w_TRUE w_FALSE h0 n0 O0 (Fld.ne W.2.2.2.2.2.2.2.1 W.2.2.2.2.2.2.1 (fun q => absurd (Value.int.inj q) (by decide))) rfl) X72 hx hby hZ hown (own_w hw 19 rfl) (own_w hw 20 rfl) (notFace_of_selects (args := #[]) (mvT hZ (own_w hw 22 rfl))) (own_w hw 22 rfl) (own_w hw 21 rfl) (own_w hw 6 rfl) (own_w hw 23 rfl) (by decide) (by rw [hml]; rfl) w_TRUE [(.ref w_FALSE)] [] pd_3 rfl at_76 rfl e72 (W.2.1.ext O0.2) rfl rfl rfl (by decide) (by decide) (by decide) (by decide) ?_
        rintro _ T73 L73 X73 ⟨rfl, N73, e73⟩
        have N73 := Fr.app N72 N73
        show Go p e below _ (T73.setTop (mkF m 79 _ [(.ref w_FALSE)]))
        refine own_virt (W := 0) 82 (rm3_2 l Z a0 hw [] w_TRUE w_FALSE w_UNKNOWN W w_FALSE h0 n0 O0 (Fld.ne W.2.2.2.2.2.2.1 W.2.2.2.2.2.2.2.1 (fun q => absurd (Value.int.inj q) (by decide))) rfl) X73 hx hby hZ hown (own_w hw 13 rfl) (own_w hw 14 rfl) (notFace_of_selects (args := #[]) (mvT hZ (own_w hw 16 rfl))) (own_w hw 16 rfl) (own_w hw 15 rfl) (own_w hw 6 rfl) (own_w hw 17 rfl) (by decide) (by rw [hml]; rfl) w_FALSE [] [] pd_2 rfl at_79 rfl e73 (W.2.2.2.1.ext O0.2) rfl rfl rfl (by decide) (by decide) (by decide) (by decide) ?_
        rintro _ T74 L74 X74 ⟨rfl, N74, e74⟩
        have N74 := Fr.app N73 N74
        show Go p e below _ (T74.setTop (mkF m 82 _ [(.ref w_TRUE)]))
        refine own_aload_n 83 X74 hx hby at_82 rfl rfl rfl ?_
        refine own_virt (W := 1) 86 (rm3_1 l Z a0 hw [] w_TRUE w_FALSE w_UNKNOWN W w_TRUE h0 n0 O0 rfl) X74 hx hby hZ hown (own_w hw 13 rfl) (own_w hw 14 rfl) (notFace_of_selects (args := #[]) (mvT hZ (own_w hw 16 rfl))) (own_w hw 16 rfl) (own_w hw 15 rfl) (own_w hw 6 rfl) (own_w hw 17 rfl) (by decide) (by rw [hml]; rfl) w_TRUE [] [(.ref w_TRUE)] pd_2 rfl at_83 rfl e74 (W.2.1.ext O0.2) rfl rfl rfl (by decide) (by decide) (by decide) (by decide) ?_
        rintro _ T75 L75 X75 ⟨rfl, N75, e75⟩
        have N75 := Fr.app N74 N75
        show Go p e below _ (T75.setTop (mkF m 86 _ [(.ref w_FALSE), (.ref w_TRUE)]))
        refine own_aload 88 X75 hx hby at_86 rfl rfl rfl ?_
        refine own_virt (W := 2) 91 (rm3_2 l Z a0 hw [] w_TRUE w_FALSE w_UNKNOWN W w_FALSE h0 n0 O0 (Fld.ne W.2.2.2.2.2.2.1 W.2.2.2.2.2.2.2.1 (fun q => absurd (Value.int.inj q) (by decide))) rfl) X75 hx hby hZ hown (own_w hw 13 rfl) (own_w hw 14 rfl) (notFace_of_selects (args := #[]) (mvT hZ (own_w hw 16 rfl))) (own_w hw 16 rfl) (own_w hw 15 rfl) (own_w hw 6 rfl) (own_w hw 17 rfl) (by decide) (by rw [hml]; rfl) w_FALSE [] [(.ref w_FALSE), (.ref w_TRUE)] pd_2 rfl at_88 rfl e75 (W.2.2.2.1.ext O0.2) rfl rfl rfl (by decide) (by decide) (by decide) (by decide) ?_
        rintro _ T76 L76 X76 ⟨rfl, N76, e76⟩
        have N76 := Fr.app N75 N76
        show Go p e below _ (T76.setTop (mkF m 91 _ [(.ref w_TRUE), (.ref w_FALSE), (.ref w_TRUE)]))
        refine own_virt (W := 1) 94 (rm5_2 l Z a0 hw [] w_TRUE w_FALSE w_UNKNOWN W w_FALSE w_TRUE h0 n0 O0 (Fld.ne W.2.2.2.2.2.2.1 W.2.2.2.2.2.2.2.1 (fun q => absurd (Value.int.inj q) (by decide))) rfl) X76 hx hby hZ hown (own_w hw 24 rfl) (own_w hw 25 rfl) (notFace_of_selects (args := #[]) (mvT hZ (own_w hw 27 rfl))) (own_w hw 27 rfl) (own_w hw 26 rfl) (own_w hw 6 rfl) (own_w hw 28 rfl) (by decide) (by rw [hml]; rfl) w_FALSE [(.ref w_TRUE)] [(.ref w_TRUE)] pd_3 rfl at_91 rfl e76 (W.2.2.2.1.ext O0.2) rfl rfl rfl (by decide) (by decide) (by decide) (by decide) ?_
        rintro _ T77 L77 X77 ⟨rfl, N77, e77⟩
        have N77 := Fr.app N76 N77
        show Go p e below _ (T77.setTop (mkF m 94 _ [(.ref w_TRUE), (.ref w_TRUE)]))
        refine own_acmp 97 true X77 hx hby at_94 rfl rfl (by decide) (by decide) (decide_eq_true (congrArg Value.ref rfl)) ?_
        refine own_iconst 98 (1 : Int32) X77 hx hby at_97 rfl (by decide) ?_
        refine own_goto 102 X77 hx hby at_98 (by decide) (by decide) ?_
        refine own_istore 104 #[oI x0, oI x1, oI x2, oA w_TRUE, oA w_FALSE, oI (0 : Int32), oI (1 : Int32), oI (1 : Int32), oI (1 : Int32)] X77 hx hby at_102 rfl rfl ?_
        refine own_iload 106 X77 hx hby at_104 rfl rfl ?_
        refine own_ifN 109 X77 hx hby at_106 rfl (by decide) ?_
        refine own_iload 111 X77 hx hby at_109 rfl rfl ?_
        refine own_ifN 114 X77 hx hby at_111 rfl (by decide) ?_
        refine own_iload 116 X77 hx hby at_114 rfl rfl ?_
        refine own_ifN 119 X77 hx hby at_116 rfl (by decide) ?_
        refine own_iconst 120 (1 : Int32) X77 hx hby at_119 rfl (by decide) ?_
        refine own_goto 124 X77 hx hby at_120 (by decide) (by decide) ?_
        exact own_ret (Q := own_Q1 n0) X77 hx hby hret hlk at_124 rfl (Or.inl ⟨rfl, by simp, _, rfl⟩) (by decide) (by decide) ⟨rfl, N77⟩
      · refine own_iand 14 (1 : Int32) X66 hx hby at_13 rfl hv67 ?_
        refine own_ifN 17 X66 hx hby at_14 rfl (by decide) ?_
        refine own_iconst 18 (1 : Int32) X66 hx hby at_17 rfl (by decide) ?_
        refine own_goto 22 X66 hx hby at_18 (by decide) (by decide) ?_
        refine own_istore 24 #[oI x0, oI x1, oI x2, oA w_TRUE, oA w_FALSE, oI (1 : Int32), oU, oU, oU] X66 hx hby at_22 rfl rfl ?_
        refine own_iload 26 X66 hx hby at_24 rfl rfl ?_
        refine own_callS (W := 0) 29 (rm2_2 l Z a0 hw [] w_TRUE w_FALSE w_UNKNOWN W (1 : Int32) h0 n0 O0 (by decide)) X66 hx hby hZ hown (own_w hw 8 rfl) (own_w hw 9 rfl) (own_w hw 6 rfl) (own_w hw 10 rfl) (by decide) (by rw [hml]; rfl) [(.int (1 : Int32))] [] pd_1 rfl at_26 rfl e66 rfl rfl rfl (by decide) (by decide) (by decide) (by decide) ?_
        rintro _ T78 L78 X78 ⟨rfl, N78, e78⟩
        have N78 := Fr.app N66 N78
        show Go p e below _ (T78.setTop (mkF m 29 _ [(.ref w_TRUE)]))
        refine own_virt (W := 0) 32 (rm3_1 l Z a0 hw [] w_TRUE w_FALSE w_UNKNOWN W w_TRUE h0 n0 O0 rfl) X78 hx hby hZ hown (own_w hw 13 rfl) (own_w hw 14 rfl) (notFace_of_selects (args := #[]) (mvT hZ (own_w hw 16 rfl))) (own_w hw 16 rfl) (own_w hw 15 rfl) (own_w hw 6 rfl) (own_w hw 17 rfl) (by decide) (by rw [hml]; rfl) w_TRUE [] [] pd_2 rfl at_29 rfl e78 (W.2.1.ext O0.2) rfl rfl rfl (by decide) (by decide) (by decide) (by decide) ?_
        rintro _ T79 L79 X79 ⟨rfl, N79, e79⟩
        have N79 := Fr.app N78 N79
        show Go p e below _ (T79.setTop (mkF m 32 _ [(.ref w_FALSE)]))
        refine own_iload 34 X79 hx hby at_32 rfl rfl ?_
        refine own_ifY 41 X79 hx hby at_34 (by decide) (by decide) (by decide) ?_
        refine own_iconst 42 (0 : Int32) X79 hx hby at_41 rfl (by decide) ?_
        refine own_callS (W := 1) 45 (rm2_1 l Z a0 hw [] w_TRUE w_FALSE w_UNKNOWN W (0 : Int32) h0 n0 O0 (by decide)) X79 hx hby hZ hown (own_w hw 8 rfl) (own_w hw 9 rfl) (own_w hw 6 rfl) (own_w hw 10 rfl) (by decide) (by rw [hml]; rfl) [(.int (0 : Int32))] [(.ref w_FALSE)] pd_1 rfl at_42 rfl e79 rfl rfl rfl (by decide) (by decide) (by decide) (by decide) ?_
        rintro _ T80 L80 X80 ⟨rfl, N80, e80⟩
        have N80 := Fr.app N79 N80
        show Go p e below _ (T80.setTop (mkF m 45 _ [(.ref w_FALSE), (.ref w_FALSE)]))
        refine own_acmp 48 true X80 hx hby at_45 rfl rfl (by decide) (by decide) (decide_eq_true (congrArg Value.ref rfl)) ?_
        refine own_iconst 49 (1 : Int32) X80 hx hby at_48 rfl (by decide) ?_
        refine own_goto 53 X80 hx hby at_49 (by decide) (by decide) ?_
        refine own_istore 55 #[oI x0, oI x1, oI x2, oA w_TRUE, oA w_FALSE, oI (1 : Int32), oI (1 : Int32), oU, oU] X80 hx hby at_53 rfl rfl ?_
        refine own_aload_n 56 X80 hx hby at_55 rfl rfl rfl ?_
        refine own_virt (W := 0) 59 (rm3_1 l Z a0 hw [] w_TRUE w_FALSE w_UNKNOWN W w_TRUE h0 n0 O0 rfl) X80 hx hby hZ hown (own_w hw 13 rfl) (own_w hw 14 rfl) (notFace_of_selects (args := #[]) (mvT hZ (own_w hw 16 rfl))) (own_w hw 16 rfl) (own_w hw 15 rfl) (own_w hw 6 rfl) (own_w hw 17 rfl) (by decide) (by rw [hml]; rfl) w_TRUE [] [] pd_2 rfl at_56 rfl e80 (W.2.1.ext O0.2) rfl rfl rfl (by decide) (by decide) (by decide) (by decide) ?_
        rintro _ T81 L81 X81 ⟨rfl, N81, e81⟩
        have N81 := Fr.app N80 N81
        show Go p e below _ (T81.setTop (mkF m 59 _ [(.ref w_FALSE)]))
        refine own_virt (W := 0) 62 (rm3_2 l Z a0 hw [] w_TRUE w_FALSE w_UNKNOWN W w_FALSE h0 n0 O0 (Fld.ne W.2.2.2.2.2.2.1 W.2.2.2.2.2.2.2.1 (fun q => absurd (Value.int.inj q) (by decide))) rfl) X81 hx hby hZ hown (own_w hw 13 rfl) (own_w hw 14 rfl) (notFace_of_selects (args := #[]) (mvT hZ (own_w hw 16 rfl))) (own_w hw 16 rfl) (own_w hw 15 rfl) (own_w hw 6 rfl) (own_w hw 17 rfl) (by decide) (by rw [hml]; rfl) w_FALSE [] [] pd_2 rfl at_59 rfl e81 (W.2.2.2.1.ext O0.2) rfl rfl rfl (by decide) (by decide) (by decide) (by decide) ?_
        rintro _ T82 L82 X82 ⟨rfl, N82, e82⟩
        have N82 := Fr.app N81 N82
        show Go p e below _ (T82.setTop (mkF m 62 _ [(.ref w_TRUE)]))
        refine own_aload_n 63 X82 hx hby at_62 rfl rfl rfl ?_
        refine own_acmp 66 true X82 hx hby at_63 rfl rfl (by decide) (by decide) (decide_eq_true (congrArg Value.ref rfl)) ?_
        refine own_iconst 67 (1 : Int32) X82 hx hby at_66 rfl (by decide) ?_
        refine own_goto 71 X82 hx hby at_67 (by decide) (by decide) ?_
        refine own_istore 73 #[oI x0, oI x1, oI x2, oA w_TRUE, oA w_FALSE, oI (1 : Int32), oI (1 : Int32), oI (1 : Int32), oU] X82 hx hby at_71 rfl rfl ?_
        refine own_aload_n 74 X82 hx hby at_73 rfl rfl rfl ?_
        refine own_aload 76 X82 hx hby at_74 rfl rfl rfl ?_
        refine own_virt (W := 0) 79 (rm4_2 l Z a0 hw [] w_TRUE w_FALSE w_UNKNOWN W w_TRUE w_FALSE h0 n0 O0 (Fld.ne W.2.2.2.2.2.2.2.1 W.2.2.2.2.2.2.1 (fun q => absurd (Value.int.inj q) (by decide))) rfl) X82 hx hby hZ hown (own_w hw 19 rfl) (own_w hw 20 rfl) (notFace_of_selects (args := #[]) (mvT hZ (own_w hw 22 rfl))) (own_w hw 22 rfl) (own_w hw 21 rfl) (own_w hw 6 rfl) (own_w hw 23 rfl) (by decide) (by rw [hml]; rfl) w_TRUE [(.ref w_FALSE)] [] pd_3 rfl at_76 rfl e82 (W.2.1.ext O0.2) rfl rfl rfl (by decide) (by decide) (by decide) (by decide) ?_
        rintro _ T83 L83 X83 ⟨rfl, N83, e83⟩
        have N83 := Fr.app N82 N83
        show Go p e below _ (T83.setTop (mkF m 79 _ [(.ref w_FALSE)]))
        refine own_virt (W := 0) 82 (rm3_2 l Z a0 hw [] w_TRUE w_FALSE w_UNKNOWN W w_FALSE h0 n0 O0 (Fld.ne W.2.2.2.2.2.2.1 W.2.2.2.2.2.2.2.1 (fun q => absurd (Value.int.inj q) (by decide))) rfl) X83 hx hby hZ hown (own_w hw 13 rfl) (own_w hw 14 rfl) (notFace_of_selects (args := #[]) (mvT hZ (own_w hw 16 rfl))) (own_w hw 16 rfl) (own_w hw 15 rfl) (own_w hw 6 rfl) (own_w hw 17 rfl) (by decide) (by rw [hml]; rfl) w_FALSE [] [] pd_2 rfl at_79 rfl e83 (W.2.2.2.1.ext O0.2) rfl rfl rfl (by decide) (by decide) (by decide) (by decide) ?_
        rintro _ T84 L84 X84 ⟨rfl, N84, e84⟩
        have N84 := Fr.app N83 N84
        show Go p e below _ (T84.setTop (mkF m 82 _ [(.ref w_TRUE)]))
        refine own_aload_n 83 X84 hx hby at_82 rfl rfl rfl ?_
        refine own_virt (W := 1) 86 (rm3_1 l Z a0 hw [] w_TRUE w_FALSE w_UNKNOWN W w_TRUE h0 n0 O0 rfl) X84 hx hby hZ hown (own_w hw 13 rfl) (own_w hw 14 rfl) (notFace_of_selects (args := #[]) (mvT hZ (own_w hw 16 rfl))) (own_w hw 16 rfl) (own_w hw 15 rfl) (own_w hw 6 rfl) (own_w hw 17 rfl) (by decide) (by rw [hml]; rfl) w_TRUE [] [(.ref w_TRUE)] pd_2 rfl at_83 rfl e84 (W.2.1.ext O0.2) rfl rfl rfl (by decide) (by decide) (by decide) (by decide) ?_
        rintro _ T85 L85 X85 ⟨rfl, N85, e85⟩
        have N85 := Fr.app N84 N85
        show Go p e below _ (T85.setTop (mkF m 86 _ [(.ref w_FALSE), (.ref w_TRUE)]))
        refine own_aload 88 X85 hx hby at_86 rfl rfl rfl ?_
        refine own_virt (W := 2) 91 (rm3_2 l Z a0 hw [] w_TRUE w_FALSE w_UNKNOWN W w_FALSE h0 n0 O0 (Fld.ne W.2.2.2.2.2.2.1 W.2.2.2.2.2.2.2.1 (fun q => absurd (Value.int.inj q) (by decide))) rfl) X85 hx hby hZ hown (own_w hw 13 rfl) (own_w hw 14 rfl) (notFace_of_selects (args := #[]) (mvT hZ (own_w hw 16 rfl))) (own_w hw 16 rfl) (own_w hw 15 rfl) (own_w hw 6 rfl) (own_w hw 17 rfl) (by decide) (by rw [hml]; rfl) w_FALSE [] [(.ref w_FALSE), (.ref w_TRUE)] pd_2 rfl at_88 rfl e85 (W.2.2.2.1.ext O0.2) rfl rfl rfl (by decide) (by decide) (by decide) (by decide) ?_
        rintro _ T86 L86 X86 ⟨rfl, N86, e86⟩
        have N86 := Fr.app N85 N86
        show Go p e below _ (T86.setTop (mkF m 91 _ [(.ref w_TRUE), (.ref w_FALSE), (.ref w_TRUE)]))
        refine own_virt (W := 1) 94 (rm5_2 l Z a0 hw [] w_TRUE w_FALSE w_UNKNOWN W w_FALSE w_TRUE h0 n0 O0 (Fld.ne W.2.2.2.2.2.2.1 W.2.2.2.2.2.2.2.1 (fun q => absurd (Value.int.inj q) (by decide))) rfl) X86 hx hby hZ hown (own_w hw 24 rfl) (own_w hw 25 rfl) (notFace_of_selects (args := #[]) (mvT hZ (own_w hw 27 rfl))) (own_w hw 27 rfl) (own_w hw 26 rfl) (own_w hw 6 rfl) (own_w hw 28 rfl) (by decide) (by rw [hml]; rfl) w_FALSE [(.ref w_TRUE)] [(.ref w_TRUE)] pd_3 rfl at_91 rfl e86 (W.2.2.2.1.ext O0.2) rfl rfl rfl (by decide) (by decide) (by decide) (by decide) ?_
        rintro _ T87 L87 X87 ⟨rfl, N87, e87⟩
        have N87 := Fr.app N86 N87
        show Go p e below _ (T87.setTop (mkF m 94 _ [(.ref w_TRUE), (.ref w_TRUE)]))
        refine own_acmp 97 true X87 hx hby at_94 rfl rfl (by decide) (by decide) (decide_eq_true (congrArg Value.ref rfl)) ?_
        refine own_iconst 98 (1 : Int32) X87 hx hby at_97 rfl (by decide) ?_
        refine own_goto 102 X87 hx hby at_98 (by decide) (by decide) ?_
        refine own_istore 104 #[oI x0, oI x1, oI x2, oA w_TRUE, oA w_FALSE, oI (1 : Int32), oI (1 : Int32), oI (1 : Int32), oI (1 : Int32)] X87 hx hby at_102 rfl rfl ?_
        refine own_iload 106 X87 hx hby at_104 rfl rfl ?_
        refine own_ifN 109 X87 hx hby at_106 rfl (by decide) ?_
        refine own_iload 111 X87 hx hby at_109 rfl rfl ?_
        refine own_ifN 114 X87 hx hby at_111 rfl (by decide) ?_
        refine own_iload 116 X87 hx hby at_114 rfl rfl ?_
        refine own_ifN 119 X87 hx hby at_116 rfl (by decide) ?_
        refine own_iconst 120 (1 : Int32) X87 hx hby at_119 rfl (by decide) ?_
        refine own_goto 124 X87 hx hby at_120 (by decide) (by decide) ?_
        exact own_ret (Q := own_Q1 n0) X87 hx hby hret hlk at_124 rfl (Or.inl ⟨rfl, by simp, _, rfl⟩) (by decide) (by decide) ⟨rfl, N87⟩
    · refine own_callS (W := 0) 9 (rm1_3 l Z a0 hw [] w_TRUE w_FALSE w_UNKNOWN W x1 h0 n0 O0 hv7) X6 hx hby hZ hown (own_w hw 0 rfl) (own_w hw 1 rfl) (own_w hw 2 rfl) (own_w hw 3 rfl) (by decide) (by rw [hml]; rfl) [(.int x1)] [] pd_0 rfl at_6 rfl e6 rfl rfl rfl (by decide) (by decide) (by decide) (by decide) ?_
      rintro _ T88 L88 X88 ⟨rfl, N88, e88⟩
      have N88 := Fr.app N6 N88
      show Go p e below _ (T88.setTop (mkF m 9 _ [(.ref w_UNKNOWN)]))
      refine own_astore 11 #[oI x0, oI x1, oI x2, oA w_TRUE, oA w_UNKNOWN, oU, oU, oU, oU] X88 hx hby at_9 rfl rfl rfl ?_
      refine own_iload_n 12 X88 hx hby at_11 rfl rfl ?_
      refine own_iconst 13 (1 : Int32) X88 hx hby at_12 rfl (by decide) ?_
      rcases own_and1 x2 with hv89 | hv89
      · refine own_iand 14 (0 : Int32) X88 hx hby at_13 rfl hv89 ?_
        refine own_ifY 21 X88 hx hby at_14 (by decide) (by decide) (by decide) ?_
        refine own_iconst 22 (0 : Int32) X88 hx hby at_21 rfl (by decide) ?_
        refine own_istore 24 #[oI x0, oI x1, oI x2, oA w_TRUE, oA w_UNKNOWN, oI (0 : Int32), oU, oU, oU] X88 hx hby at_22 rfl rfl ?_
        refine own_iload 26 X88 hx hby at_24 rfl rfl ?_
        refine own_callS (W := 0) 29 (rm2_1 l Z a0 hw [] w_TRUE w_FALSE w_UNKNOWN W (0 : Int32) h0 n0 O0 (by decide)) X88 hx hby hZ hown (own_w hw 8 rfl) (own_w hw 9 rfl) (own_w hw 6 rfl) (own_w hw 10 rfl) (by decide) (by rw [hml]; rfl) [(.int (0 : Int32))] [] pd_1 rfl at_26 rfl e88 rfl rfl rfl (by decide) (by decide) (by decide) (by decide) ?_
        rintro _ T90 L90 X90 ⟨rfl, N90, e90⟩
        have N90 := Fr.app N88 N90
        show Go p e below _ (T90.setTop (mkF m 29 _ [(.ref w_FALSE)]))
        refine own_virt (W := 0) 32 (rm3_2 l Z a0 hw [] w_TRUE w_FALSE w_UNKNOWN W w_FALSE h0 n0 O0 (Fld.ne W.2.2.2.2.2.2.1 W.2.2.2.2.2.2.2.1 (fun q => absurd (Value.int.inj q) (by decide))) rfl) X90 hx hby hZ hown (own_w hw 13 rfl) (own_w hw 14 rfl) (notFace_of_selects (args := #[]) (mvT hZ (own_w hw 16 rfl))) (own_w hw 16 rfl) (own_w hw 15 rfl) (own_w hw 6 rfl) (own_w hw 17 rfl) (by decide) (by rw [hml]; rfl) w_FALSE [] [] pd_2 rfl at_29 rfl e90 (W.2.2.2.1.ext O0.2) rfl rfl rfl (by decide) (by decide) (by decide) (by decide) ?_
        rintro _ T91 L91 X91 ⟨rfl, N91, e91⟩
        have N91 := Fr.app N90 N91
        show Go p e below _ (T91.setTop (mkF m 32 _ [(.ref w_TRUE)]))
        refine own_iload 34 X91 hx hby at_32 rfl rfl ?_
        refine own_ifN 37 X91 hx hby at_34 rfl (by decide) ?_
        refine own_iconst 38 (1 : Int32) X91 hx hby at_37 rfl (by decide) ?_
        refine own_goto 42 X91 hx hby at_38 (by decide) (by decide) ?_
        refine own_callS (W := 1) 45 (rm2_2 l Z a0 hw [] w_TRUE w_FALSE w_UNKNOWN W (1 : Int32) h0 n0 O0 (by decide)) X91 hx hby hZ hown (own_w hw 8 rfl) (own_w hw 9 rfl) (own_w hw 6 rfl) (own_w hw 10 rfl) (by decide) (by rw [hml]; rfl) [(.int (1 : Int32))] [(.ref w_TRUE)] pd_1 rfl at_42 rfl e91 rfl rfl rfl (by decide) (by decide) (by decide) (by decide) ?_
        rintro _ T92 L92 X92 ⟨rfl, N92, e92⟩
        have N92 := Fr.app N91 N92
        show Go p e below _ (T92.setTop (mkF m 45 _ [(.ref w_TRUE), (.ref w_TRUE)]))
        refine own_acmp 48 true X92 hx hby at_45 rfl rfl (by decide) (by decide) (decide_eq_true (congrArg Value.ref rfl)) ?_
        refine own_iconst 49 (1 : Int32) X92 hx hby at_48 rfl (by decide) ?_
        refine own_goto 53 X92 hx hby at_49 (by decide) (by decide) ?_
        refine own_istore 55 #[oI x0, oI x1, oI x2, oA w_TRUE, oA w_UNKNOWN, oI (0 : Int32), oI (1 : Int32), oU, oU] X92 hx hby at_53 rfl rfl ?_
        refine own_aload_n 56 X92 hx hby at_55 rfl rfl rfl ?_
        refine own_virt (W := 0) 59 (rm3_1 l Z a0 hw [] w_TRUE w_FALSE w_UNKNOWN W w_TRUE h0 n0 O0 rfl) X92 hx hby hZ hown (own_w hw 13 rfl) (own_w hw 14 rfl) (notFace_of_selects (args := #[]) (mvT hZ (own_w hw 16 rfl))) (own_w hw 16 rfl) (own_w hw 15 rfl) (own_w hw 6 rfl) (own_w hw 17 rfl) (by decide) (by rw [hml]; rfl) w_TRUE [] [] pd_2 rfl at_56 rfl e92 (W.2.1.ext O0.2) rfl rfl rfl (by decide) (by decide) (by decide) (by decide) ?_
        rintro _ T93 L93 X93 ⟨rfl, N93, e93⟩
        have N93 := Fr.app N92 N93
        show Go p e below _ (T93.setTop (mkF m 59 _ [(.ref w_FALSE)]))
        refine own_virt (W := 0) 62 (rm3_2 l Z a0 hw [] w_TRUE w_FALSE w_UNKNOWN W w_FALSE h0 n0 O0 (Fld.ne W.2.2.2.2.2.2.1 W.2.2.2.2.2.2.2.1 (fun q => absurd (Value.int.inj q) (by decide))) rfl) X93 hx hby hZ hown (own_w hw 13 rfl) (own_w hw 14 rfl) (notFace_of_selects (args := #[]) (mvT hZ (own_w hw 16 rfl))) (own_w hw 16 rfl) (own_w hw 15 rfl) (own_w hw 6 rfl) (own_w hw 17 rfl) (by decide) (by rw [hml]; rfl) w_FALSE [] [] pd_2 rfl at_59 rfl e93 (W.2.2.2.1.ext O0.2) rfl rfl rfl (by decide) (by decide) (by decide) (by decide) ?_
        rintro _ T94 L94 X94 ⟨rfl, N94, e94⟩
        have N94 := Fr.app N93 N94
        show Go p e below _ (T94.setTop (mkF m 62 _ [(.ref w_TRUE)]))
        refine own_aload_n 63 X94 hx hby at_62 rfl rfl rfl ?_
        refine own_acmp 66 true X94 hx hby at_63 rfl rfl (by decide) (by decide) (decide_eq_true (congrArg Value.ref rfl)) ?_
        refine own_iconst 67 (1 : Int32) X94 hx hby at_66 rfl (by decide) ?_
        refine own_goto 71 X94 hx hby at_67 (by decide) (by decide) ?_
        refine own_istore 73 #[oI x0, oI x1, oI x2, oA w_TRUE, oA w_UNKNOWN, oI (0 : Int32), oI (1 : Int32), oI (1 : Int32), oU] X94 hx hby at_71 rfl rfl ?_
        refine own_aload_n 74 X94 hx hby at_73 rfl rfl rfl ?_
        refine own_aload 76 X94 hx hby at_74 rfl rfl rfl ?_
        refine own_virt (W := 0) 79 (rm4_4 l Z a0 hw [] w_TRUE w_FALSE w_UNKNOWN W w_TRUE w_UNKNOWN h0 n0 O0 (Fld.ne W.2.2.2.2.2.2.2.1 W.2.2.2.2.2.2.1 (fun q => absurd (Value.int.inj q) (by decide))) (Fld.ne W.2.2.2.2.2.2.2.2 W.2.2.2.2.2.2.1 (fun q => absurd (Value.int.inj q) (by decide))) rfl (Fld.ne W.2.2.2.2.2.2.2.2 W.2.2.2.2.2.2.2.1 (fun q => absurd (Value.int.inj q) (by decide)))) X94 hx hby hZ hown (own_w hw 19 rfl) (own_w hw 20 rfl) (notFace_of_selects (args := #[]) (mvT hZ (own_w hw 22 rfl))) (own_w hw 22 rfl) (own_w hw 21 rfl) (own_w hw 6 rfl) (own_w hw 23 rfl) (by decide) (by rw [hml]; rfl) w_TRUE [(.ref w_UNKNOWN)] [] pd_3 rfl at_76 rfl e94 (W.2.1.ext O0.2) rfl rfl rfl (by decide) (by decide) (by decide) (by decide) ?_
        rintro _ T95 L95 X95 ⟨rfl, N95, e95⟩
        have N95 := Fr.app N94 N95
        show Go p e below _ (T95.setTop (mkF m 79 _ [(.ref w_UNKNOWN)]))
        refine own_virt (W := 0) 82 (rm3_3 l Z a0 hw [] w_TRUE w_FALSE w_UNKNOWN W w_UNKNOWN h0 n0 O0 (Fld.ne W.2.2.2.2.2.2.2.2 W.2.2.2.2.2.2.2.1 (fun q => absurd (Value.int.inj q) (by decide))) (Fld.ne W.2.2.2.2.2.2.2.2 W.2.2.2.2.2.2.1 (fun q => absurd (Value.int.inj q) (by decide)))) X95 hx hby hZ hown (own_w hw 13 rfl) (own_w hw 14 rfl) (notFace_of_selects (args := #[]) (mvT hZ (own_w hw 16 rfl))) (own_w hw 16 rfl) (own_w hw 15 rfl) (own_w hw 6 rfl) (own_w hw 17 rfl) (by decide) (by rw [hml]; rfl) w_UNKNOWN [] [] pd_2 rfl at_79 rfl e95 (W.2.2.2.2.2.1.ext O0.2) rfl rfl rfl (by decide) (by decide) (by decide) (by decide) ?_
        rintro _ T96 L96 X96 ⟨rfl, N96, e96⟩
        have N96 := Fr.app N95 N96
        show Go p e below _ (T96.setTop (mkF m 82 _ [(.ref w_UNKNOWN)]))
        refine own_aload_n 83 X96 hx hby at_82 rfl rfl rfl ?_
        refine own_virt (W := 1) 86 (rm3_1 l Z a0 hw [] w_TRUE w_FALSE w_UNKNOWN W w_TRUE h0 n0 O0 rfl) X96 hx hby hZ hown (own_w hw 13 rfl) (own_w hw 14 rfl) (notFace_of_selects (args := #[]) (mvT hZ (own_w hw 16 rfl))) (own_w hw 16 rfl) (own_w hw 15 rfl) (own_w hw 6 rfl) (own_w hw 17 rfl) (by decide) (by rw [hml]; rfl) w_TRUE [] [(.ref w_UNKNOWN)] pd_2 rfl at_83 rfl e96 (W.2.1.ext O0.2) rfl rfl rfl (by decide) (by decide) (by decide) (by decide) ?_
        rintro _ T97 L97 X97 ⟨rfl, N97, e97⟩
        have N97 := Fr.app N96 N97
        show Go p e below _ (T97.setTop (mkF m 86 _ [(.ref w_FALSE), (.ref w_UNKNOWN)]))
        refine own_aload 88 X97 hx hby at_86 rfl rfl rfl ?_
        refine own_virt (W := 2) 91 (rm3_3 l Z a0 hw [] w_TRUE w_FALSE w_UNKNOWN W w_UNKNOWN h0 n0 O0 (Fld.ne W.2.2.2.2.2.2.2.2 W.2.2.2.2.2.2.2.1 (fun q => absurd (Value.int.inj q) (by decide))) (Fld.ne W.2.2.2.2.2.2.2.2 W.2.2.2.2.2.2.1 (fun q => absurd (Value.int.inj q) (by decide)))) X97 hx hby hZ hown (own_w hw 13 rfl) (own_w hw 14 rfl) (notFace_of_selects (args := #[]) (mvT hZ (own_w hw 16 rfl))) (own_w hw 16 rfl) (own_w hw 15 rfl) (own_w hw 6 rfl) (own_w hw 17 rfl) (by decide) (by rw [hml]; rfl) w_UNKNOWN [] [(.ref w_FALSE), (.ref w_UNKNOWN)] pd_2 rfl at_88 rfl e97 (W.2.2.2.2.2.1.ext O0.2) rfl rfl rfl (by decide) (by decide) (by decide) (by decide) ?_
        rintro _ T98 L98 X98 ⟨rfl, N98, e98⟩
        have N98 := Fr.app N97 N98
        show Go p e below _ (T98.setTop (mkF m 91 _ [(.ref w_UNKNOWN), (.ref w_FALSE), (.ref w_UNKNOWN)]))
        refine own_virt (W := 1) 94 (rm5_4 l Z a0 hw [] w_TRUE w_FALSE w_UNKNOWN W w_FALSE w_UNKNOWN h0 n0 O0 (Fld.ne W.2.2.2.2.2.2.1 W.2.2.2.2.2.2.2.1 (fun q => absurd (Value.int.inj q) (by decide))) (Fld.ne W.2.2.2.2.2.2.2.2 W.2.2.2.2.2.2.2.1 (fun q => absurd (Value.int.inj q) (by decide))) rfl (Fld.ne W.2.2.2.2.2.2.2.2 W.2.2.2.2.2.2.1 (fun q => absurd (Value.int.inj q) (by decide)))) X98 hx hby hZ hown (own_w hw 24 rfl) (own_w hw 25 rfl) (notFace_of_selects (args := #[]) (mvT hZ (own_w hw 27 rfl))) (own_w hw 27 rfl) (own_w hw 26 rfl) (own_w hw 6 rfl) (own_w hw 28 rfl) (by decide) (by rw [hml]; rfl) w_FALSE [(.ref w_UNKNOWN)] [(.ref w_UNKNOWN)] pd_3 rfl at_91 rfl e98 (W.2.2.2.1.ext O0.2) rfl rfl rfl (by decide) (by decide) (by decide) (by decide) ?_
        rintro _ T99 L99 X99 ⟨rfl, N99, e99⟩
        have N99 := Fr.app N98 N99
        show Go p e below _ (T99.setTop (mkF m 94 _ [(.ref w_UNKNOWN), (.ref w_UNKNOWN)]))
        refine own_acmp 97 true X99 hx hby at_94 rfl rfl (by decide) (by decide) (decide_eq_true (congrArg Value.ref rfl)) ?_
        refine own_iconst 98 (1 : Int32) X99 hx hby at_97 rfl (by decide) ?_
        refine own_goto 102 X99 hx hby at_98 (by decide) (by decide) ?_
        refine own_istore 104 #[oI x0, oI x1, oI x2, oA w_TRUE, oA w_UNKNOWN, oI (0 : Int32), oI (1 : Int32), oI (1 : Int32), oI (1 : Int32)] X99 hx hby at_102 rfl rfl ?_
        refine own_iload 106 X99 hx hby at_104 rfl rfl ?_
        refine own_ifN 109 X99 hx hby at_106 rfl (by decide) ?_
        refine own_iload 111 X99 hx hby at_109 rfl rfl ?_
        refine own_ifN 114 X99 hx hby at_111 rfl (by decide) ?_
        refine own_iload 116 X99 hx hby at_114 rfl rfl ?_
        refine own_ifN 119 X99 hx hby at_116 rfl (by decide) ?_
        refine own_iconst 120 (1 : Int32) X99 hx hby at_119 rfl (by decide) ?_
        refine own_goto 124 X99 hx hby at_120 (by decide) (by decide) ?_
        exact own_ret (Q := own_Q1 n0) X99 hx hby hret hlk at_124 rfl (Or.inl ⟨rfl, by simp, _, rfl⟩) (by decide) (by decide) ⟨rfl, N99⟩
      · refine own_iand 14 (1 : Int32) X88 hx hby at_13 rfl hv89 ?_
        refine own_ifN 17 X88 hx hby at_14 rfl (by decide) ?_
        refine own_iconst 18 (1 : Int32) X88 hx hby at_17 rfl (by decide) ?_
        refine own_goto 22 X88 hx hby at_18 (by decide) (by decide) ?_
        refine own_istore 24 #[oI x0, oI x1, oI x2, oA w_TRUE, oA w_UNKNOWN, oI (1 : Int32), oU, oU, oU] X88 hx hby at_22 rfl rfl ?_
        refine own_iload 26 X88 hx hby at_24 rfl rfl ?_
        refine own_callS (W := 0) 29 (rm2_2 l Z a0 hw [] w_TRUE w_FALSE w_UNKNOWN W (1 : Int32) h0 n0 O0 (by decide)) X88 hx hby hZ hown (own_w hw 8 rfl) (own_w hw 9 rfl) (own_w hw 6 rfl) (own_w hw 10 rfl) (by decide) (by rw [hml]; rfl) [(.int (1 : Int32))] [] pd_1 rfl at_26 rfl e88 rfl rfl rfl (by decide) (by decide) (by decide) (by decide) ?_
        rintro _ T100 L100 X100 ⟨rfl, N100, e100⟩
        have N100 := Fr.app N88 N100
        show Go p e below _ (T100.setTop (mkF m 29 _ [(.ref w_TRUE)]))
        refine own_virt (W := 0) 32 (rm3_1 l Z a0 hw [] w_TRUE w_FALSE w_UNKNOWN W w_TRUE h0 n0 O0 rfl) X100 hx hby hZ hown (own_w hw 13 rfl) (own_w hw 14 rfl) (notFace_of_selects (args := #[]) (mvT hZ (own_w hw 16 rfl))) (own_w hw 16 rfl) (own_w hw 15 rfl) (own_w hw 6 rfl) (own_w hw 17 rfl) (by decide) (by rw [hml]; rfl) w_TRUE [] [] pd_2 rfl at_29 rfl e100 (W.2.1.ext O0.2) rfl rfl rfl (by decide) (by decide) (by decide) (by decide) ?_
        rintro _ T101 L101 X101 ⟨rfl, N101, e101⟩
        have N101 := Fr.app N100 N101
        show Go p e below _ (T101.setTop (mkF m 32 _ [(.ref w_FALSE)]))
        refine own_iload 34 X101 hx hby at_32 rfl rfl ?_
        refine own_ifY 41 X101 hx hby at_34 (by decide) (by decide) (by decide) ?_
        refine own_iconst 42 (0 : Int32) X101 hx hby at_41 rfl (by decide) ?_
        refine own_callS (W := 1) 45 (rm2_1 l Z a0 hw [] w_TRUE w_FALSE w_UNKNOWN W (0 : Int32) h0 n0 O0 (by decide)) X101 hx hby hZ hown (own_w hw 8 rfl) (own_w hw 9 rfl) (own_w hw 6 rfl) (own_w hw 10 rfl) (by decide) (by rw [hml]; rfl) [(.int (0 : Int32))] [(.ref w_FALSE)] pd_1 rfl at_42 rfl e101 rfl rfl rfl (by decide) (by decide) (by decide) (by decide) ?_
        rintro _ T102 L102 X102 ⟨rfl, N102, e102⟩
        have N102 := Fr.app N101 N102
        show Go p e below _ (T102.setTop (mkF m 45 _ [(.ref w_FALSE), (.ref w_FALSE)]))
        refine own_acmp 48 true X102 hx hby at_45 rfl rfl (by decide) (by decide) (decide_eq_true (congrArg Value.ref rfl)) ?_
        refine own_iconst 49 (1 : Int32) X102 hx hby at_48 rfl (by decide) ?_
        refine own_goto 53 X102 hx hby at_49 (by decide) (by decide) ?_
        refine own_istore 55 #[oI x0, oI x1, oI x2, oA w_TRUE, oA w_UNKNOWN, oI (1 : Int32), oI (1 : Int32), oU, oU] X102 hx hby at_53 rfl rfl ?_
        refine own_aload_n 56 X102 hx hby at_55 rfl rfl rfl ?_
        refine own_virt (W := 0) 59 (rm3_1 l Z a0 hw [] w_TRUE w_FALSE w_UNKNOWN W w_TRUE h0 n0 O0 rfl) X102 hx hby hZ hown (own_w hw 13 rfl) (own_w hw 14 rfl) (notFace_of_selects (args := #[]) (mvT hZ (own_w hw 16 rfl))) (own_w hw 16 rfl) (own_w hw 15 rfl) (own_w hw 6 rfl) (own_w hw 17 rfl) (by decide) (by rw [hml]; rfl) w_TRUE [] [] pd_2 rfl at_56 rfl e102 (W.2.1.ext O0.2) rfl rfl rfl (by decide) (by decide) (by decide) (by decide) ?_
        rintro _ T103 L103 X103 ⟨rfl, N103, e103⟩
        have N103 := Fr.app N102 N103
        show Go p e below _ (T103.setTop (mkF m 59 _ [(.ref w_FALSE)]))
        refine own_virt (W := 0) 62 (rm3_2 l Z a0 hw [] w_TRUE w_FALSE w_UNKNOWN W w_FALSE h0 n0 O0 (Fld.ne W.2.2.2.2.2.2.1 W.2.2.2.2.2.2.2.1 (fun q => absurd (Value.int.inj q) (by decide))) rfl) X103 hx hby hZ hown (own_w hw 13 rfl) (own_w hw 14 rfl) (notFace_of_selects (args := #[]) (mvT hZ (own_w hw 16 rfl))) (own_w hw 16 rfl) (own_w hw 15 rfl) (own_w hw 6 rfl) (own_w hw 17 rfl) (by decide) (by rw [hml]; rfl) w_FALSE [] [] pd_2 rfl at_59 rfl e103 (W.2.2.2.1.ext O0.2) rfl rfl rfl (by decide) (by decide) (by decide) (by decide) ?_
        rintro _ T104 L104 X104 ⟨rfl, N104, e104⟩
        have N104 := Fr.app N103 N104
        show Go p e below _ (T104.setTop (mkF m 62 _ [(.ref w_TRUE)]))
        refine own_aload_n 63 X104 hx hby at_62 rfl rfl rfl ?_
        refine own_acmp 66 true X104 hx hby at_63 rfl rfl (by decide) (by decide) (decide_eq_true (congrArg Value.ref rfl)) ?_
        refine own_iconst 67 (1 : Int32) X104 hx hby at_66 rfl (by decide) ?_
        refine own_goto 71 X104 hx hby at_67 (by decide) (by decide) ?_
        refine own_istore 73 #[oI x0, oI x1, oI x2, oA w_TRUE, oA w_UNKNOWN, oI (1 : Int32), oI (1 : Int32), oI (1 : Int32), oU] X104 hx hby at_71 rfl rfl ?_
        refine own_aload_n 74 X104 hx hby at_73 rfl rfl rfl ?_
        refine own_aload 76 X104 hx hby at_74 rfl rfl rfl ?_
        refine own_virt (W := 0) 79 (rm4_4 l Z a0 hw [] w_TRUE w_FALSE w_UNKNOWN W w_TRUE w_UNKNOWN h0 n0 O0 (Fld.ne W.2.2.2.2.2.2.2.1 W.2.2.2.2.2.2.1 (fun q => absurd (Value.int.inj q) (by decide))) (Fld.ne W.2.2.2.2.2.2.2.2 W.2.2.2.2.2.2.1 (fun q => absurd (Value.int.inj q) (by decide))) rfl (Fld.ne W.2.2.2.2.2.2.2.2 W.2.2.2.2.2.2.2.1 (fun q => absurd (Value.int.inj q) (by decide)))) X104 hx hby hZ hown (own_w hw 19 rfl) (own_w hw 20 rfl) (notFace_of_selects (args := #[]) (mvT hZ (own_w hw 22 rfl))) (own_w hw 22 rfl) (own_w hw 21 rfl) (own_w hw 6 rfl) (own_w hw 23 rfl) (by decide) (by rw [hml]; rfl) w_TRUE [(.ref w_UNKNOWN)] [] pd_3 rfl at_76 rfl e104 (W.2.1.ext O0.2) rfl rfl rfl (by decide) (by decide) (by decide) (by decide) ?_
        rintro _ T105 L105 X105 ⟨rfl, N105, e105⟩
        have N105 := Fr.app N104 N105
        show Go p e below _ (T105.setTop (mkF m 79 _ [(.ref w_UNKNOWN)]))
        refine own_virt (W := 0) 82 (rm3_3 l Z a0 hw [] w_TRUE w_FALSE w_UNKNOWN W w_UNKNOWN h0 n0 O0 (Fld.ne W.2.2.2.2.2.2.2.2 W.2.2.2.2.2.2.2.1 (fun q => absurd (Value.int.inj q) (by decide))) (Fld.ne W.2.2.2.2.2.2.2.2 W.2.2.2.2.2.2.1 (fun q => absurd (Value.int.inj q) (by decide)))) X105 hx hby hZ hown (own_w hw 13 rfl) (own_w hw 14 rfl) (notFace_of_selects (args := #[]) (mvT hZ (own_w hw 16 rfl))) (own_w hw 16 rfl) (own_w hw 15 rfl) (own_w hw 6 rfl) (own_w hw 17 rfl) (by decide) (by rw [hml]; rfl) w_UNKNOWN [] [] pd_2 rfl at_79 rfl e105 (W.2.2.2.2.2.1.ext O0.2) rfl rfl rfl (by decide) (by decide) (by decide) (by decide) ?_
        rintro _ T106 L106 X106 ⟨rfl, N106, e106⟩
        have N106 := Fr.app N105 N106
        show Go p e below _ (T106.setTop (mkF m 82 _ [(.ref w_UNKNOWN)]))
        refine own_aload_n 83 X106 hx hby at_82 rfl rfl rfl ?_
        refine own_virt (W := 1) 86 (rm3_1 l Z a0 hw [] w_TRUE w_FALSE w_UNKNOWN W w_TRUE h0 n0 O0 rfl) X106 hx hby hZ hown (own_w hw 13 rfl) (own_w hw 14 rfl) (notFace_of_selects (args := #[]) (mvT hZ (own_w hw 16 rfl))) (own_w hw 16 rfl) (own_w hw 15 rfl) (own_w hw 6 rfl) (own_w hw 17 rfl) (by decide) (by rw [hml]; rfl) w_TRUE [] [(.ref w_UNKNOWN)] pd_2 rfl at_83 rfl e106 (W.2.1.ext O0.2) rfl rfl rfl (by decide) (by decide) (by decide) (by decide) ?_
        rintro _ T107 L107 X107 ⟨rfl, N107, e107⟩
        have N107 := Fr.app N106 N107
        show Go p e below _ (T107.setTop (mkF m 86 _ [(.ref w_FALSE), (.ref w_UNKNOWN)]))
        refine own_aload 88 X107 hx hby at_86 rfl rfl rfl ?_
        refine own_virt (W := 2) 91 (rm3_3 l Z a0 hw [] w_TRUE w_FALSE w_UNKNOWN W w_UNKNOWN h0 n0 O0 (Fld.ne W.2.2.2.2.2.2.2.2 W.2.2.2.2.2.2.2.1 (fun q => absurd (Value.int.inj q) (by decide))) (Fld.ne W.2.2.2.2.2.2.2.2 W.2.2.2.2.2.2.1 (fun q => absurd (Value.int.inj q) (by decide)))) X107 hx hby hZ hown (own_w hw 13 rfl) (own_w hw 14 rfl) (notFace_of_selects (args := #[]) (mvT hZ (own_w hw 16 rfl))) (own_w hw 16 rfl) (own_w hw 15 rfl) (own_w hw 6 rfl) (own_w hw 17 rfl) (by decide) (by rw [hml]; rfl) w_UNKNOWN [] [(.ref w_FALSE), (.ref w_UNKNOWN)] pd_2 rfl at_88 rfl e107 (W.2.2.2.2.2.1.ext O0.2) rfl rfl rfl (by decide) (by decide) (by decide) (by decide) ?_
        rintro _ T108 L108 X108 ⟨rfl, N108, e108⟩
        have N108 := Fr.app N107 N108
        show Go p e below _ (T108.setTop (mkF m 91 _ [(.ref w_UNKNOWN), (.ref w_FALSE), (.ref w_UNKNOWN)]))
        refine own_virt (W := 1) 94 (rm5_4 l Z a0 hw [] w_TRUE w_FALSE w_UNKNOWN W w_FALSE w_UNKNOWN h0 n0 O0 (Fld.ne W.2.2.2.2.2.2.1 W.2.2.2.2.2.2.2.1 (fun q => absurd (Value.int.inj q) (by decide))) (Fld.ne W.2.2.2.2.2.2.2.2 W.2.2.2.2.2.2.2.1 (fun q => absurd (Value.int.inj q) (by decide))) rfl (Fld.ne W.2.2.2.2.2.2.2.2 W.2.2.2.2.2.2.1 (fun q => absurd (Value.int.inj q) (by decide)))) X108 hx hby hZ hown (own_w hw 24 rfl) (own_w hw 25 rfl) (notFace_of_selects (args := #[]) (mvT hZ (own_w hw 27 rfl))) (own_w hw 27 rfl) (own_w hw 26 rfl) (own_w hw 6 rfl) (own_w hw 28 rfl) (by decide) (by rw [hml]; rfl) w_FALSE [(.ref w_UNKNOWN)] [(.ref w_UNKNOWN)] pd_3 rfl at_91 rfl e108 (W.2.2.2.1.ext O0.2) rfl rfl rfl (by decide) (by decide) (by decide) (by decide) ?_
        rintro _ T109 L109 X109 ⟨rfl, N109, e109⟩
        have N109 := Fr.app N108 N109
        show Go p e below _ (T109.setTop (mkF m 94 _ [(.ref w_UNKNOWN), (.ref w_UNKNOWN)]))
        refine own_acmp 97 true X109 hx hby at_94 rfl rfl (by decide) (by decide) (decide_eq_true (congrArg Value.ref rfl)) ?_
        refine own_iconst 98 (1 : Int32) X109 hx hby at_97 rfl (by decide) ?_
        refine own_goto 102 X109 hx hby at_98 (by decide) (by decide) ?_
        refine own_istore 104 #[oI x0, oI x1, oI x2, oA w_TRUE, oA w_UNKNOWN, oI (1 : Int32), oI (1 : Int32), oI (1 : Int32), oI (1 : Int32)] X109 hx hby at_102 rfl rfl ?_
        refine own_iload 106 X109 hx hby at_104 rfl rfl ?_
        refine own_ifN 109 X109 hx hby at_106 rfl (by decide) ?_
        refine own_iload 111 X109 hx hby at_109 rfl rfl ?_
        refine own_ifN 114 X109 hx hby at_111 rfl (by decide) ?_
        refine own_iload 116 X109 hx hby at_114 rfl rfl ?_
        refine own_ifN 119 X109 hx hby at_116 rfl (by decide) ?_
        refine own_iconst 120 (1 : Int32) X109 hx hby at_119 rfl (by decide) ?_
        refine own_goto 124 X109 hx hby at_120 (by decide) (by decide) ?_
        exact own_ret (Q := own_Q1 n0) X109 hx hby hret hlk at_124 rfl (Or.inl ⟨rfl, by simp, _, rfl⟩) (by decide) (by decide) ⟨rfl, N109⟩
  · refine own_callS (W := 0) 4 (rm1_2 l Z a0 hw [] w_TRUE w_FALSE w_UNKNOWN W x0 h0 n0 O0 hv5) X0 hx hby hZ hown (own_w hw 0 rfl) (own_w hw 1 rfl) (own_w hw 2 rfl) (own_w hw 3 rfl) (by decide) (by rw [hml]; rfl) [(.int x0)] [] pd_0 rfl at_1 rfl e0 rfl rfl rfl (by decide) (by decide) (by decide) (by decide) ?_
    rintro _ T110 L110 X110 ⟨rfl, N110, e110⟩
    have N110 := Fr.app N0 N110
    show Go p e below _ (T110.setTop (mkF m 4 _ [(.ref w_FALSE)]))
    refine own_astore_n 5 #[oI x0, oI x1, oI x2, oA w_FALSE, oU, oU, oU, oU, oU] X110 hx hby at_4 rfl rfl rfl ?_
    refine own_iload_n 6 X110 hx hby at_5 rfl rfl ?_
    rcases own_mod3 x1 with hv111 | hv111 | hv111
    · refine own_callS (W := 0) 9 (rm1_1 l Z a0 hw [] w_TRUE w_FALSE w_UNKNOWN W x1 h0 n0 O0 hv111) X110 hx hby hZ hown (own_w hw 0 rfl) (own_w hw 1 rfl) (own_w hw 2 rfl) (own_w hw 3 rfl) (by decide) (by rw [hml]; rfl) [(.int x1)] [] pd_0 rfl at_6 rfl e110 rfl rfl rfl (by decide) (by decide) (by decide) (by decide) ?_
      rintro _ T112 L112 X112 ⟨rfl, N112, e112⟩
      have N112 := Fr.app N110 N112
      show Go p e below _ (T112.setTop (mkF m 9 _ [(.ref w_TRUE)]))
      refine own_astore 11 #[oI x0, oI x1, oI x2, oA w_FALSE, oA w_TRUE, oU, oU, oU, oU] X112 hx hby at_9 rfl rfl rfl ?_
      refine own_iload_n 12 X112 hx hby at_11 rfl rfl ?_
      refine own_iconst 13 (1 : Int32) X112 hx hby at_12 rfl (by decide) ?_
      rcases own_and1 x2 with hv113 | hv113
      · refine own_iand 14 (0 : Int32) X112 hx hby at_13 rfl hv113 ?_
        refine own_ifY 21 X112 hx hby at_14 (by decide) (by decide) (by decide) ?_
        refine own_iconst 22 (0 : Int32) X112 hx hby at_21 rfl (by decide) ?_
        refine own_istore 24 #[oI x0, oI x1, oI x2, oA w_FALSE, oA w_TRUE, oI (0 : Int32), oU, oU, oU] X112 hx hby at_22 rfl rfl ?_
        refine own_iload 26 X112 hx hby at_24 rfl rfl ?_
        refine own_callS (W := 0) 29 (rm2_1 l Z a0 hw [] w_TRUE w_FALSE w_UNKNOWN W (0 : Int32) h0 n0 O0 (by decide)) X112 hx hby hZ hown (own_w hw 8 rfl) (own_w hw 9 rfl) (own_w hw 6 rfl) (own_w hw 10 rfl) (by decide) (by rw [hml]; rfl) [(.int (0 : Int32))] [] pd_1 rfl at_26 rfl e112 rfl rfl rfl (by decide) (by decide) (by decide) (by decide) ?_
        rintro _ T114 L114 X114 ⟨rfl, N114, e114⟩
        have N114 := Fr.app N112 N114
        show Go p e below _ (T114.setTop (mkF m 29 _ [(.ref w_FALSE)]))
        refine own_virt (W := 0) 32 (rm3_2 l Z a0 hw [] w_TRUE w_FALSE w_UNKNOWN W w_FALSE h0 n0 O0 (Fld.ne W.2.2.2.2.2.2.1 W.2.2.2.2.2.2.2.1 (fun q => absurd (Value.int.inj q) (by decide))) rfl) X114 hx hby hZ hown (own_w hw 13 rfl) (own_w hw 14 rfl) (notFace_of_selects (args := #[]) (mvT hZ (own_w hw 16 rfl))) (own_w hw 16 rfl) (own_w hw 15 rfl) (own_w hw 6 rfl) (own_w hw 17 rfl) (by decide) (by rw [hml]; rfl) w_FALSE [] [] pd_2 rfl at_29 rfl e114 (W.2.2.2.1.ext O0.2) rfl rfl rfl (by decide) (by decide) (by decide) (by decide) ?_
        rintro _ T115 L115 X115 ⟨rfl, N115, e115⟩
        have N115 := Fr.app N114 N115
        show Go p e below _ (T115.setTop (mkF m 32 _ [(.ref w_TRUE)]))
        refine own_iload 34 X115 hx hby at_32 rfl rfl ?_
        refine own_ifN 37 X115 hx hby at_34 rfl (by decide) ?_
        refine own_iconst 38 (1 : Int32) X115 hx hby at_37 rfl (by decide) ?_
        refine own_goto 42 X115 hx hby at_38 (by decide) (by decide) ?_
        refine own_callS (W := 1) 45 (rm2_2 l Z a0 hw [] w_TRUE w_FALSE w_UNKNOWN W (1 : Int32) h0 n0 O0 (by decide)) X115 hx hby hZ hown (own_w hw 8 rfl) (own_w hw 9 rfl) (own_w hw 6 rfl) (own_w hw 10 rfl) (by decide) (by rw [hml]; rfl) [(.int (1 : Int32))] [(.ref w_TRUE)] pd_1 rfl at_42 rfl e115 rfl rfl rfl (by decide) (by decide) (by decide) (by decide) ?_
        rintro _ T116 L116 X116 ⟨rfl, N116, e116⟩
        have N116 := Fr.app N115 N116
        show Go p e below _ (T116.setTop (mkF m 45 _ [(.ref w_TRUE), (.ref w_TRUE)]))
        refine own_acmp 48 true X116 hx hby at_45 rfl rfl (by decide) (by decide) (decide_eq_true (congrArg Value.ref rfl)) ?_
        refine own_iconst 49 (1 : Int32) X116 hx hby at_48 rfl (by decide) ?_
        refine own_goto 53 X116 hx hby at_49 (by decide) (by decide) ?_
        refine own_istore 55 #[oI x0, oI x1, oI x2, oA w_FALSE, oA w_TRUE, oI (0 : Int32), oI (1 : Int32), oU, oU] X116 hx hby at_53 rfl rfl ?_
        refine own_aload_n 56 X116 hx hby at_55 rfl rfl rfl ?_
        refine own_virt (W := 0) 59 (rm3_2 l Z a0 hw [] w_TRUE w_FALSE w_UNKNOWN W w_FALSE h0 n0 O0 (Fld.ne W.2.2.2.2.2.2.1 W.2.2.2.2.2.2.2.1 (fun q => absurd (Value.int.inj q) (by decide))) rfl) X116 hx hby hZ hown (own_w hw 13 rfl) (own_w hw 14 rfl) (notFace_of_selects (args := #[]) (mvT hZ (own_w hw 16 rfl))) (own_w hw 16 rfl) (own_w hw 15 rfl) (own_w hw 6 rfl) (own_w hw 17 rfl) (by decide) (by rw [hml]; rfl) w_FALSE [] [] pd_2 rfl at_56 rfl e116 (W.2.2.2.1.ext O0.2) rfl rfl rfl (by decide) (by decide) (by decide) (by decide) ?_
        rintro _ T117 L117 X117 ⟨rfl, N117, e117⟩
        have N117 := Fr.app N116 N117
        show Go p e below _ (T117.setTop (mkF m 59 _ [(.ref w_TRUE)]))
        refine own_virt (W := 0) 62 (rm3_1 l Z a0 hw [] w_TRUE w_FALSE w_UNKNOWN W w_TRUE h0 n0 O0 rfl) X117 hx hby hZ hown (own_w hw 13 rfl) (own_w hw 14 rfl) (notFace_of_selects (args := #[]) (mvT hZ (own_w hw 16 rfl))) (own_w hw 16 rfl) (own_w hw 15 rfl) (own_w hw 6 rfl) (own_w hw 17 rfl) (by decide) (by rw [hml]; rfl) w_TRUE [] [] pd_2 rfl at_59 rfl e117 (W.2.1.ext O0.2) rfl rfl rfl (by decide) (by decide) (by decide) (by decide) ?_
        rintro _ T118 L118 X118 ⟨rfl, N118, e118⟩
        have N118 := Fr.app N117 N118
        show Go p e below _ (T118.setTop (mkF m 62 _ [(.ref w_FALSE)]))
        refine own_aload_n 63 X118 hx hby at_62 rfl rfl rfl ?_
        refine own_acmp 66 true X118 hx hby at_63 rfl rfl (by decide) (by decide) (decide_eq_true (congrArg Value.ref rfl)) ?_
        refine own_iconst 67 (1 : Int32) X118 hx hby at_66 rfl (by decide) ?_
        refine own_goto 71 X118 hx hby at_67 (by decide) (by decide) ?_
        refine own_istore 73 #[oI x0, oI x1, oI x2, oA w_FALSE, oA w_TRUE, oI (0 : Int32), oI (1 : Int32), oI (1 : Int32), oU] X118 hx hby at_71 rfl rfl ?_
        refine own_aload_n 74 X118 hx hby at_73 rfl rfl rfl ?_
        refine own_aload 76 X118 hx hby at_74 rfl rfl rfl ?_
        refine own_virt (W := 0) 79 (rm4_1 l Z a0 hw [] w_TRUE w_FALSE w_UNKNOWN W w_FALSE w_TRUE h0 n0 O0 rfl) X118 hx hby hZ hown (own_w hw 19 rfl) (own_w hw 20 rfl) (notFace_of_selects (args := #[]) (mvT hZ (own_w hw 22 rfl))) (own_w hw 22 rfl) (own_w hw 21 rfl) (own_w hw 6 rfl) (own_w hw 23 rfl) (by decide) (by rw [hml]; rfl) w_FALSE [(.ref w_TRUE)] [] pd_3 rfl at_76 rfl e118 (W.2.2.2.1.ext O0.2) rfl rfl rfl (by decide) (by decide) (by decide) (by decide) ?_
        rintro _ T119 L119 X119 ⟨rfl, N119, e119⟩
        have N119 := Fr.app N118 N119
        show Go p e below _ (T119.setTop (mkF m 79 _ [(.ref w_FALSE)]))
        refine own_virt (W := 0) 82 (rm3_2 l Z a0 hw [] w_TRUE w_FALSE w_UNKNOWN W w_FALSE h0 n0 O0 (Fld.ne W.2.2.2.2.2.2.1 W.2.2.2.2.2.2.2.1 (fun q => absurd (Value.int.inj q) (by decide))) rfl) X119 hx hby hZ hown (own_w hw 13 rfl) (own_w hw 14 rfl) (notFace_of_selects (args := #[]) (mvT hZ (own_w hw 16 rfl))) (own_w hw 16 rfl) (own_w hw 15 rfl) (own_w hw 6 rfl) (own_w hw 17 rfl) (by decide) (by rw [hml]; rfl) w_FALSE [] [] pd_2 rfl at_79 rfl e119 (W.2.2.2.1.ext O0.2) rfl rfl rfl (by decide) (by decide) (by decide) (by decide) ?_
        rintro _ T120 L120 X120 ⟨rfl, N120, e120⟩
        have N120 := Fr.app N119 N120
        show Go p e below _ (T120.setTop (mkF m 82 _ [(.ref w_TRUE)]))
        refine own_aload_n 83 X120 hx hby at_82 rfl rfl rfl ?_
        refine own_virt (W := 1) 86 (rm3_2 l Z a0 hw [] w_TRUE w_FALSE w_UNKNOWN W w_FALSE h0 n0 O0 (Fld.ne W.2.2.2.2.2.2.1 W.2.2.2.2.2.2.2.1 (fun q => absurd (Value.int.inj q) (by decide))) rfl) X120 hx hby hZ hown (own_w hw 13 rfl) (own_w hw 14 rfl) (notFace_of_selects (args := #[]) (mvT hZ (own_w hw 16 rfl))) (own_w hw 16 rfl) (own_w hw 15 rfl) (own_w hw 6 rfl) (own_w hw 17 rfl) (by decide) (by rw [hml]; rfl) w_FALSE [] [(.ref w_TRUE)] pd_2 rfl at_83 rfl e120 (W.2.2.2.1.ext O0.2) rfl rfl rfl (by decide) (by decide) (by decide) (by decide) ?_
        rintro _ T121 L121 X121 ⟨rfl, N121, e121⟩
        have N121 := Fr.app N120 N121
        show Go p e below _ (T121.setTop (mkF m 86 _ [(.ref w_TRUE), (.ref w_TRUE)]))
        refine own_aload 88 X121 hx hby at_86 rfl rfl rfl ?_
        refine own_virt (W := 2) 91 (rm3_1 l Z a0 hw [] w_TRUE w_FALSE w_UNKNOWN W w_TRUE h0 n0 O0 rfl) X121 hx hby hZ hown (own_w hw 13 rfl) (own_w hw 14 rfl) (notFace_of_selects (args := #[]) (mvT hZ (own_w hw 16 rfl))) (own_w hw 16 rfl) (own_w hw 15 rfl) (own_w hw 6 rfl) (own_w hw 17 rfl) (by decide) (by rw [hml]; rfl) w_TRUE [] [(.ref w_TRUE), (.ref w_TRUE)] pd_2 rfl at_88 rfl e121 (W.2.1.ext O0.2) rfl rfl rfl (by decide) (by decide) (by decide) (by decide) ?_
        rintro _ T122 L122 X122 ⟨rfl, N122, e122⟩
        have N122 := Fr.app N121 N122
        show Go p e below _ (T122.setTop (mkF m 91 _ [(.ref w_FALSE), (.ref w_TRUE), (.ref w_TRUE)]))
        refine own_virt (W := 1) 94 (rm5_1 l Z a0 hw [] w_TRUE w_FALSE w_UNKNOWN W w_TRUE w_FALSE h0 n0 O0 rfl) X122 hx hby hZ hown (own_w hw 24 rfl) (own_w hw 25 rfl) (notFace_of_selects (args := #[]) (mvT hZ (own_w hw 27 rfl))) (own_w hw 27 rfl) (own_w hw 26 rfl) (own_w hw 6 rfl) (own_w hw 28 rfl) (by decide) (by rw [hml]; rfl) w_TRUE [(.ref w_FALSE)] [(.ref w_TRUE)] pd_3 rfl at_91 rfl e122 (W.2.1.ext O0.2) rfl rfl rfl (by decide) (by decide) (by decide) (by decide) ?_
        rintro _ T123 L123 X123 ⟨rfl, N123, e123⟩
        have N123 := Fr.app N122 N123
        show Go p e below _ (T123.setTop (mkF m 94 _ [(.ref w_TRUE), (.ref w_TRUE)]))
        refine own_acmp 97 true X123 hx hby at_94 rfl rfl (by decide) (by decide) (decide_eq_true (congrArg Value.ref rfl)) ?_
        refine own_iconst 98 (1 : Int32) X123 hx hby at_97 rfl (by decide) ?_
        refine own_goto 102 X123 hx hby at_98 (by decide) (by decide) ?_
        refine own_istore 104 #[oI x0, oI x1, oI x2, oA w_FALSE, oA w_TRUE, oI (0 : Int32), oI (1 : Int32), oI (1 : Int32), oI (1 : Int32)] X123 hx hby at_102 rfl rfl ?_
        refine own_iload 106 X123 hx hby at_104 rfl rfl ?_
        refine own_ifN 109 X123 hx hby at_106 rfl (by decide) ?_
        refine own_iload 111 X123 hx hby at_109 rfl rfl ?_
        refine own_ifN 114 X123 hx hby at_111 rfl (by decide) ?_
        refine own_iload 116 X123 hx hby at_114 rfl rfl ?_
        refine own_ifN 119 X123 hx hby at_116 rfl (by decide) ?_
        refine own_iconst 120 (1 : Int32) X123 hx hby at_119 rfl (by decide) ?_
        refine own_goto 124 X123 hx hby at_120 (by decide) (by decide) ?_
        exact own_ret (Q := own_Q1 n0) X123 hx hby hret hlk at_124 rfl (Or.inl ⟨rfl, by simp, _, rfl⟩) (by decide) (by decide) ⟨rfl, N123⟩
      · refine own_iand 14 (1 : Int32) X112 hx hby at_13 rfl hv113 ?_
        refine own_ifN 17 X112 hx hby at_14 rfl (by decide) ?_
        refine own_iconst 18 (1 : Int32) X112 hx hby at_17 rfl (by decide) ?_
        refine own_goto 22 X112 hx hby at_18 (by decide) (by decide) ?_
        refine own_istore 24 #[oI x0, oI x1, oI x2, oA w_FALSE, oA w_TRUE, oI (1 : Int32), oU, oU, oU] X112 hx hby at_22 rfl rfl ?_
        refine own_iload 26 X112 hx hby at_24 rfl rfl ?_
        refine own_callS (W := 0) 29 (rm2_2 l Z a0 hw [] w_TRUE w_FALSE w_UNKNOWN W (1 : Int32) h0 n0 O0 (by decide)) X112 hx hby hZ hown (own_w hw 8 rfl) (own_w hw 9 rfl) (own_w hw 6 rfl) (own_w hw 10 rfl) (by decide) (by rw [hml]; rfl) [(.int (1 : Int32))] [] pd_1 rfl at_26 rfl e112 rfl rfl rfl (by decide) (by decide) (by decide) (by decide) ?_
        rintro _ T124 L124 X124 ⟨rfl, N124, e124⟩
        have N124 := Fr.app N112 N124
        show Go p e below _ (T124.setTop (mkF m 29 _ [(.ref w_TRUE)]))
        refine own_virt (W := 0) 32 (rm3_1 l Z a0 hw [] w_TRUE w_FALSE w_UNKNOWN W w_TRUE h0 n0 O0 rfl) X124 hx hby hZ hown (own_w hw 13 rfl) (own_w hw 14 rfl) (notFace_of_selects (args := #[]) (mvT hZ (own_w hw 16 rfl))) (own_w hw 16 rfl) (own_w hw 15 rfl) (own_w hw 6 rfl) (own_w hw 17 rfl) (by decide) (by rw [hml]; rfl) w_TRUE [] [] pd_2 rfl at_29 rfl e124 (W.2.1.ext O0.2) rfl rfl rfl (by decide) (by decide) (by decide) (by decide) ?_
        rintro _ T125 L125 X125 ⟨rfl, N125, e125⟩
        have N125 := Fr.app N124 N125
        show Go p e below _ (T125.setTop (mkF m 32 _ [(.ref w_FALSE)]))
        refine own_iload 34 X125 hx hby at_32 rfl rfl ?_
        refine own_ifY 41 X125 hx hby at_34 (by decide) (by decide) (by decide) ?_
        refine own_iconst 42 (0 : Int32) X125 hx hby at_41 rfl (by decide) ?_
        refine own_callS (W := 1) 45 (rm2_1 l Z a0 hw [] w_TRUE w_FALSE w_UNKNOWN W (0 : Int32) h0 n0 O0 (by decide)) X125 hx hby hZ hown (own_w hw 8 rfl) (own_w hw 9 rfl) (own_w hw 6 rfl) (own_w hw 10 rfl) (by decide) (by rw [hml]; rfl) [(.int (0 : Int32))] [(.ref w_FALSE)] pd_1 rfl at_42 rfl e125 rfl rfl rfl (by decide) (by decide) (by decide) (by decide) ?_
        rintro _ T126 L126 X126 ⟨rfl, N126, e126⟩
        have N126 := Fr.app N125 N126
        show Go p e below _ (T126.setTop (mkF m 45 _ [(.ref w_FALSE), (.ref w_FALSE)]))
        refine own_acmp 48 true X126 hx hby at_45 rfl rfl (by decide) (by decide) (decide_eq_true (congrArg Value.ref rfl)) ?_
        refine own_iconst 49 (1 : Int32) X126 hx hby at_48 rfl (by decide) ?_
        refine own_goto 53 X126 hx hby at_49 (by decide) (by decide) ?_
        refine own_istore 55 #[oI x0, oI x1, oI x2, oA w_FALSE, oA w_TRUE, oI (1 : Int32), oI (1 : Int32), oU, oU] X126 hx hby at_53 rfl rfl ?_
        refine own_aload_n 56 X126 hx hby at_55 rfl rfl rfl ?_
        refine own_virt (W := 0) 59 (rm3_2 l Z a0 hw [] w_TRUE w_FALSE w_UNKNOWN W w_FALSE h0 n0 O0 (Fld.ne W.2.2.2.2.2.2.1 W.2.2.2.2.2.2.2.1 (fun q => absurd (Value.int.inj q) (by decide))) rfl) X126 hx hby hZ hown (own_w hw 13 rfl) (own_w hw 14 rfl) (notFace_of_selects (args := #[]) (mvT hZ (own_w hw 16 rfl))) (own_w hw 16 rfl) (own_w hw 15 rfl) (own_w hw 6 rfl) (own_w hw 17 rfl) (by decide) (by rw [hml]; rfl) w_FALSE [] [] pd_2 rfl at_56 rfl e126 (W.2.2.2.1.ext O0.2) rfl rfl rfl (by decide) (by decide) (by decide) (by decide) ?_
        rintro _ T127 L127 X127 ⟨rfl, N127, e127⟩
        have N127 := Fr.app N126 N127
        show Go p e below _ (T127.setTop (mkF m 59 _ [(.ref w_TRUE)]))
        refine own_virt (W := 0) 62 (rm3_1 l Z a0 hw [] w_TRUE w_FALSE w_UNKNOWN W w_TRUE h0 n0 O0 rfl) X127 hx hby hZ hown (own_w hw 13 rfl) (own_w hw 14 rfl) (notFace_of_selects (args := #[]) (mvT hZ (own_w hw 16 rfl))) (own_w hw 16 rfl) (own_w hw 15 rfl) (own_w hw 6 rfl) (own_w hw 17 rfl) (by decide) (by rw [hml]; rfl) w_TRUE [] [] pd_2 rfl at_59 rfl e127 (W.2.1.ext O0.2) rfl rfl rfl (by decide) (by decide) (by decide) (by decide) ?_
        rintro _ T128 L128 X128 ⟨rfl, N128, e128⟩
        have N128 := Fr.app N127 N128
        show Go p e below _ (T128.setTop (mkF m 62 _ [(.ref w_FALSE)]))
        refine own_aload_n 63 X128 hx hby at_62 rfl rfl rfl ?_
        refine own_acmp 66 true X128 hx hby at_63 rfl rfl (by decide) (by decide) (decide_eq_true (congrArg Value.ref rfl)) ?_
        refine own_iconst 67 (1 : Int32) X128 hx hby at_66 rfl (by decide) ?_
        refine own_goto 71 X128 hx hby at_67 (by decide) (by decide) ?_
        refine own_istore 73 #[oI x0, oI x1, oI x2, oA w_FALSE, oA w_TRUE, oI (1 : Int32), oI (1 : Int32), oI (1 : Int32), oU] X128 hx hby at_71 rfl rfl ?_
        refine own_aload_n 74 X128 hx hby at_73 rfl rfl rfl ?_
        refine own_aload 76 X128 hx hby at_74 rfl rfl rfl ?_
        refine own_virt (W := 0) 79 (rm4_1 l Z a0 hw [] w_TRUE w_FALSE w_UNKNOWN W w_FALSE w_TRUE h0 n0 O0 rfl) X128 hx hby hZ hown (own_w hw 19 rfl) (own_w hw 20 rfl) (notFace_of_selects (args := #[]) (mvT hZ (own_w hw 22 rfl))) (own_w hw 22 rfl) (own_w hw 21 rfl) (own_w hw 6 rfl) (own_w hw 23 rfl) (by decide) (by rw [hml]; rfl) w_FALSE [(.ref w_TRUE)] [] pd_3 rfl at_76 rfl e128 (W.2.2.2.1.ext O0.2) rfl rfl rfl (by decide) (by decide) (by decide) (by decide) ?_
        rintro _ T129 L129 X129 ⟨rfl, N129, e129⟩
        have N129 := Fr.app N128 N129
        show Go p e below _ (T129.setTop (mkF m 79 _ [(.ref w_FALSE)]))
        refine own_virt (W := 0) 82 (rm3_2 l Z a0 hw [] w_TRUE w_FALSE w_UNKNOWN W w_FALSE h0 n0 O0 (Fld.ne W.2.2.2.2.2.2.1 W.2.2.2.2.2.2.2.1 (fun q => absurd (Value.int.inj q) (by decide))) rfl) X129 hx hby hZ hown (own_w hw 13 rfl) (own_w hw 14 rfl) (notFace_of_selects (args := #[]) (mvT hZ (own_w hw 16 rfl))) (own_w hw 16 rfl) (own_w hw 15 rfl) (own_w hw 6 rfl) (own_w hw 17 rfl) (by decide) (by rw [hml]; rfl) w_FALSE [] [] pd_2 rfl at_79 rfl e129 (W.2.2.2.1.ext O0.2) rfl rfl rfl (by decide) (by decide) (by decide) (by decide) ?_
        rintro _ T130 L130 X130 ⟨rfl, N130, e130⟩
        have N130 := Fr.app N129 N130
        show Go p e below _ (T130.setTop (mkF m 82 _ [(.ref w_TRUE)]))
        refine own_aload_n 83 X130 hx hby at_82 rfl rfl rfl ?_
        refine own_virt (W := 1) 86 (rm3_2 l Z a0 hw [] w_TRUE w_FALSE w_UNKNOWN W w_FALSE h0 n0 O0 (Fld.ne W.2.2.2.2.2.2.1 W.2.2.2.2.2.2.2.1 (fun q => absurd (Value.int.inj q) (by decide))) rfl) X130 hx hby hZ hown (own_w hw 13 rfl) (own_w hw 14 rfl) (notFace_of_selects (args := #[]) (mvT hZ (own_w hw 16 rfl))) (own_w hw 16 rfl) (own_w hw 15 rfl) (own_w hw 6 rfl) (own_w hw 17 rfl) (by decide) (by rw [hml]; rfl) w_FALSE [] [(.ref w_TRUE)] pd_2 rfl at_83 rfl e130 (W.2.2.2.1.ext O0.2) rfl rfl rfl (by decide) (by decide) (by decide) (by decide) ?_
        rintro _ T131 L131 X131 ⟨rfl, N131, e131⟩
        have N131 := Fr.app N130 N131
        show Go p e below _ (T131.setTop (mkF m 86 _ [(.ref w_TRUE), (.ref w_TRUE)]))
        refine own_aload 88 X131 hx hby at_86 rfl rfl rfl ?_
        refine own_virt (W := 2) 91 (rm3_1 l Z a0 hw [] w_TRUE w_FALSE w_UNKNOWN W w_TRUE h0 n0 O0 rfl) X131 hx hby hZ hown (own_w hw 13 rfl) (own_w hw 14 rfl) (notFace_of_selects (args := #[]) (mvT hZ (own_w hw 16 rfl))) (own_w hw 16 rfl) (own_w hw 15 rfl) (own_w hw 6 rfl) (own_w hw 17 rfl) (by decide) (by rw [hml]; rfl) w_TRUE [] [(.ref w_TRUE), (.ref w_TRUE)] pd_2 rfl at_88 rfl e131 (W.2.1.ext O0.2) rfl rfl rfl (by decide) (by decide) (by decide) (by decide) ?_
        rintro _ T132 L132 X132 ⟨rfl, N132, e132⟩
        have N132 := Fr.app N131 N132
        show Go p e below _ (T132.setTop (mkF m 91 _ [(.ref w_FALSE), (.ref w_TRUE), (.ref w_TRUE)]))
        refine own_virt (W := 1) 94 (rm5_1 l Z a0 hw [] w_TRUE w_FALSE w_UNKNOWN W w_TRUE w_FALSE h0 n0 O0 rfl) X132 hx hby hZ hown (own_w hw 24 rfl) (own_w hw 25 rfl) (notFace_of_selects (args := #[]) (mvT hZ (own_w hw 27 rfl))) (own_w hw 27 rfl) (own_w hw 26 rfl) (own_w hw 6 rfl) (own_w hw 28 rfl) (by decide) (by rw [hml]; rfl) w_TRUE [(.ref w_FALSE)] [(.ref w_TRUE)] pd_3 rfl at_91 rfl e132 (W.2.1.ext O0.2) rfl rfl rfl (by decide) (by decide) (by decide) (by decide) ?_
        rintro _ T133 L133 X133 ⟨rfl, N133, e133⟩
        have N133 := Fr.app N132 N133
        show Go p e below _ (T133.setTop (mkF m 94 _ [(.ref w_TRUE), (.ref w_TRUE)]))
        refine own_acmp 97 true X133 hx hby at_94 rfl rfl (by decide) (by decide) (decide_eq_true (congrArg Value.ref rfl)) ?_
        refine own_iconst 98 (1 : Int32) X133 hx hby at_97 rfl (by decide) ?_
        refine own_goto 102 X133 hx hby at_98 (by decide) (by decide) ?_
        refine own_istore 104 #[oI x0, oI x1, oI x2, oA w_FALSE, oA w_TRUE, oI (1 : Int32), oI (1 : Int32), oI (1 : Int32), oI (1 : Int32)] X133 hx hby at_102 rfl rfl ?_
        refine own_iload 106 X133 hx hby at_104 rfl rfl ?_
        refine own_ifN 109 X133 hx hby at_106 rfl (by decide) ?_
        refine own_iload 111 X133 hx hby at_109 rfl rfl ?_
        refine own_ifN 114 X133 hx hby at_111 rfl (by decide) ?_
        refine own_iload 116 X133 hx hby at_114 rfl rfl ?_
        refine own_ifN 119 X133 hx hby at_116 rfl (by decide) ?_
        refine own_iconst 120 (1 : Int32) X133 hx hby at_119 rfl (by decide) ?_
        refine own_goto 124 X133 hx hby at_120 (by decide) (by decide) ?_
        exact own_ret (Q := own_Q1 n0) X133 hx hby hret hlk at_124 rfl (Or.inl ⟨rfl, by simp, _, rfl⟩) (by decide) (by decide) ⟨rfl, N133⟩
    · refine own_callS (W := 0) 9 (rm1_2 l Z a0 hw [] w_TRUE w_FALSE w_UNKNOWN W x1 h0 n0 O0 hv111) X110 hx hby hZ hown (own_w hw 0 rfl) (own_w hw 1 rfl) (own_w hw 2 rfl) (own_w hw 3 rfl) (by decide) (by rw [hml]; rfl) [(.int x1)] [] pd_0 rfl at_6 rfl e110 rfl rfl rfl (by decide) (by decide) (by decide) (by decide) ?_
      rintro _ T134 L134 X134 ⟨rfl, N134, e134⟩
      have N134 := Fr.app N110 N134
      show Go p e below _ (T134.setTop (mkF m 9 _ [(.ref w_FALSE)]))
      refine own_astore 11 #[oI x0, oI x1, oI x2, oA w_FALSE, oA w_FALSE, oU, oU, oU, oU] X134 hx hby at_9 rfl rfl rfl ?_
      refine own_iload_n 12 X134 hx hby at_11 rfl rfl ?_
      refine own_iconst 13 (1 : Int32) X134 hx hby at_12 rfl (by decide) ?_
      rcases own_and1 x2 with hv135 | hv135
      · refine own_iand 14 (0 : Int32) X134 hx hby at_13 rfl hv135 ?_
        refine own_ifY 21 X134 hx hby at_14 (by decide) (by decide) (by decide) ?_
        refine own_iconst 22 (0 : Int32) X134 hx hby at_21 rfl (by decide) ?_
        refine own_istore 24 #[oI x0, oI x1, oI x2, oA w_FALSE, oA w_FALSE, oI (0 : Int32), oU, oU, oU] X134 hx hby at_22 rfl rfl ?_
        refine own_iload 26 X134 hx hby at_24 rfl rfl ?_
        refine own_callS (W := 0) 29 (rm2_1 l Z a0 hw [] w_TRUE w_FALSE w_UNKNOWN W (0 : Int32) h0 n0 O0 (by decide)) X134 hx hby hZ hown (own_w hw 8 rfl) (own_w hw 9 rfl) (own_w hw 6 rfl) (own_w hw 10 rfl) (by decide) (by rw [hml]; rfl) [(.int (0 : Int32))] [] pd_1 rfl at_26 rfl e134 rfl rfl rfl (by decide) (by decide) (by decide) (by decide) ?_
        rintro _ T136 L136 X136 ⟨rfl, N136, e136⟩
        have N136 := Fr.app N134 N136
        show Go p e below _ (T136.setTop (mkF m 29 _ [(.ref w_FALSE)]))
        refine own_virt (W := 0) 32 (rm3_2 l Z a0 hw [] w_TRUE w_FALSE w_UNKNOWN W w_FALSE h0 n0 O0 (Fld.ne W.2.2.2.2.2.2.1 W.2.2.2.2.2.2.2.1 (fun q => absurd (Value.int.inj q) (by decide))) rfl) X136 hx hby hZ hown (own_w hw 13 rfl) (own_w hw 14 rfl) (notFace_of_selects (args := #[]) (mvT hZ (own_w hw 16 rfl))) (own_w hw 16 rfl) (own_w hw 15 rfl) (own_w hw 6 rfl) (own_w hw 17 rfl) (by decide) (by rw [hml]; rfl) w_FALSE [] [] pd_2 rfl at_29 rfl e136 (W.2.2.2.1.ext O0.2) rfl rfl rfl (by decide) (by decide) (by decide) (by decide) ?_
        rintro _ T137 L137 X137 ⟨rfl, N137, e137⟩
        have N137 := Fr.app N136 N137
        show Go p e below _ (T137.setTop (mkF m 32 _ [(.ref w_TRUE)]))
        refine own_iload 34 X137 hx hby at_32 rfl rfl ?_
        refine own_ifN 37 X137 hx hby at_34 rfl (by decide) ?_
        refine own_iconst 38 (1 : Int32) X137 hx hby at_37 rfl (by decide) ?_
        refine own_goto 42 X137 hx hby at_38 (by decide) (by decide) ?_
        refine own_callS (W := 1) 45 (rm2_2 l Z a0 hw [] w_TRUE w_FALSE w_UNKNOWN W (1 : Int32) h0 n0 O0 (by decide)) X137 hx hby hZ hown (own_w hw 8 rfl) (own_w hw 9 rfl) (own_w hw 6 rfl) (own_w hw 10 rfl) (by decide) (by rw [hml]; rfl) [(.int (1 : Int32))] [(.ref w_TRUE)] pd_1 rfl at_42 rfl e137 rfl rfl rfl (by decide) (by decide) (by decide) (by decide) ?_
        rintro _ T138 L138 X138 ⟨rfl, N138, e138⟩
        have N138 := Fr.app N137 N138
        show Go p e below _ (T138.setTop (mkF m 45 _ [(.ref w_TRUE), (.ref w_TRUE)]))
        refine own_acmp 48 true X138 hx hby at_45 rfl rfl (by decide) (by decide) (decide_eq_true (congrArg Value.ref rfl)) ?_
        refine own_iconst 49 (1 : Int32) X138 hx hby at_48 rfl (by decide) ?_
        refine own_goto 53 X138 hx hby at_49 (by decide) (by decide) ?_
        refine own_istore 55 #[oI x0, oI x1, oI x2, oA w_FALSE, oA w_FALSE, oI (0 : Int32), oI (1 : Int32), oU, oU] X138 hx hby at_53 rfl rfl ?_
        refine own_aload_n 56 X138 hx hby at_55 rfl rfl rfl ?_
        refine own_virt (W := 0) 59 (rm3_2 l Z a0 hw [] w_TRUE w_FALSE w_UNKNOWN W w_FALSE h0 n0 O0 (Fld.ne W.2.2.2.2.2.2.1 W.2.2.2.2.2.2.2.1 (fun q => absurd (Value.int.inj q) (by decide))) rfl) X138 hx hby hZ hown (own_w hw 13 rfl) (own_w hw 14 rfl) (notFace_of_selects (args := #[]) (mvT hZ (own_w hw 16 rfl))) (own_w hw 16 rfl) (own_w hw 15 rfl) (own_w hw 6 rfl) (own_w hw 17 rfl) (by decide) (by rw [hml]; rfl) w_FALSE [] [] pd_2 rfl at_56 rfl e138 (W.2.2.2.1.ext O0.2) rfl rfl rfl (by decide) (by decide) (by decide) (by decide) ?_
        rintro _ T139 L139 X139 ⟨rfl, N139, e139⟩
        have N139 := Fr.app N138 N139
        show Go p e below _ (T139.setTop (mkF m 59 _ [(.ref w_TRUE)]))
        refine own_virt (W := 0) 62 (rm3_1 l Z a0 hw [] w_TRUE w_FALSE w_UNKNOWN W w_TRUE h0 n0 O0 rfl) X139 hx hby hZ hown (own_w hw 13 rfl) (own_w hw 14 rfl) (notFace_of_selects (args := #[]) (mvT hZ (own_w hw 16 rfl))) (own_w hw 16 rfl) (own_w hw 15 rfl) (own_w hw 6 rfl) (own_w hw 17 rfl) (by decide) (by rw [hml]; rfl) w_TRUE [] [] pd_2 rfl at_59 rfl e139 (W.2.1.ext O0.2) rfl rfl rfl (by decide) (by decide) (by decide) (by decide) ?_
        rintro _ T140 L140 X140 ⟨rfl, N140, e140⟩
        have N140 := Fr.app N139 N140
        show Go p e below _ (T140.setTop (mkF m 62 _ [(.ref w_FALSE)]))
        refine own_aload_n 63 X140 hx hby at_62 rfl rfl rfl ?_
        refine own_acmp 66 true X140 hx hby at_63 rfl rfl (by decide) (by decide) (decide_eq_true (congrArg Value.ref rfl)) ?_
        refine own_iconst 67 (1 : Int32) X140 hx hby at_66 rfl (by decide) ?_
        refine own_goto 71 X140 hx hby at_67 (by decide) (by decide) ?_
        refine own_istore 73 #[oI x0, oI x1, oI x2, oA w_FALSE, oA w_FALSE, oI (0 : Int32), oI (1 : Int32), oI (1 : Int32), oU] X140 hx hby at_71 rfl rfl ?_
        refine own_aload_n 74 X140 hx hby at_73 rfl rfl rfl ?_
        refine own_aload 76 X140 hx hby at_74 rfl rfl rfl ?_
        refine own_virt (W := 0) 79 (rm4_1 l Z a0 hw [] w_TRUE w_FALSE w_UNKNOWN W w_FALSE w_FALSE h0 n0 O0 rfl) X140 hx hby hZ hown (own_w hw 19 rfl) (own_w hw 20 rfl) (notFace_of_selects (args := #[]) (mvT hZ (own_w hw 22 rfl))) (own_w hw 22 rfl) (own_w hw 21 rfl) (own_w hw 6 rfl) (own_w hw 23 rfl) (by decide) (by rw [hml]; rfl) w_FALSE [(.ref w_FALSE)] [] pd_3 rfl at_76 rfl e140 (W.2.2.2.1.ext O0.2) rfl rfl rfl (by decide) (by decide) (by decide) (by decide) ?_
        rintro _ T141 L141 X141 ⟨rfl, N141, e141⟩
        have N141 := Fr.app N140 N141
        show Go p e below _ (T141.setTop (mkF m 79 _ [(.ref w_FALSE)]))
        refine own_virt (W := 0) 82 (rm3_2 l Z a0 hw [] w_TRUE w_FALSE w_UNKNOWN W w_FALSE h0 n0 O0 (Fld.ne W.2.2.2.2.2.2.1 W.2.2.2.2.2.2.2.1 (fun q => absurd (Value.int.inj q) (by decide))) rfl) X141 hx hby hZ hown (own_w hw 13 rfl) (own_w hw 14 rfl) (notFace_of_selects (args := #[]) (mvT hZ (own_w hw 16 rfl))) (own_w hw 16 rfl) (own_w hw 15 rfl) (own_w hw 6 rfl) (own_w hw 17 rfl) (by decide) (by rw [hml]; rfl) w_FALSE [] [] pd_2 rfl at_79 rfl e141 (W.2.2.2.1.ext O0.2) rfl rfl rfl (by decide) (by decide) (by decide) (by decide) ?_
        rintro _ T142 L142 X142 ⟨rfl, N142, e142⟩
        have N142 := Fr.app N141 N142
        show Go p e below _ (T142.setTop (mkF m 82 _ [(.ref w_TRUE)]))
        refine own_aload_n 83 X142 hx hby at_82 rfl rfl rfl ?_
        refine own_virt (W := 1) 86 (rm3_2 l Z a0 hw [] w_TRUE w_FALSE w_UNKNOWN W w_FALSE h0 n0 O0 (Fld.ne W.2.2.2.2.2.2.1 W.2.2.2.2.2.2.2.1 (fun q => absurd (Value.int.inj q) (by decide))) rfl) X142 hx hby hZ hown (own_w hw 13 rfl) (own_w hw 14 rfl) (notFace_of_selects (args := #[]) (mvT hZ (own_w hw 16 rfl))) (own_w hw 16 rfl) (own_w hw 15 rfl) (own_w hw 6 rfl) (own_w hw 17 rfl) (by decide) (by rw [hml]; rfl) w_FALSE [] [(.ref w_TRUE)] pd_2 rfl at_83 rfl e142 (W.2.2.2.1.ext O0.2) rfl rfl rfl (by decide) (by decide) (by decide) (by decide) ?_
        rintro _ T143 L143 X143 ⟨rfl, N143, e143⟩
        have N143 := Fr.app N142 N143
        show Go p e below _ (T143.setTop (mkF m 86 _ [(.ref w_TRUE), (.ref w_TRUE)]))
        refine own_aload 88 X143 hx hby at_86 rfl rfl rfl ?_
        refine own_virt (W := 2) 91 (rm3_2 l Z a0 hw [] w_TRUE w_FALSE w_UNKNOWN W w_FALSE h0 n0 O0 (Fld.ne W.2.2.2.2.2.2.1 W.2.2.2.2.2.2.2.1 (fun q => absurd (Value.int.inj q) (by decide))) rfl) X143 hx hby hZ hown (own_w hw 13 rfl) (own_w hw 14 rfl) (notFace_of_selects (args := #[]) (mvT hZ (own_w hw 16 rfl))) (own_w hw 16 rfl) (own_w hw 15 rfl) (own_w hw 6 rfl) (own_w hw 17 rfl) (by decide) (by rw [hml]; rfl) w_FALSE [] [(.ref w_TRUE), (.ref w_TRUE)] pd_2 rfl at_88 rfl e143 (W.2.2.2.1.ext O0.2) rfl rfl rfl (by decide) (by decide) (by decide) (by decide) ?_
        rintro _ T144 L144 X144 ⟨rfl, N144, e144⟩
        have N144 := Fr.app N143 N144
        show Go p e below _ (T144.setTop (mkF m 91 _ [(.ref w_TRUE), (.ref w_TRUE), (.ref w_TRUE)]))
        refine own_virt (W := 1) 94 (rm5_1 l Z a0 hw [] w_TRUE w_FALSE w_UNKNOWN W w_TRUE w_TRUE h0 n0 O0 rfl) X144 hx hby hZ hown (own_w hw 24 rfl) (own_w hw 25 rfl) (notFace_of_selects (args := #[]) (mvT hZ (own_w hw 27 rfl))) (own_w hw 27 rfl) (own_w hw 26 rfl) (own_w hw 6 rfl) (own_w hw 28 rfl) (by decide) (by rw [hml]; rfl) w_TRUE [(.ref w_TRUE)] [(.ref w_TRUE)] pd_3 rfl at_91 rfl e144 (W.2.1.ext O0.2) rfl rfl rfl (by decide) (by decide) (by decide) (by decide) ?_
        rintro _ T145 L145 X145 ⟨rfl, N145, e145⟩
        have N145 := Fr.app N144 N145
        show Go p e below _ (T145.setTop (mkF m 94 _ [(.ref w_TRUE), (.ref w_TRUE)]))
        refine own_acmp 97 true X145 hx hby at_94 rfl rfl (by decide) (by decide) (decide_eq_true (congrArg Value.ref rfl)) ?_
        refine own_iconst 98 (1 : Int32) X145 hx hby at_97 rfl (by decide) ?_
        refine own_goto 102 X145 hx hby at_98 (by decide) (by decide) ?_
        refine own_istore 104 #[oI x0, oI x1, oI x2, oA w_FALSE, oA w_FALSE, oI (0 : Int32), oI (1 : Int32), oI (1 : Int32), oI (1 : Int32)] X145 hx hby at_102 rfl rfl ?_
        refine own_iload 106 X145 hx hby at_104 rfl rfl ?_
        refine own_ifN 109 X145 hx hby at_106 rfl (by decide) ?_
        refine own_iload 111 X145 hx hby at_109 rfl rfl ?_
        refine own_ifN 114 X145 hx hby at_111 rfl (by decide) ?_
        refine own_iload 116 X145 hx hby at_114 rfl rfl ?_
        refine own_ifN 119 X145 hx hby at_116 rfl (by decide) ?_
        refine own_iconst 120 (1 : Int32) X145 hx hby at_119 rfl (by decide) ?_
        refine own_goto 124 X145 hx hby at_120 (by decide) (by decide) ?_
        exact own_ret (Q := own_Q1 n0) X145 hx hby hret hlk at_124 rfl (Or.inl ⟨rfl, by simp, _, rfl⟩) (by decide) (by decide) ⟨rfl, N145⟩
      · refine own_iand 14 (1 : Int32) X134 hx hby at_13 rfl hv135 ?_
        refine own_ifN 17 X134 hx hby at_14 rfl (by decide) ?_
        refine own_iconst 18 (1 : Int32) X134 hx hby at_17 rfl (by decide) ?_
        refine own_goto 22 X134 hx hby at_18 (by decide) (by decide) ?_
        refine own_istore 24 #[oI x0, oI x1, oI x2, oA w_FALSE, oA w_FALSE, oI (1 : Int32), oU, oU, oU] X134 hx hby at_22 rfl rfl ?_
        refine own_iload 26 X134 hx hby at_24 rfl rfl ?_
        refine own_callS (W := 0) 29 (rm2_2 l Z a0 hw [] w_TRUE w_FALSE w_UNKNOWN W (1 : Int32) h0 n0 O0 (by decide)) X134 hx hby hZ hown (own_w hw 8 rfl) (own_w hw 9 rfl) (own_w hw 6 rfl) (own_w hw 10 rfl) (by decide) (by rw [hml]; rfl) [(.int (1 : Int32))] [] pd_1 rfl at_26 rfl e134 rfl rfl rfl (by decide) (by decide) (by decide) (by decide) ?_
        rintro _ T146 L146 X146 ⟨rfl, N146, e146⟩
        have N146 := Fr.app N134 N146
        show Go p e below _ (T146.setTop (mkF m 29 _ [(.ref w_TRUE)]))
        refine own_virt (W := 0) 32 (rm3_1 l Z a0 hw [] w_TRUE w_FALSE w_UNKNOWN W w_TRUE h0 n0 O0 rfl) X146 hx hby hZ hown (own_w hw 13 rfl) (own_w hw 14 rfl) (notFace_of_selects (args := #[]) (mvT hZ (own_w hw 16 rfl))) (own_w hw 16 rfl) (own_w hw 15 rfl) (own_w hw 6 rfl) (own_w hw 17 rfl) (by decide) (by rw [hml]; rfl) w_TRUE [] [] pd_2 rfl at_29 rfl e146 (W.2.1.ext O0.2) rfl rfl rfl (by decide) (by decide) (by decide) (by decide) ?_
        rintro _ T147 L147 X147 ⟨rfl, N147, e147⟩
        have N147 := Fr.app N146 N147
        show Go p e below _ (T147.setTop (mkF m 32 _ [(.ref w_FALSE)]))
        refine own_iload 34 X147 hx hby at_32 rfl rfl ?_
        refine own_ifY 41 X147 hx hby at_34 (by decide) (by decide) (by decide) ?_
        refine own_iconst 42 (0 : Int32) X147 hx hby at_41 rfl (by decide) ?_
        refine own_callS (W := 1) 45 (rm2_1 l Z a0 hw [] w_TRUE w_FALSE w_UNKNOWN W (0 : Int32) h0 n0 O0 (by decide)) X147 hx hby hZ hown (own_w hw 8 rfl) (own_w hw 9 rfl) (own_w hw 6 rfl) (own_w hw 10 rfl) (by decide) (by rw [hml]; rfl) [(.int (0 : Int32))] [(.ref w_FALSE)] pd_1 rfl at_42 rfl e147 rfl rfl rfl (by decide) (by decide) (by decide) (by decide) ?_
        rintro _ T148 L148 X148 ⟨rfl, N148, e148⟩
        have N148 := Fr.app N147 N148
        show Go p e below _ (T148.setTop (mkF m 45 _ [(.ref w_FALSE), (.ref w_FALSE)]))
        refine own_acmp 48 true X148 hx hby at_45 rfl rfl (by decide) (by decide) (decide_eq_true (congrArg Value.ref rfl)) ?_
        refine own_iconst 49 (1 : Int32) X148 hx hby at_48 rfl (by decide) ?_
        refine own_goto 53 X148 hx hby at_49 (by decide) (by decide) ?_
        refine own_istore 55 #[oI x0, oI x1, oI x2, oA w_FALSE, oA w_FALSE, oI (1 : Int32), oI (1 : Int32), oU, oU] X148 hx hby at_53 rfl rfl ?_
        refine own_aload_n 56 X148 hx hby at_55 rfl rfl rfl ?_
        refine own_virt (W := 0) 59 (rm3_2 l Z a0 hw [] w_TRUE w_FALSE w_UNKNOWN W w_FALSE h0 n0 O0 (Fld.ne W.2.2.2.2.2.2.1 W.2.2.2.2.2.2.2.1 (fun q => absurd (Value.int.inj q) (by decide))) rfl) X148 hx hby hZ hown (own_w hw 13 rfl) (own_w hw 14 rfl) (notFace_of_selects (args := #[]) (mvT hZ (own_w hw 16 rfl))) (own_w hw 16 rfl) (own_w hw 15 rfl) (own_w hw 6 rfl) (own_w hw 17 rfl) (by decide) (by rw [hml]; rfl) w_FALSE [] [] pd_2 rfl at_56 rfl e148 (W.2.2.2.1.ext O0.2) rfl rfl rfl (by decide) (by decide) (by decide) (by decide) ?_
        rintro _ T149 L149 X149 ⟨rfl, N149, e149⟩
        have N149 := Fr.app N148 N149
        show Go p e below _ (T149.setTop (mkF m 59 _ [(.ref w_TRUE)]))
        refine own_virt (W := 0) 62 (rm3_1 l Z a0 hw [] w_TRUE w_FALSE w_UNKNOWN W w_TRUE h0 n0 O0 rfl) X149 hx hby hZ hown (own_w hw 13 rfl) (own_w hw 14 rfl) (notFace_of_selects (args := #[]) (mvT hZ (own_w hw 16 rfl))) (own_w hw 16 rfl) (own_w hw 15 rfl) (own_w hw 6 rfl) (own_w hw 17 rfl) (by decide) (by rw [hml]; rfl) w_TRUE [] [] pd_2 rfl at_59 rfl e149 (W.2.1.ext O0.2) rfl rfl rfl (by decide) (by decide) (by decide) (by decide) ?_
        rintro _ T150 L150 X150 ⟨rfl, N150, e150⟩
        have N150 := Fr.app N149 N150
        show Go p e below _ (T150.setTop (mkF m 62 _ [(.ref w_FALSE)]))
        refine own_aload_n 63 X150 hx hby at_62 rfl rfl rfl ?_
        refine own_acmp 66 true X150 hx hby at_63 rfl rfl (by decide) (by decide) (decide_eq_true (congrArg Value.ref rfl)) ?_
        refine own_iconst 67 (1 : Int32) X150 hx hby at_66 rfl (by decide) ?_
        refine own_goto 71 X150 hx hby at_67 (by decide) (by decide) ?_
        refine own_istore 73 #[oI x0, oI x1, oI x2, oA w_FALSE, oA w_FALSE, oI (1 : Int32), oI (1 : Int32), oI (1 : Int32), oU] X150 hx hby at_71 rfl rfl ?_
        refine own_aload_n 74 X150 hx hby at_73 rfl rfl rfl ?_
        refine own_aload 76 X150 hx hby at_74 rfl rfl rfl ?_
        refine own_virt (W := 0) 79 (rm4_1 l Z a0 hw [] w_TRUE w_FALSE w_UNKNOWN W w_FALSE w_FALSE h0 n0 O0 rfl) X150 hx hby hZ hown (own_w hw 19 rfl) (own_w hw 20 rfl) (notFace_of_selects (args := #[]) (mvT hZ (own_w hw 22 rfl))) (own_w hw 22 rfl) (own_w hw 21 rfl) (own_w hw 6 rfl) (own_w hw 23 rfl) (by decide) (by rw [hml]; rfl) w_FALSE [(.ref w_FALSE)] [] pd_3 rfl at_76 rfl e150 (W.2.2.2.1.ext O0.2) rfl rfl rfl (by decide) (by decide) (by decide) (by decide) ?_
        rintro _ T151 L151 X151 ⟨rfl, N151, e151⟩
        have N151 := Fr.app N150 N151
        show Go p e below _ (T151.setTop (mkF m 79 _ [(.ref w_FALSE)]))
        refine own_virt (W := 0) 82 (rm3_2 l Z a0 hw [] w_TRUE w_FALSE w_UNKNOWN W w_FALSE h0 n0 O0 (Fld.ne W.2.2.2.2.2.2.1 W.2.2.2.2.2.2.2.1 (fun q => absurd (Value.int.inj q) (by decide))) rfl) X151 hx hby hZ hown (own_w hw 13 rfl) (own_w hw 14 rfl) (notFace_of_selects (args := #[]) (mvT hZ (own_w hw 16 rfl))) (own_w hw 16 rfl) (own_w hw 15 rfl) (own_w hw 6 rfl) (own_w hw 17 rfl) (by decide) (by rw [hml]; rfl) w_FALSE [] [] pd_2 rfl at_79 rfl e151 (W.2.2.2.1.ext O0.2) rfl rfl rfl (by decide) (by decide) (by decide) (by decide) ?_
        rintro _ T152 L152 X152 ⟨rfl, N152, e152⟩
        have N152 := Fr.app N151 N152
        show Go p e below _ (T152.setTop (mkF m 82 _ [(.ref w_TRUE)]))
        refine own_aload_n 83 X152 hx hby at_82 rfl rfl rfl ?_
        refine own_virt (W := 1) 86 (rm3_2 l Z a0 hw [] w_TRUE w_FALSE w_UNKNOWN W w_FALSE h0 n0 O0 (Fld.ne W.2.2.2.2.2.2.1 W.2.2.2.2.2.2.2.1 (fun q => absurd (Value.int.inj q) (by decide))) rfl) X152 hx hby hZ hown (own_w hw 13 rfl) (own_w hw 14 rfl) (notFace_of_selects (args := #[]) (mvT hZ (own_w hw 16 rfl))) (own_w hw 16 rfl) (own_w hw 15 rfl) (own_w hw 6 rfl) (own_w hw 17 rfl) (by decide) (by rw [hml]; rfl) w_FALSE [] [(.ref w_TRUE)] pd_2 rfl at_83 rfl e152 (W.2.2.2.1.ext O0.2) rfl rfl rfl (by decide) (by decide) (by decide) (by decide) ?_
        rintro _ T153 L153 X153 ⟨rfl, N153, e153⟩
        have N153 := Fr.app N152 N153
        show Go p e below _ (T153.setTop (mkF m 86 _ [(.ref w_TRUE), (.ref w_TRUE)]))
        refine own_aload 88 X153 hx hby at_86 rfl rfl rfl ?_
        refine own_virt (W := 2) 91 (rm3_2 l Z a0 hw [] w_TRUE w_FALSE w_UNKNOWN W w_FALSE h0 n0 O0 (Fld.ne W.2.2.2.2.2.2.1 W.2.2.2.2.2.2.2.1 (fun q => absurd (Value.int.inj q) (by decide))) rfl) X153 hx hby hZ hown (own_w hw 13 rfl) (own_w hw 14 rfl) (notFace_of_selects (args := #[]) (mvT hZ (own_w hw 16 rfl))) (own_w hw 16 rfl) (own_w hw 15 rfl) (own_w hw 6 rfl) (own_w hw 17 rfl) (by decide) (by rw [hml]; rfl) w_FALSE [] [(.ref w_TRUE), (.ref w_TRUE)] pd_2 rfl at_88 rfl e153 (W.2.2.2.1.ext O0.2) rfl rfl rfl (by decide) (by decide) (by decide) (by decide) ?_
        rintro _ T154 L154 X154 ⟨rfl, N154, e154⟩
        have N154 := Fr.app N153 N154
        show Go p e below _ (T154.setTop (mkF m 91 _ [(.ref w_TRUE), (.ref w_TRUE), (.ref w_TRUE)]))
        refine own_virt (W := 1) 94 (rm5_1 l Z a0 hw [] w_TRUE w_FALSE w_UNKNOWN W w_TRUE w_TRUE h0 n0 O0 rfl) X154 hx hby hZ hown (own_w hw 24 rfl) (own_w hw 25 rfl) (notFace_of_selects (args := #[]) (mvT hZ (own_w hw 27 rfl))) (own_w hw 27 rfl) (own_w hw 26 rfl) (own_w hw 6 rfl) (own_w hw 28 rfl) (by decide) (by rw [hml]; rfl) w_TRUE [(.ref w_TRUE)] [(.ref w_TRUE)] pd_3 rfl at_91 rfl e154 (W.2.1.ext O0.2) rfl rfl rfl (by decide) (by decide) (by decide) (by decide) ?_
        rintro _ T155 L155 X155 ⟨rfl, N155, e155⟩
        have N155 := Fr.app N154 N155
        show Go p e below _ (T155.setTop (mkF m 94 _ [(.ref w_TRUE), (.ref w_TRUE)]))
        refine own_acmp 97 true X155 hx hby at_94 rfl rfl (by decide) (by decide) (decide_eq_true (congrArg Value.ref rfl)) ?_
        refine own_iconst 98 (1 : Int32) X155 hx hby at_97 rfl (by decide) ?_
        refine own_goto 102 X155 hx hby at_98 (by decide) (by decide) ?_
        refine own_istore 104 #[oI x0, oI x1, oI x2, oA w_FALSE, oA w_FALSE, oI (1 : Int32), oI (1 : Int32), oI (1 : Int32), oI (1 : Int32)] X155 hx hby at_102 rfl rfl ?_
        refine own_iload 106 X155 hx hby at_104 rfl rfl ?_
        refine own_ifN 109 X155 hx hby at_106 rfl (by decide) ?_
        refine own_iload 111 X155 hx hby at_109 rfl rfl ?_
        refine own_ifN 114 X155 hx hby at_111 rfl (by decide) ?_
        refine own_iload 116 X155 hx hby at_114 rfl rfl ?_
        refine own_ifN 119 X155 hx hby at_116 rfl (by decide) ?_
        refine own_iconst 120 (1 : Int32) X155 hx hby at_119 rfl (by decide) ?_
        refine own_goto 124 X155 hx hby at_120 (by decide) (by decide) ?_
        exact own_ret (Q := own_Q1 n0) X155 hx hby hret hlk at_124 rfl (Or.inl ⟨rfl, by simp, _, rfl⟩) (by decide) (by decide) ⟨rfl, N155⟩
    · refine own_callS (W := 0) 9 (rm1_3 l Z a0 hw [] w_TRUE w_FALSE w_UNKNOWN W x1 h0 n0 O0 hv111) X110 hx hby hZ hown (own_w hw 0 rfl) (own_w hw 1 rfl) (own_w hw 2 rfl) (own_w hw 3 rfl) (by decide) (by rw [hml]; rfl) [(.int x1)] [] pd_0 rfl at_6 rfl e110 rfl rfl rfl (by decide) (by decide) (by decide) (by decide) ?_
      rintro _ T156 L156 X156 ⟨rfl, N156, e156⟩
      have N156 := Fr.app N110 N156
      show Go p e below _ (T156.setTop (mkF m 9 _ [(.ref w_UNKNOWN)]))
      refine own_astore 11 #[oI x0, oI x1, oI x2, oA w_FALSE, oA w_UNKNOWN, oU, oU, oU, oU] X156 hx hby at_9 rfl rfl rfl ?_
      refine own_iload_n 12 X156 hx hby at_11 rfl rfl ?_
      refine own_iconst 13 (1 : Int32) X156 hx hby at_12 rfl (by decide) ?_
      rcases own_and1 x2 with hv157 | hv157
      · refine own_iand 14 (0 : Int32) X156 hx hby at_13 rfl hv157 ?_
        refine own_ifY 21 X156 hx hby at_14 (by decide) (by decide) (by decide) ?_
        refine own_iconst 22 (0 : Int32) X156 hx hby at_21 rfl (by decide) ?_
        refine own_istore 24 #[oI x0, oI x1, oI x2, oA w_FALSE, oA w_UNKNOWN, oI (0 : Int32), oU, oU, oU] X156 hx hby at_22 rfl rfl ?_
        refine own_iload 26 X156 hx hby at_24 rfl rfl ?_
        refine own_callS (W := 0) 29 (rm2_1 l Z a0 hw [] w_TRUE w_FALSE w_UNKNOWN W (0 : Int32) h0 n0 O0 (by decide)) X156 hx hby hZ hown (own_w hw 8 rfl) (own_w hw 9 rfl) (own_w hw 6 rfl) (own_w hw 10 rfl) (by decide) (by rw [hml]; rfl) [(.int (0 : Int32))] [] pd_1 rfl at_26 rfl e156 rfl rfl rfl (by decide) (by decide) (by decide) (by decide) ?_
        rintro _ T158 L158 X158 ⟨rfl, N158, e158⟩
        have N158 := Fr.app N156 N158
        show Go p e below _ (T158.setTop (mkF m 29 _ [(.ref w_FALSE)]))
        refine own_virt (W := 0) 32 (rm3_2 l Z a0 hw [] w_TRUE w_FALSE w_UNKNOWN W w_FALSE h0 n0 O0 (Fld.ne W.2.2.2.2.2.2.1 W.2.2.2.2.2.2.2.1 (fun q => absurd (Value.int.inj q) (by decide))) rfl) X158 hx hby hZ hown (own_w hw 13 rfl) (own_w hw 14 rfl) (notFace_of_selects (args := #[]) (mvT hZ (own_w hw 16 rfl))) (own_w hw 16 rfl) (own_w hw 15 rfl) (own_w hw 6 rfl) (own_w hw 17 rfl) (by decide) (by rw [hml]; rfl) w_FALSE [] [] pd_2 rfl at_29 rfl e158 (W.2.2.2.1.ext O0.2) rfl rfl rfl (by decide) (by decide) (by decide) (by decide) ?_
        rintro _ T159 L159 X159 ⟨rfl, N159, e159⟩
        have N159 := Fr.app N158 N159
        show Go p e below _ (T159.setTop (mkF m 32 _ [(.ref w_TRUE)]))
        refine own_iload 34 X159 hx hby at_32 rfl rfl ?_
        refine own_ifN 37 X159 hx hby at_34 rfl (by decide) ?_
        refine own_iconst 38 (1 : Int32) X159 hx hby at_37 rfl (by decide) ?_
        refine own_goto 42 X159 hx hby at_38 (by decide) (by decide) ?_
        refine own_callS (W := 1) 45 (rm2_2 l Z a0 hw [] w_TRUE w_FALSE w_UNKNOWN W (1 : Int32) h0 n0 O0 (by decide)) X159 hx hby hZ hown (own_w hw 8 rfl) (own_w hw 9 rfl) (own_w hw 6 rfl) (own_w hw 10 rfl) (by decide) (by rw [hml]; rfl) [(.int (1 : Int32))] [(.ref w_TRUE)] pd_1 rfl at_42 rfl e159 rfl rfl rfl (by decide) (by decide) (by decide) (by decide) ?_
        rintro _ T160 L160 X160 ⟨rfl, N160, e160⟩
        have N160 := Fr.app N159 N160
        show Go p e below _ (T160.setTop (mkF m 45 _ [(.ref w_TRUE), (.ref w_TRUE)]))
        refine own_acmp 48 true X160 hx hby at_45 rfl rfl (by decide) (by decide) (decide_eq_true (congrArg Value.ref rfl)) ?_
        refine own_iconst 49 (1 : Int32) X160 hx hby at_48 rfl (by decide) ?_
        refine own_goto 53 X160 hx hby at_49 (by decide) (by decide) ?_
        refine own_istore 55 #[oI x0, oI x1, oI x2, oA w_FALSE, oA w_UNKNOWN, oI (0 : Int32), oI (1 : Int32), oU, oU] X160 hx hby at_53 rfl rfl ?_
        refine own_aload_n 56 X160 hx hby at_55 rfl rfl rfl ?_
        refine own_virt (W := 0) 59 (rm3_2 l Z a0 hw [] w_TRUE w_FALSE w_UNKNOWN W w_FALSE h0 n0 O0 (Fld.ne W.2.2.2.2.2.2.1 W.2.2.2.2.2.2.2.1 (fun q => absurd (Value.int.inj q) (by decide))) rfl) X160 hx hby hZ hown (own_w hw 13 rfl) (own_w hw 14 rfl) (notFace_of_selects (args := #[]) (mvT hZ (own_w hw 16 rfl))) (own_w hw 16 rfl) (own_w hw 15 rfl) (own_w hw 6 rfl) (own_w hw 17 rfl) (by decide) (by rw [hml]; rfl) w_FALSE [] [] pd_2 rfl at_56 rfl e160 (W.2.2.2.1.ext O0.2) rfl rfl rfl (by decide) (by decide) (by decide) (by decide) ?_
        rintro _ T161 L161 X161 ⟨rfl, N161, e161⟩
        have N161 := Fr.app N160 N161
        show Go p e below _ (T161.setTop (mkF m 59 _ [(.ref w_TRUE)]))
        refine own_virt (W := 0) 62 (rm3_1 l Z a0 hw [] w_TRUE w_FALSE w_UNKNOWN W w_TRUE h0 n0 O0 rfl) X161 hx hby hZ hown (own_w hw 13 rfl) (own_w hw 14 rfl) (notFace_of_selects (args := #[]) (mvT hZ (own_w hw 16 rfl))) (own_w hw 16 rfl) (own_w hw 15 rfl) (own_w hw 6 rfl) (own_w hw 17 rfl) (by decide) (by rw [hml]; rfl) w_TRUE [] [] pd_2 rfl at_59 rfl e161 (W.2.1.ext O0.2) rfl rfl rfl (by decide) (by decide) (by decide) (by decide) ?_
        rintro _ T162 L162 X162 ⟨rfl, N162, e162⟩
        have N162 := Fr.app N161 N162
        show Go p e below _ (T162.setTop (mkF m 62 _ [(.ref w_FALSE)]))
        refine own_aload_n 63 X162 hx hby at_62 rfl rfl rfl ?_
        refine own_acmp 66 true X162 hx hby at_63 rfl rfl (by decide) (by decide) (decide_eq_true (congrArg Value.ref rfl)) ?_
        refine own_iconst 67 (1 : Int32) X162 hx hby at_66 rfl (by decide) ?_
        refine own_goto 71 X162 hx hby at_67 (by decide) (by decide) ?_
        refine own_istore 73 #[oI x0, oI x1, oI x2, oA w_FALSE, oA w_UNKNOWN, oI (0 : Int32), oI (1 : Int32), oI (1 : Int32), oU] X162 hx hby at_71 rfl rfl ?_
        refine own_aload_n 74 X162 hx hby at_73 rfl rfl rfl ?_
        refine own_aload 76 X162 hx hby at_74 rfl rfl rfl ?_
        refine own_virt (W := 0) 79 (rm4_1 l Z a0 hw [] w_TRUE w_FALSE w_UNKNOWN W w_FALSE w_UNKNOWN h0 n0 O0 rfl) X162 hx hby hZ hown (own_w hw 19 rfl) (own_w hw 20 rfl) (notFace_of_selects (args := #[]) (mvT hZ (own_w hw 22 rfl))) (own_w hw 22 rfl) (own_w hw 21 rfl) (own_w hw 6 rfl) (own_w hw 23 rfl) (by decide) (by rw [hml]; rfl) w_FALSE [(.ref w_UNKNOWN)] [] pd_3 rfl at_76 rfl e162 (W.2.2.2.1.ext O0.2) rfl rfl rfl (by decide) (by decide) (by decide) (by decide) ?_
        rintro _ T163 L163 X163 ⟨rfl, N163, e163⟩
        have N163 := Fr.app N162 N163
        show Go p e below _ (T163.setTop (mkF m 79 _ [(.ref w_FALSE)]))
        refine own_virt (W := 0) 82 (rm3_2 l Z a0 hw [] w_TRUE w_FALSE w_UNKNOWN W w_FALSE h0 n0 O0 (Fld.ne W.2.2.2.2.2.2.1 W.2.2.2.2.2.2.2.1 (fun q => absurd (Value.int.inj q) (by decide))) rfl) X163 hx hby hZ hown (own_w hw 13 rfl) (own_w hw 14 rfl) (notFace_of_selects (args := #[]) (mvT hZ (own_w hw 16 rfl))) (own_w hw 16 rfl) (own_w hw 15 rfl) (own_w hw 6 rfl) (own_w hw 17 rfl) (by decide) (by rw [hml]; rfl) w_FALSE [] [] pd_2 rfl at_79 rfl e163 (W.2.2.2.1.ext O0.2) rfl rfl rfl (by decide) (by decide) (by decide) (by decide) ?_
        rintro _ T164 L164 X164 ⟨rfl, N164, e164⟩
        have N164 := Fr.app N163 N164
        show Go p e below _ (T164.setTop (mkF m 82 _ [(.ref w_TRUE)]))
        refine own_aload_n 83 X164 hx hby at_82 rfl rfl rfl ?_
        refine own_virt (W := 1) 86 (rm3_2 l Z a0 hw [] w_TRUE w_FALSE w_UNKNOWN W w_FALSE h0 n0 O0 (Fld.ne W.2.2.2.2.2.2.1 W.2.2.2.2.2.2.2.1 (fun q => absurd (Value.int.inj q) (by decide))) rfl) X164 hx hby hZ hown (own_w hw 13 rfl) (own_w hw 14 rfl) (notFace_of_selects (args := #[]) (mvT hZ (own_w hw 16 rfl))) (own_w hw 16 rfl) (own_w hw 15 rfl) (own_w hw 6 rfl) (own_w hw 17 rfl) (by decide) (by rw [hml]; rfl) w_FALSE [] [(.ref w_TRUE)] pd_2 rfl at_83 rfl e164 (W.2.2.2.1.ext O0.2) rfl rfl rfl (by decide) (by decide) (by decide) (by decide) ?_
        rintro _ T165 L165 X165 ⟨rfl, N165, e165⟩
        have N165 := Fr.app N164 N165
        show Go p e below _ (T165.setTop (mkF m 86 _ [(.ref w_TRUE), (.ref w_TRUE)]))
        refine own_aload 88 X165 hx hby at_86 rfl rfl rfl ?_
        refine own_virt (W := 2) 91 (rm3_3 l Z a0 hw [] w_TRUE w_FALSE w_UNKNOWN W w_UNKNOWN h0 n0 O0 (Fld.ne W.2.2.2.2.2.2.2.2 W.2.2.2.2.2.2.2.1 (fun q => absurd (Value.int.inj q) (by decide))) (Fld.ne W.2.2.2.2.2.2.2.2 W.2.2.2.2.2.2.1 (fun q => absurd (Value.int.inj q) (by decide)))) X165 hx hby hZ hown (own_w hw 13 rfl) (own_w hw 14 rfl) (notFace_of_selects (args := #[]) (mvT hZ (own_w hw 16 rfl))) (own_w hw 16 rfl) (own_w hw 15 rfl) (own_w hw 6 rfl) (own_w hw 17 rfl) (by decide) (by rw [hml]; rfl) w_UNKNOWN [] [(.ref w_TRUE), (.ref w_TRUE)] pd_2 rfl at_88 rfl e165 (W.2.2.2.2.2.1.ext O0.2) rfl rfl rfl (by decide) (by decide) (by decide) (by decide) ?_
        rintro _ T166 L166 X166 ⟨rfl, N166, e166⟩
        have N166 := Fr.app N165 N166
        show Go p e below _ (T166.setTop (mkF m 91 _ [(.ref w_UNKNOWN), (.ref w_TRUE), (.ref w_TRUE)]))
        refine own_virt (W := 1) 94 (rm5_1 l Z a0 hw [] w_TRUE w_FALSE w_UNKNOWN W w_TRUE w_UNKNOWN h0 n0 O0 rfl) X166 hx hby hZ hown (own_w hw 24 rfl) (own_w hw 25 rfl) (notFace_of_selects (args := #[]) (mvT hZ (own_w hw 27 rfl))) (own_w hw 27 rfl) (own_w hw 26 rfl) (own_w hw 6 rfl) (own_w hw 28 rfl) (by decide) (by rw [hml]; rfl) w_TRUE [(.ref w_UNKNOWN)] [(.ref w_TRUE)] pd_3 rfl at_91 rfl e166 (W.2.1.ext O0.2) rfl rfl rfl (by decide) (by decide) (by decide) (by decide) ?_
        rintro _ T167 L167 X167 ⟨rfl, N167, e167⟩
        have N167 := Fr.app N166 N167
        show Go p e below _ (T167.setTop (mkF m 94 _ [(.ref w_TRUE), (.ref w_TRUE)]))
        refine own_acmp 97 true X167 hx hby at_94 rfl rfl (by decide) (by decide) (decide_eq_true (congrArg Value.ref rfl)) ?_
        refine own_iconst 98 (1 : Int32) X167 hx hby at_97 rfl (by decide) ?_
        refine own_goto 102 X167 hx hby at_98 (by decide) (by decide) ?_
        refine own_istore 104 #[oI x0, oI x1, oI x2, oA w_FALSE, oA w_UNKNOWN, oI (0 : Int32), oI (1 : Int32), oI (1 : Int32), oI (1 : Int32)] X167 hx hby at_102 rfl rfl ?_
        refine own_iload 106 X167 hx hby at_104 rfl rfl ?_
        refine own_ifN 109 X167 hx hby at_106 rfl (by decide) ?_
        refine own_iload 111 X167 hx hby at_109 rfl rfl ?_
        refine own_ifN 114 X167 hx hby at_111 rfl (by decide) ?_
        refine own_iload 116 X167 hx hby at_114 rfl rfl ?_
        refine own_ifN 119 X167 hx hby at_116 rfl (by decide) ?_
        refine own_iconst 120 (1 : Int32) X167 hx hby at_119 rfl (by decide) ?_
        refine own_goto 124 X167 hx hby at_120 (by decide) (by decide) ?_
        exact own_ret (Q := own_Q1 n0) X167 hx hby hret hlk at_124 rfl (Or.inl ⟨rfl, by simp, _, rfl⟩) (by decide) (by decide) ⟨rfl, N167⟩
      · refine own_iand 14 (1 : Int32) X156 hx hby at_13 rfl hv157 ?_
        refine own_ifN 17 X156 hx hby at_14 rfl (by decide) ?_
        refine own_iconst 18 (1 : Int32) X156 hx hby at_17 rfl (by decide) ?_
        refine own_goto 22 X156 hx hby at_18 (by decide) (by decide) ?_
        refine own_istore 24 #[oI x0, oI x1, oI x2, oA w_FALSE, oA w_UNKNOWN, oI (1 : Int32), oU, oU, oU] X156 hx hby at_22 rfl rfl ?_
        refine own_iload 26 X156 hx hby at_24 rfl rfl ?_
        refine own_callS (W := 0) 29 (rm2_2 l Z a0 hw [] w_TRUE w_FALSE w_UNKNOWN W (1 : Int32) h0 n0 O0 (by decide)) X156 hx hby hZ hown (own_w hw 8 rfl) (own_w hw 9 rfl) (own_w hw 6 rfl) (own_w hw 10 rfl) (by decide) (by rw [hml]; rfl) [(.int (1 : Int32))] [] pd_1 rfl at_26 rfl e156 rfl rfl rfl (by decide) (by decide) (by decide) (by decide) ?_
        rintro _ T168 L168 X168 ⟨rfl, N168, e168⟩
        have N168 := Fr.app N156 N168
        show Go p e below _ (T168.setTop (mkF m 29 _ [(.ref w_TRUE)]))
        refine own_virt (W := 0) 32 (rm3_1 l Z a0 hw [] w_TRUE w_FALSE w_UNKNOWN W w_TRUE h0 n0 O0 rfl) X168 hx hby hZ hown (own_w hw 13 rfl) (own_w hw 14 rfl) (notFace_of_selects (args := #[]) (mvT hZ (own_w hw 16 rfl))) (own_w hw 16 rfl) (own_w hw 15 rfl) (own_w hw 6 rfl) (own_w hw 17 rfl) (by decide) (by rw [hml]; rfl) w_TRUE [] [] pd_2 rfl at_29 rfl e168 (W.2.1.ext O0.2) rfl rfl rfl (by decide) (by decide) (by decide) (by decide) ?_
        rintro _ T169 L169 X169 ⟨rfl, N169, e169⟩
        have N169 := Fr.app N168 N169
        show Go p e below _ (T169.setTop (mkF m 32 _ [(.ref w_FALSE)]))
        refine own_iload 34 X169 hx hby at_32 rfl rfl ?_
        refine own_ifY 41 X169 hx hby at_34 (by decide) (by decide) (by decide) ?_
        refine own_iconst 42 (0 : Int32) X169 hx hby at_41 rfl (by decide) ?_
        refine own_callS (W := 1) 45 (rm2_1 l Z a0 hw [] w_TRUE w_FALSE w_UNKNOWN W (0 : Int32) h0 n0 O0 (by decide)) X169 hx hby hZ hown (own_w hw 8 rfl) (own_w hw 9 rfl) (own_w hw 6 rfl) (own_w hw 10 rfl) (by decide) (by rw [hml]; rfl) [(.int (0 : Int32))] [(.ref w_FALSE)] pd_1 rfl at_42 rfl e169 rfl rfl rfl (by decide) (by decide) (by decide) (by decide) ?_
        rintro _ T170 L170 X170 ⟨rfl, N170, e170⟩
        have N170 := Fr.app N169 N170
        show Go p e below _ (T170.setTop (mkF m 45 _ [(.ref w_FALSE), (.ref w_FALSE)]))
        refine own_acmp 48 true X170 hx hby at_45 rfl rfl (by decide) (by decide) (decide_eq_true (congrArg Value.ref rfl)) ?_
        refine own_iconst 49 (1 : Int32) X170 hx hby at_48 rfl (by decide) ?_
        refine own_goto 53 X170 hx hby at_49 (by decide) (by decide) ?_
        refine own_istore 55 #[oI x0, oI x1, oI x2, oA w_FALSE, oA w_UNKNOWN, oI (1 : Int32), oI (1 : Int32), oU, oU] X170 hx hby at_53 rfl rfl ?_
        refine own_aload_n 56 X170 hx hby at_55 rfl rfl rfl ?_
        refine own_virt (W := 0) 59 (rm3_2 l Z a0 hw [] w_TRUE w_FALSE w_UNKNOWN W w_FALSE h0 n0 O0 (Fld.ne W.2.2.2.2.2.2.1 W.2.2.2.2.2.2.2.1 (fun q => absurd (Value.int.inj q) (by decide))) rfl) X170 hx hby hZ hown (own_w hw 13 rfl) (own_w hw 14 rfl) (notFace_of_selects (args := #[]) (mvT hZ (own_w hw 16 rfl))) (own_w hw 16 rfl) (own_w hw 15 rfl) (own_w hw 6 rfl) (own_w hw 17 rfl) (by decide) (by rw [hml]; rfl) w_FALSE [] [] pd_2 rfl at_56 rfl e170 (W.2.2.2.1.ext O0.2) rfl rfl rfl (by decide) (by decide) (by decide) (by decide) ?_
        rintro _ T171 L171 X171 ⟨rfl, N171, e171⟩
        have N171 := Fr.app N170 N171
        show Go p e below _ (T171.setTop (mkF m 59 _ [(.ref w_TRUE)]))
        refine own_virt (W := 0) 62 (rm3_1 l Z a0 hw [] w_TRUE w_FALSE w_UNKNOWN W w_TRUE h0 n0 O0 rfl) X171 hx hby hZ hown (own_w hw 13 rfl) (own_w hw 14 rfl) (notFace_of_selects (args := #[]) (mvT hZ (own_w hw 16 rfl))) (own_w hw 16 rfl) (own_w hw 15 rfl) (own_w hw 6 rfl) (own_w hw 17 rfl) (by decide) (by rw [hml]; rfl) w_TRUE [] [] pd_2 rfl at_59 rfl e171 (W.2.1.ext O0.2) rfl rfl rfl (by decide) (by decide) (by decide) (by decide) ?_
        rintro _ T172 L172 X172 ⟨rfl, N172, e172⟩
        have N172 := Fr.app N171 N172
        show Go p e below _ (T172.setTop (mkF m 62 _ [(.ref w_FALSE)]))
        refine own_aload_n 63 X172 hx hby at_62 rfl rfl rfl ?_
        refine own_acmp 66 true X172 hx hby at_63 rfl rfl (by decide) (by decide) (decide_eq_true (congrArg Value.ref rfl)) ?_
        refine own_iconst 67 (1 : Int32) X172 hx hby at_66 rfl (by decide) ?_
        refine own_goto 71 X172 hx hby at_67 (by decide) (by decide) ?_
        refine own_istore 73 #[oI x0, oI x1, oI x2, oA w_FALSE, oA w_UNKNOWN, oI (1 : Int32), oI (1 : Int32), oI (1 : Int32), oU] X172 hx hby at_71 rfl rfl ?_
        refine own_aload_n 74 X172 hx hby at_73 rfl rfl rfl ?_
        refine own_aload 76 X172 hx hby at_74 rfl rfl rfl ?_
        refine own_virt (W := 0) 79 (rm4_1 l Z a0 hw [] w_TRUE w_FALSE w_UNKNOWN W w_FALSE w_UNKNOWN h0 n0 O0 rfl) X172 hx hby hZ hown (own_w hw 19 rfl) (own_w hw 20 rfl) (notFace_of_selects (args := #[]) (mvT hZ (own_w hw 22 rfl))) (own_w hw 22 rfl) (own_w hw 21 rfl) (own_w hw 6 rfl) (own_w hw 23 rfl) (by decide) (by rw [hml]; rfl) w_FALSE [(.ref w_UNKNOWN)] [] pd_3 rfl at_76 rfl e172 (W.2.2.2.1.ext O0.2) rfl rfl rfl (by decide) (by decide) (by decide) (by decide) ?_
        rintro _ T173 L173 X173 ⟨rfl, N173, e173⟩
        have N173 := Fr.app N172 N173
        show Go p e below _ (T173.setTop (mkF m 79 _ [(.ref w_FALSE)]))
        refine own_virt (W := 0) 82 (rm3_2 l Z a0 hw [] w_TRUE w_FALSE w_UNKNOWN W w_FALSE h0 n0 O0 (Fld.ne W.2.2.2.2.2.2.1 W.2.2.2.2.2.2.2.1 (fun q => absurd (Value.int.inj q) (by decide))) rfl) X173 hx hby hZ hown (own_w hw 13 rfl) (own_w hw 14 rfl) (notFace_of_selects (args := #[]) (mvT hZ (own_w hw 16 rfl))) (own_w hw 16 rfl) (own_w hw 15 rfl) (own_w hw 6 rfl) (own_w hw 17 rfl) (by decide) (by rw [hml]; rfl) w_FALSE [] [] pd_2 rfl at_79 rfl e173 (W.2.2.2.1.ext O0.2) rfl rfl rfl (by decide) (by decide) (by decide) (by decide) ?_
        rintro _ T174 L174 X174 ⟨rfl, N174, e174⟩
        have N174 := Fr.app N173 N174
        show Go p e below _ (T174.setTop (mkF m 82 _ [(.ref w_TRUE)]))
        refine own_aload_n 83 X174 hx hby at_82 rfl rfl rfl ?_
        refine own_virt (W := 1) 86 (rm3_2 l Z a0 hw [] w_TRUE w_FALSE w_UNKNOWN W w_FALSE h0 n0 O0 (Fld.ne W.2.2.2.2.2.2.1 W.2.2.2.2.2.2.2.1 (fun q => absurd (Value.int.inj q) (by decide))) rfl) X174 hx hby hZ hown (own_w hw 13 rfl) (own_w hw 14 rfl) (notFace_of_selects (args := #[]) (mvT hZ (own_w hw 16 rfl))) (own_w hw 16 rfl) (own_w hw 15 rfl) (own_w hw 6 rfl) (own_w hw 17 rfl) (by decide) (by rw [hml]; rfl) w_FALSE [] [(.ref w_TRUE)] pd_2 rfl at_83 rfl e174 (W.2.2.2.1.ext O0.2) rfl rfl rfl (by decide) (by decide) (by decide) (by decide) ?_
        rintro _ T175 L175 X175 ⟨rfl, N175, e175⟩
        have N175 := Fr.app N174 N175
        show Go p e below _ (T175.setTop (mkF m 86 _ [(.ref w_TRUE), (.ref w_TRUE)]))
        refine own_aload 88 X175 hx hby at_86 rfl rfl rfl ?_
        refine own_virt (W := 2) 91 (rm3_3 l Z a0 hw [] w_TRUE w_FALSE w_UNKNOWN W w_UNKNOWN h0 n0 O0 (Fld.ne W.2.2.2.2.2.2.2.2 W.2.2.2.2.2.2.2.1 (fun q => absurd (Value.int.inj q) (by decide))) (Fld.ne W.2.2.2.2.2.2.2.2 W.2.2.2.2.2.2.1 (fun q => absurd (Value.int.inj q) (by decide)))) X175 hx hby hZ hown (own_w hw 13 rfl) (own_w hw 14 rfl) (notFace_of_selects (args := #[]) (mvT hZ (own_w hw 16 rfl))) (own_w hw 16 rfl) (own_w hw 15 rfl) (own_w hw 6 rfl) (own_w hw 17 rfl) (by decide) (by rw [hml]; rfl) w_UNKNOWN [] [(.ref w_TRUE), (.ref w_TRUE)] pd_2 rfl at_88 rfl e175 (W.2.2.2.2.2.1.ext O0.2) rfl rfl rfl (by decide) (by decide) (by decide) (by decide) ?_
        rintro _ T176 L176 X176 ⟨rfl, N176, e176⟩
        have N176 := Fr.app N175 N176
        show Go p e below _ (T176.setTop (mkF m 91 _ [(.ref w_UNKNOWN), (.ref w_TRUE), (.ref w_TRUE)]))
        refine own_virt (W := 1) 94 (rm5_1 l Z a0 hw [] w_TRUE w_FALSE w_UNKNOWN W w_TRUE w_UNKNOWN h0 n0 O0 rfl) X176 hx hby hZ hown (own_w hw 24 rfl) (own_w hw 25 rfl) (notFace_of_selects (args := #[]) (mvT hZ (own_w hw 27 rfl))) (own_w hw 27 rfl) (own_w hw 26 rfl) (own_w hw 6 rfl) (own_w hw 28 rfl) (by decide) (by rw [hml]; rfl) w_TRUE [(.ref w_UNKNOWN)] [(.ref w_TRUE)] pd_3 rfl at_91 rfl e176 (W.2.1.ext O0.2) rfl rfl rfl (by decide) (by decide) (by decide) (by decide) ?_
        rintro _ T177 L177 X177 ⟨rfl, N177, e177⟩
        have N177 := Fr.app N176 N177
        show Go p e below _ (T177.setTop (mkF m 94 _ [(.ref w_TRUE), (.ref w_TRUE)]))
        refine own_acmp 97 true X177 hx hby at_94 rfl rfl (by decide) (by decide) (decide_eq_true (congrArg Value.ref rfl)) ?_
        refine own_iconst 98 (1 : Int32) X177 hx hby at_97 rfl (by decide) ?_
        refine own_goto 102 X177 hx hby at_98 (by decide) (by decide) ?_
        refine own_istore 104 #[oI x0, oI x1, oI x2, oA w_FALSE, oA w_UNKNOWN, oI (1 : Int32), oI (1 : Int32), oI (1 : Int32), oI (1 : Int32)] X177 hx hby at_102 rfl rfl ?_
        refine own_iload 106 X177 hx hby at_104 rfl rfl ?_
        refine own_ifN 109 X177 hx hby at_106 rfl (by decide) ?_
        refine own_iload 111 X177 hx hby at_109 rfl rfl ?_
        refine own_ifN 114 X177 hx hby at_111 rfl (by decide) ?_
        refine own_iload 116 X177 hx hby at_114 rfl rfl ?_
        refine own_ifN 119 X177 hx hby at_116 rfl (by decide) ?_
        refine own_iconst 120 (1 : Int32) X177 hx hby at_119 rfl (by decide) ?_
        refine own_goto 124 X177 hx hby at_120 (by decide) (by decide) ?_
        exact own_ret (Q := own_Q1 n0) X177 hx hby hret hlk at_124 rfl (Or.inl ⟨rfl, by simp, _, rfl⟩) (by decide) (by decide) ⟨rfl, N177⟩
  · refine own_callS (W := 0) 4 (rm1_3 l Z a0 hw [] w_TRUE w_FALSE w_UNKNOWN W x0 h0 n0 O0 hv5) X0 hx hby hZ hown (own_w hw 0 rfl) (own_w hw 1 rfl) (own_w hw 2 rfl) (own_w hw 3 rfl) (by decide) (by rw [hml]; rfl) [(.int x0)] [] pd_0 rfl at_1 rfl e0 rfl rfl rfl (by decide) (by decide) (by decide) (by decide) ?_
    rintro _ T178 L178 X178 ⟨rfl, N178, e178⟩
    have N178 := Fr.app N0 N178
    show Go p e below _ (T178.setTop (mkF m 4 _ [(.ref w_UNKNOWN)]))
    refine own_astore_n 5 #[oI x0, oI x1, oI x2, oA w_UNKNOWN, oU, oU, oU, oU, oU] X178 hx hby at_4 rfl rfl rfl ?_
    refine own_iload_n 6 X178 hx hby at_5 rfl rfl ?_
    rcases own_mod3 x1 with hv179 | hv179 | hv179
    · refine own_callS (W := 0) 9 (rm1_1 l Z a0 hw [] w_TRUE w_FALSE w_UNKNOWN W x1 h0 n0 O0 hv179) X178 hx hby hZ hown (own_w hw 0 rfl) (own_w hw 1 rfl) (own_w hw 2 rfl) (own_w hw 3 rfl) (by decide) (by rw [hml]; rfl) [(.int x1)] [] pd_0 rfl at_6 rfl e178 rfl rfl rfl (by decide) (by decide) (by decide) (by decide) ?_
      rintro _ T180 L180 X180 ⟨rfl, N180, e180⟩
      have N180 := Fr.app N178 N180
      show Go p e below _ (T180.setTop (mkF m 9 _ [(.ref w_TRUE)]))
      refine own_astore 11 #[oI x0, oI x1, oI x2, oA w_UNKNOWN, oA w_TRUE, oU, oU, oU, oU] X180 hx hby at_9 rfl rfl rfl ?_
      refine own_iload_n 12 X180 hx hby at_11 rfl rfl ?_
      refine own_iconst 13 (1 : Int32) X180 hx hby at_12 rfl (by decide) ?_
      rcases own_and1 x2 with hv181 | hv181
      · refine own_iand 14 (0 : Int32) X180 hx hby at_13 rfl hv181 ?_
        refine own_ifY 21 X180 hx hby at_14 (by decide) (by decide) (by decide) ?_
        refine own_iconst 22 (0 : Int32) X180 hx hby at_21 rfl (by decide) ?_
        refine own_istore 24 #[oI x0, oI x1, oI x2, oA w_UNKNOWN, oA w_TRUE, oI (0 : Int32), oU, oU, oU] X180 hx hby at_22 rfl rfl ?_
        refine own_iload 26 X180 hx hby at_24 rfl rfl ?_
        refine own_callS (W := 0) 29 (rm2_1 l Z a0 hw [] w_TRUE w_FALSE w_UNKNOWN W (0 : Int32) h0 n0 O0 (by decide)) X180 hx hby hZ hown (own_w hw 8 rfl) (own_w hw 9 rfl) (own_w hw 6 rfl) (own_w hw 10 rfl) (by decide) (by rw [hml]; rfl) [(.int (0 : Int32))] [] pd_1 rfl at_26 rfl e180 rfl rfl rfl (by decide) (by decide) (by decide) (by decide) ?_
        rintro _ T182 L182 X182 ⟨rfl, N182, e182⟩
        have N182 := Fr.app N180 N182
        show Go p e below _ (T182.setTop (mkF m 29 _ [(.ref w_FALSE)]))
        refine own_virt (W := 0) 32 (rm3_2 l Z a0 hw [] w_TRUE w_FALSE w_UNKNOWN W w_FALSE h0 n0 O0 (Fld.ne W.2.2.2.2.2.2.1 W.2.2.2.2.2.2.2.1 (fun q => absurd (Value.int.inj q) (by decide))) rfl) X182 hx hby hZ hown (own_w hw 13 rfl) (own_w hw 14 rfl) (notFace_of_selects (args := #[]) (mvT hZ (own_w hw 16 rfl))) (own_w hw 16 rfl) (own_w hw 15 rfl) (own_w hw 6 rfl) (own_w hw 17 rfl) (by decide) (by rw [hml]; rfl) w_FALSE [] [] pd_2 rfl at_29 rfl e182 (W.2.2.2.1.ext O0.2) rfl rfl rfl (by decide) (by decide) (by decide) (by decide) ?_
        rintro _ T183 L183 X183 ⟨rfl, N183, e183⟩
        have N183 := Fr.app N182 N183
        show Go p e below _ (T183.setTop (mkF m 32 _ [(.ref w_TRUE)]))
        refine own_iload 34 X183 hx hby at_32 rfl rfl ?_
        refine own_ifN 37 X183 hx hby at_34 rfl (by decide) ?_
        refine own_iconst 38 (1 : Int32) X183 hx hby at_37 rfl (by decide) ?_
        refine own_goto 42 X183 hx hby at_38 (by decide) (by decide) ?_
        refine own_callS (W := 1) 45 (rm2_2 l Z a0 hw [] w_TRUE w_FALSE w_UNKNOWN W (1 : Int32) h0 n0 O0 (by decide)) X183 hx hby hZ hown (own_w hw 8 rfl) (own_w hw 9 rfl) (own_w hw 6 rfl) (own_w hw 10 rfl) (by decide) (by rw [hml]; rfl) [(.int (1 : Int32))] [(.ref w_TRUE)] pd_1 rfl at_42 rfl e183 rfl rfl rfl (by decide) (by decide) (by decide) (by decide) ?_
        rintro _ T184 L184 X184 ⟨rfl, N184, e184⟩
        have N184 := Fr.app N183 N184
        show Go p e below _ (T184.setTop (mkF m 45 _ [(.ref w_TRUE), (.ref w_TRUE)]))
        refine own_acmp 48 true X184 hx hby at_45 rfl rfl (by decide) (by decide) (decide_eq_true (congrArg Value.ref rfl)) ?_
        refine own_iconst 49 (1 : Int32) X184 hx hby at_48 rfl (by decide) ?_
        refine own_goto 53 X184 hx hby at_49 (by decide) (by decide) ?_
        refine own_istore 55 #[oI x0, oI x1, oI x2, oA w_UNKNOWN, oA w_TRUE, oI (0 : Int32), oI (1 : Int32), oU, oU] X184 hx hby at_53 rfl rfl ?_
        refine own_aload_n 56 X184 hx hby at_55 rfl rfl rfl ?_
        refine own_virt (W := 0) 59 (rm3_3 l Z a0 hw [] w_TRUE w_FALSE w_UNKNOWN W w_UNKNOWN h0 n0 O0 (Fld.ne W.2.2.2.2.2.2.2.2 W.2.2.2.2.2.2.2.1 (fun q => absurd (Value.int.inj q) (by decide))) (Fld.ne W.2.2.2.2.2.2.2.2 W.2.2.2.2.2.2.1 (fun q => absurd (Value.int.inj q) (by decide)))) X184 hx hby hZ hown (own_w hw 13 rfl) (own_w hw 14 rfl) (notFace_of_selects (args := #[]) (mvT hZ (own_w hw 16 rfl))) (own_w hw 16 rfl) (own_w hw 15 rfl) (own_w hw 6 rfl) (own_w hw 17 rfl) (by decide) (by rw [hml]; rfl) w_UNKNOWN [] [] pd_2 rfl at_56 rfl e184 (W.2.2.2.2.2.1.ext O0.2) rfl rfl rfl (by decide) (by decide) (by decide) (by decide) ?_
        rintro _ T185 L185 X185 ⟨rfl, N185, e185⟩
        have N185 := Fr.app N184 N185
        show Go p e below _ (T185.setTop (mkF m 59 _ [(.ref w_UNKNOWN)]))
        refine own_virt (W := 0) 62 (rm3_3 l Z a0 hw [] w_TRUE w_FALSE w_UNKNOWN W w_UNKNOWN h0 n0 O0 (Fld.ne W.2.2.2.2.2.2.2.2 W.2.2.2.2.2.2.2.1 (fun q => absurd (Value.int.inj q) (by decide))) (Fld.ne W.2.2.2.2.2.2.2.2 W.2.2.2.2.2.2.1 (fun q => absurd (Value.int.inj q) (by decide)))) X185 hx hby hZ hown (own_w hw 13 rfl) (own_w hw 14 rfl) (notFace_of_selects (args := #[]) (mvT hZ (own_w hw 16 rfl))) (own_w hw 16 rfl) (own_w hw 15 rfl) (own_w hw 6 rfl) (own_w hw 17 rfl) (by decide) (by rw [hml]; rfl) w_UNKNOWN [] [] pd_2 rfl at_59 rfl e185 (W.2.2.2.2.2.1.ext O0.2) rfl rfl rfl (by decide) (by decide) (by decide) (by decide) ?_
        rintro _ T186 L186 X186 ⟨rfl, N186, e186⟩
        have N186 := Fr.app N185 N186
        show Go p e below _ (T186.setTop (mkF m 62 _ [(.ref w_UNKNOWN)]))
        refine own_aload_n 63 X186 hx hby at_62 rfl rfl rfl ?_
        refine own_acmp 66 true X186 hx hby at_63 rfl rfl (by decide) (by decide) (decide_eq_true (congrArg Value.ref rfl)) ?_
        refine own_iconst 67 (1 : Int32) X186 hx hby at_66 rfl (by decide) ?_
        refine own_goto 71 X186 hx hby at_67 (by decide) (by decide) ?_
        refine own_istore 73 #[oI x0, oI x1, oI x2, oA w_UNKNOWN, oA w_TRUE, oI (0 : Int32), oI (1 : Int32), oI (1 : Int32), oU] X186 hx hby at_71 rfl rfl ?_
        refine own_aload_n 74 X186 hx hby at_73 rfl rfl rfl ?_
        refine own_aload 76 X186 hx hby at_74 rfl rfl rfl ?_
        refine own_virt (W := 0) 79 (rm4_5 l Z a0 hw [] w_TRUE w_FALSE w_UNKNOWN W w_UNKNOWN w_TRUE h0 n0 O0 (Fld.ne W.2.2.2.2.2.2.2.2 W.2.2.2.2.2.2.1 (fun q => absurd (Value.int.inj q) (by decide))) (Fld.ne W.2.2.2.2.2.2.2.1 W.2.2.2.2.2.2.1 (fun q => absurd (Value.int.inj q) (by decide))) (Fld.ne W.2.2.2.2.2.2.2.2 W.2.2.2.2.2.2.2.1 (fun q => absurd (Value.int.inj q) (by decide)))) X186 hx hby hZ hown (own_w hw 19 rfl) (own_w hw 20 rfl) (notFace_of_selects (args := #[]) (mvT hZ (own_w hw 22 rfl))) (own_w hw 22 rfl) (own_w hw 21 rfl) (own_w hw 6 rfl) (own_w hw 23 rfl) (by decide) (by rw [hml]; rfl) w_UNKNOWN [(.ref w_TRUE)] [] pd_3 rfl at_76 rfl e186 (W.2.2.2.2.2.1.ext O0.2) rfl rfl rfl (by decide) (by decide) (by decide) (by decide) ?_
        rintro _ T187 L187 X187 ⟨rfl, N187, e187⟩
        have N187 := Fr.app N186 N187
        show Go p e below _ (T187.setTop (mkF m 79 _ [(.ref w_UNKNOWN)]))
        refine own_virt (W := 0) 82 (rm3_3 l Z a0 hw [] w_TRUE w_FALSE w_UNKNOWN W w_UNKNOWN h0 n0 O0 (Fld.ne W.2.2.2.2.2.2.2.2 W.2.2.2.2.2.2.2.1 (fun q => absurd (Value.int.inj q) (by decide))) (Fld.ne W.2.2.2.2.2.2.2.2 W.2.2.2.2.2.2.1 (fun q => absurd (Value.int.inj q) (by decide)))) X187 hx hby hZ hown (own_w hw 13 rfl) (own_w hw 14 rfl) (notFace_of_selects (args := #[]) (mvT hZ (own_w hw 16 rfl))) (own_w hw 16 rfl) (own_w hw 15 rfl) (own_w hw 6 rfl) (own_w hw 17 rfl) (by decide) (by rw [hml]; rfl) w_UNKNOWN [] [] pd_2 rfl at_79 rfl e187 (W.2.2.2.2.2.1.ext O0.2) rfl rfl rfl (by decide) (by decide) (by decide) (by decide) ?_
        rintro _ T188 L188 X188 ⟨rfl, N188, e188⟩
        have N188 := Fr.app N187 N188
        show Go p e below _ (T188.setTop (mkF m 82 _ [(.ref w_UNKNOWN)]))
        refine own_aload_n 83 X188 hx hby at_82 rfl rfl rfl ?_
        refine own_virt (W := 1) 86 (rm3_3 l Z a0 hw [] w_TRUE w_FALSE w_UNKNOWN W w_UNKNOWN h0 n0 O0 (Fld.ne W.2.2.2.2.2.2.2.2 W.2.2.2.2.2.2.2.1 (fun q => absurd (Value.int.inj q) (by decide))) (Fld.ne W.2.2.2.2.2.2.2.2 W.2.2.2.2.2.2.1 (fun q => absurd (Value.int.inj q) (by decide)))) X188 hx hby hZ hown (own_w hw 13 rfl) (own_w hw 14 rfl) (notFace_of_selects (args := #[]) (mvT hZ (own_w hw 16 rfl))) (own_w hw 16 rfl) (own_w hw 15 rfl) (own_w hw 6 rfl) (own_w hw 17 rfl) (by decide) (by rw [hml]; rfl) w_UNKNOWN [] [(.ref w_UNKNOWN)] pd_2 rfl at_83 rfl e188 (W.2.2.2.2.2.1.ext O0.2) rfl rfl rfl (by decide) (by decide) (by decide) (by decide) ?_
        rintro _ T189 L189 X189 ⟨rfl, N189, e189⟩
        have N189 := Fr.app N188 N189
        show Go p e below _ (T189.setTop (mkF m 86 _ [(.ref w_UNKNOWN), (.ref w_UNKNOWN)]))
        refine own_aload 88 X189 hx hby at_86 rfl rfl rfl ?_
        refine own_virt (W := 2) 91 (rm3_1 l Z a0 hw [] w_TRUE w_FALSE w_UNKNOWN W w_TRUE h0 n0 O0 rfl) X189 hx hby hZ hown (own_w hw 13 rfl) (own_w hw 14 rfl) (notFace_of_selects (args := #[]) (mvT hZ (own_w hw 16 rfl))) (own_w hw 16 rfl) (own_w hw 15 rfl) (own_w hw 6 rfl) (own_w hw 17 rfl) (by decide) (by rw [hml]; rfl) w_TRUE [] [(.ref w_UNKNOWN), (.ref w_UNKNOWN)] pd_2 rfl at_88 rfl e189 (W.2.1.ext O0.2) rfl rfl rfl (by decide) (by decide) (by decide) (by decide) ?_
        rintro _ T190 L190 X190 ⟨rfl, N190, e190⟩
        have N190 := Fr.app N189 N190
        show Go p e below _ (T190.setTop (mkF m 91 _ [(.ref w_FALSE), (.ref w_UNKNOWN), (.ref w_UNKNOWN)]))
        refine own_virt (W := 1) 94 (rm5_5 l Z a0 hw [] w_TRUE w_FALSE w_UNKNOWN W w_UNKNOWN w_FALSE h0 n0 O0 (Fld.ne W.2.2.2.2.2.2.2.2 W.2.2.2.2.2.2.2.1 (fun q => absurd (Value.int.inj q) (by decide))) (Fld.ne W.2.2.2.2.2.2.1 W.2.2.2.2.2.2.2.1 (fun q => absurd (Value.int.inj q) (by decide))) (Fld.ne W.2.2.2.2.2.2.2.2 W.2.2.2.2.2.2.1 (fun q => absurd (Value.int.inj q) (by decide)))) X190 hx hby hZ hown (own_w hw 24 rfl) (own_w hw 25 rfl) (notFace_of_selects (args := #[]) (mvT hZ (own_w hw 27 rfl))) (own_w hw 27 rfl) (own_w hw 26 rfl) (own_w hw 6 rfl) (own_w hw 28 rfl) (by decide) (by rw [hml]; rfl) w_UNKNOWN [(.ref w_FALSE)] [(.ref w_UNKNOWN)] pd_3 rfl at_91 rfl e190 (W.2.2.2.2.2.1.ext O0.2) rfl rfl rfl (by decide) (by decide) (by decide) (by decide) ?_
        rintro _ T191 L191 X191 ⟨rfl, N191, e191⟩
        have N191 := Fr.app N190 N191
        show Go p e below _ (T191.setTop (mkF m 94 _ [(.ref w_UNKNOWN), (.ref w_UNKNOWN)]))
        refine own_acmp 97 true X191 hx hby at_94 rfl rfl (by decide) (by decide) (decide_eq_true (congrArg Value.ref rfl)) ?_
        refine own_iconst 98 (1 : Int32) X191 hx hby at_97 rfl (by decide) ?_
        refine own_goto 102 X191 hx hby at_98 (by decide) (by decide) ?_
        refine own_istore 104 #[oI x0, oI x1, oI x2, oA w_UNKNOWN, oA w_TRUE, oI (0 : Int32), oI (1 : Int32), oI (1 : Int32), oI (1 : Int32)] X191 hx hby at_102 rfl rfl ?_
        refine own_iload 106 X191 hx hby at_104 rfl rfl ?_
        refine own_ifN 109 X191 hx hby at_106 rfl (by decide) ?_
        refine own_iload 111 X191 hx hby at_109 rfl rfl ?_
        refine own_ifN 114 X191 hx hby at_111 rfl (by decide) ?_
        refine own_iload 116 X191 hx hby at_114 rfl rfl ?_
        refine own_ifN 119 X191 hx hby at_116 rfl (by decide) ?_
        refine own_iconst 120 (1 : Int32) X191 hx hby at_119 rfl (by decide) ?_
        refine own_goto 124 X191 hx hby at_120 (by decide) (by decide) ?_
        exact own_ret (Q := own_Q1 n0) X191 hx hby hret hlk at_124 rfl (Or.inl ⟨rfl, by simp, _, rfl⟩) (by decide) (by decide) ⟨rfl, N191⟩
      · refine own_iand 14 (1 : Int32) X180 hx hby at_13 rfl hv181 ?_
        refine own_ifN 17 X180 hx hby at_14 rfl (by decide) ?_
        refine own_iconst 18 (1 : Int32) X180 hx hby at_17 rfl (by decide) ?_
        refine own_goto 22 X180 hx hby at_18 (by decide) (by decide) ?_
        refine own_istore 24 #[oI x0, oI x1, oI x2, oA w_UNKNOWN, oA w_TRUE, oI (1 : Int32), oU, oU, oU] X180 hx hby at_22 rfl rfl ?_
        refine own_iload 26 X180 hx hby at_24 rfl rfl ?_
        refine own_callS (W := 0) 29 (rm2_2 l Z a0 hw [] w_TRUE w_FALSE w_UNKNOWN W (1 : Int32) h0 n0 O0 (by decide)) X180 hx hby hZ hown (own_w hw 8 rfl) (own_w hw 9 rfl) (own_w hw 6 rfl) (own_w hw 10 rfl) (by decide) (by rw [hml]; rfl) [(.int (1 : Int32))] [] pd_1 rfl at_26 rfl e180 rfl rfl rfl (by decide) (by decide) (by decide) (by decide) ?_
        rintro _ T192 L192 X192 ⟨rfl, N192, e192⟩
        have N192 := Fr.app N180 N192
        show Go p e below _ (T192.setTop (mkF m 29 _ [(.ref w_TRUE)]))
        refine own_virt (W := 0) 32 (rm3_1 l Z a0 hw [] w_TRUE w_FALSE w_UNKNOWN W w_TRUE h0 n0 O0 rfl) X192 hx hby hZ hown (own_w hw 13 rfl) (own_w hw 14 rfl) (notFace_of_selects (args := #[]) (mvT hZ (own_w hw 16 rfl))) (own_w hw 16 rfl) (own_w hw 15 rfl) (own_w hw 6 rfl) (own_w hw 17 rfl) (by decide) (by rw [hml]; rfl) w_TRUE [] [] pd_2 rfl at_29 rfl e192 (W.2.1.ext O0.2) rfl rfl rfl (by decide) (by decide) (by decide) (by decide) ?_
        rintro _ T193 L193 X193 ⟨rfl, N193, e193⟩
        have N193 := Fr.app N192 N193
        show Go p e below _ (T193.setTop (mkF m 32 _ [(.ref w_FALSE)]))
        refine own_iload 34 X193 hx hby at_32 rfl rfl ?_
        refine own_ifY 41 X193 hx hby at_34 (by decide) (by decide) (by decide) ?_
        refine own_iconst 42 (0 : Int32) X193 hx hby at_41 rfl (by decide) ?_
        refine own_callS (W := 1) 45 (rm2_1 l Z a0 hw [] w_TRUE w_FALSE w_UNKNOWN W (0 : Int32) h0 n0 O0 (by decide)) X193 hx hby hZ hown (own_w hw 8 rfl) (own_w hw 9 rfl) (own_w hw 6 rfl) (own_w hw 10 rfl) (by decide) (by rw [hml]; rfl) [(.int (0 : Int32))] [(.ref w_FALSE)] pd_1 rfl at_42 rfl e193 rfl rfl rfl (by decide) (by decide) (by decide) (by decide) ?_
        rintro _ T194 L194 X194 ⟨rfl, N194, e194⟩
        have N194 := Fr.app N193 N194
        show Go p e below _ (T194.setTop (mkF m 45 _ [(.ref w_FALSE), (.ref w_FALSE)]))
        refine own_acmp 48 true X194 hx hby at_45 rfl rfl (by decide) (by decide) (decide_eq_true (congrArg Value.ref rfl)) ?_
        refine own_iconst 49 (1 : Int32) X194 hx hby at_48 rfl (by decide) ?_
        refine own_goto 53 X194 hx hby at_49 (by decide) (by decide) ?_
        refine own_istore 55 #[oI x0, oI x1, oI x2, oA w_UNKNOWN, oA w_TRUE, oI (1 : Int32), oI (1 : Int32), oU, oU] X194 hx hby at_53 rfl rfl ?_
        refine own_aload_n 56 X194 hx hby at_55 rfl rfl rfl ?_
        refine own_virt (W := 0) 59 (rm3_3 l Z a0 hw [] w_TRUE w_FALSE w_UNKNOWN W w_UNKNOWN h0 n0 O0 (Fld.ne W.2.2.2.2.2.2.2.2 W.2.2.2.2.2.2.2.1 (fun q => absurd (Value.int.inj q) (by decide))) (Fld.ne W.2.2.2.2.2.2.2.2 W.2.2.2.2.2.2.1 (fun q => absurd (Value.int.inj q) (by decide)))) X194 hx hby hZ hown (own_w hw 13 rfl) (own_w hw 14 rfl) (notFace_of_selects (args := #[]) (mvT hZ (own_w hw 16 rfl))) (own_w hw 16 rfl) (own_w hw 15 rfl) (own_w hw 6 rfl) (own_w hw 17 rfl) (by decide) (by rw [hml]; rfl) w_UNKNOWN [] [] pd_2 rfl at_56 rfl e194 (W.2.2.2.2.2.1.ext O0.2) rfl rfl rfl (by decide) (by decide) (by decide) (by decide) ?_
        rintro _ T195 L195 X195 ⟨rfl, N195, e195⟩
        have N195 := Fr.app N194 N195
        show Go p e below _ (T195.setTop (mkF m 59 _ [(.ref w_UNKNOWN)]))
        refine own_virt (W := 0) 62 (rm3_3 l Z a0 hw [] w_TRUE w_FALSE w_UNKNOWN W w_UNKNOWN h0 n0 O0 (Fld.ne W.2.2.2.2.2.2.2.2 W.2.2.2.2.2.2.2.1 (fun q => absurd (Value.int.inj q) (by decide))) (Fld.ne W.2.2.2.2.2.2.2.2 W.2.2.2.2.2.2.1 (fun q => absurd (Value.int.inj q) (by decide)))) X195 hx hby hZ hown (own_w hw 13 rfl) (own_w hw 14 rfl) (notFace_of_selects (args := #[]) (mvT hZ (own_w hw 16 rfl))) (own_w hw 16 rfl) (own_w hw 15 rfl) (own_w hw 6 rfl) (own_w hw 17 rfl) (by decide) (by rw [hml]; rfl) w_UNKNOWN [] [] pd_2 rfl at_59 rfl e195 (W.2.2.2.2.2.1.ext O0.2) rfl rfl rfl (by decide) (by decide) (by decide) (by decide) ?_
        rintro _ T196 L196 X196 ⟨rfl, N196, e196⟩
        have N196 := Fr.app N195 N196
        show Go p e below _ (T196.setTop (mkF m 62 _ [(.ref w_UNKNOWN)]))
        refine own_aload_n 63 X196 hx hby at_62 rfl rfl rfl ?_
        refine own_acmp 66 true X196 hx hby at_63 rfl rfl (by decide) (by decide) (decide_eq_true (congrArg Value.ref rfl)) ?_
        refine own_iconst 67 (1 : Int32) X196 hx hby at_66 rfl (by decide) ?_
        refine own_goto 71 X196 hx hby at_67 (by decide) (by decide) ?_
        refine own_istore 73 #[oI x0, oI x1, oI x2, oA w_UNKNOWN, oA w_TRUE, oI (1 : Int32), oI (1 : Int32), oI (1 : Int32), oU] X196 hx hby at_71 rfl rfl ?_
        refine own_aload_n 74 X196 hx hby at_73 rfl rfl rfl ?_
        refine own_aload 76 X196 hx hby at_74 rfl rfl rfl ?_
        refine own_virt (W := 0) 79 (rm4_5 l Z a0 hw [] w_TRUE w_FALSE w_UNKNOWN W w_UNKNOWN w_TRUE h0 n0 O0 (Fld.ne W.2.2.2.2.2.2.2.2 W.2.2.2.2.2.2.1 (fun q => absurd (Value.int.inj q) (by decide))) (Fld.ne W.2.2.2.2.2.2.2.1 W.2.2.2.2.2.2.1 (fun q => absurd (Value.int.inj q) (by decide))) (Fld.ne W.2.2.2.2.2.2.2.2 W.2.2.2.2.2.2.2.1 (fun q => absurd (Value.int.inj q) (by decide)))) X196 hx hby hZ hown (own_w hw 19 rfl) (own_w hw 20 rfl) (notFace_of_selects (args := #[]) (mvT hZ (own_w hw 22 rfl))) (own_w hw 22 rfl) (own_w hw 21 rfl) (own_w hw 6 rfl) (own_w hw 23 rfl) (by decide) (by rw [hml]; rfl) w_UNKNOWN [(.ref w_TRUE)] [] pd_3 rfl at_76 rfl e196 (W.2.2.2.2.2.1.ext O0.2) rfl rfl rfl (by decide) (by decide) (by decide) (by decide) ?_
        rintro _ T197 L197 X197 ⟨rfl, N197, e197⟩
        have N197 := Fr.app N196 N197
        show Go p e below _ (T197.setTop (mkF m 79 _ [(.ref w_UNKNOWN)]))
        refine own_virt (W := 0) 82 (rm3_3 l Z a0 hw [] w_TRUE w_FALSE w_UNKNOWN W w_UNKNOWN h0 n0 O0 (Fld.ne W.2.2.2.2.2.2.2.2 W.2.2.2.2.2.2.2.1 (fun q => absurd (Value.int.inj q) (by decide))) (Fld.ne W.2.2.2.2.2.2.2.2 W.2.2.2.2.2.2.1 (fun q => absurd (Value.int.inj q) (by decide)))) X197 hx hby hZ hown (own_w hw 13 rfl) (own_w hw 14 rfl) (notFace_of_selects (args := #[]) (mvT hZ (own_w hw 16 rfl))) (own_w hw 16 rfl) (own_w hw 15 rfl) (own_w hw 6 rfl) (own_w hw 17 rfl) (by decide) (by rw [hml]; rfl) w_UNKNOWN [] [] pd_2 rfl at_79 rfl e197 (W.2.2.2.2.2.1.ext O0.2) rfl rfl rfl (by decide) (by decide) (by decide) (by decide) ?_
        rintro _ T198 L198 X198 ⟨rfl, N198, e198⟩
        have N198 := Fr.app N197 N198
        show Go p e below _ (T198.setTop (mkF m 82 _ [(.ref w_UNKNOWN)]))
        refine own_aload_n 83 X198 hx hby at_82 rfl rfl rfl ?_
        refine own_virt (W := 1) 86 (rm3_3 l Z a0 hw [] w_TRUE w_FALSE w_UNKNOWN W w_UNKNOWN h0 n0 O0 (Fld.ne W.2.2.2.2.2.2.2.2 W.2.2.2.2.2.2.2.1 (fun q => absurd (Value.int.inj q) (by decide))) (Fld.ne W.2.2.2.2.2.2.2.2 W.2.2.2.2.2.2.1 (fun q => absurd (Value.int.inj q) (by decide)))) X198 hx hby hZ hown (own_w hw 13 rfl) (own_w hw 14 rfl) (notFace_of_selects (args := #[]) (mvT hZ (own_w hw 16 rfl))) (own_w hw 16 rfl) (own_w hw 15 rfl) (own_w hw 6 rfl) (own_w hw 17 rfl) (by decide) (by rw [hml]; rfl) w_UNKNOWN [] [(.ref w_UNKNOWN)] pd_2 rfl at_83 rfl e198 (W.2.2.2.2.2.1.ext O0.2) rfl rfl rfl (by decide) (by decide) (by decide) (by decide) ?_
        rintro _ T199 L199 X199 ⟨rfl, N199, e199⟩
        have N199 := Fr.app N198 N199
        show Go p e below _ (T199.setTop (mkF m 86 _ [(.ref w_UNKNOWN), (.ref w_UNKNOWN)]))
        refine own_aload 88 X199 hx hby at_86 rfl rfl rfl ?_
        refine own_virt (W := 2) 91 (rm3_1 l Z a0 hw [] w_TRUE w_FALSE w_UNKNOWN W w_TRUE h0 n0 O0 rfl) X199 hx hby hZ hown (own_w hw 13 rfl) (own_w hw 14 rfl) (notFace_of_selects (args := #[]) (mvT hZ (own_w hw 16 rfl))) (own_w hw 16 rfl) (own_w hw 15 rfl) (own_w hw 6 rfl) (own_w hw 17 rfl) (by decide) (by rw [hml]; rfl) w_TRUE [] [(.ref w_UNKNOWN), (.ref w_UNKNOWN)] pd_2 rfl at_88 rfl e199 (W.2.1.ext O0.2) rfl rfl rfl (by decide) (by decide) (by decide) (by decide) ?_
        rintro _ T200 L200 X200 ⟨rfl, N200, e200⟩
        have N200 := Fr.app N199 N200
        show Go p e below _ (T200.setTop (mkF m 91 _ [(.ref w_FALSE), (.ref w_UNKNOWN), (.ref w_UNKNOWN)]))
        refine own_virt (W := 1) 94 (rm5_5 l Z a0 hw [] w_TRUE w_FALSE w_UNKNOWN W w_UNKNOWN w_FALSE h0 n0 O0 (Fld.ne W.2.2.2.2.2.2.2.2 W.2.2.2.2.2.2.2.1 (fun q => absurd (Value.int.inj q) (by decide))) (Fld.ne W.2.2.2.2.2.2.1 W.2.2.2.2.2.2.2.1 (fun q => absurd (Value.int.inj q) (by decide))) (Fld.ne W.2.2.2.2.2.2.2.2 W.2.2.2.2.2.2.1 (fun q => absurd (Value.int.inj q) (by decide)))) X200 hx hby hZ hown (own_w hw 24 rfl) (own_w hw 25 rfl) (notFace_of_selects (args := #[]) (mvT hZ (own_w hw 27 rfl))) (own_w hw 27 rfl) (own_w hw 26 rfl) (own_w hw 6 rfl) (own_w hw 28 rfl) (by decide) (by rw [hml]; rfl) w_UNKNOWN [(.ref w_FALSE)] [(.ref w_UNKNOWN)] pd_3 rfl at_91 rfl e200 (W.2.2.2.2.2.1.ext O0.2) rfl rfl rfl (by decide) (by decide) (by decide) (by decide) ?_
        rintro _ T201 L201 X201 ⟨rfl, N201, e201⟩
        have N201 := Fr.app N200 N201
        show Go p e below _ (T201.setTop (mkF m 94 _ [(.ref w_UNKNOWN), (.ref w_UNKNOWN)]))
        refine own_acmp 97 true X201 hx hby at_94 rfl rfl (by decide) (by decide) (decide_eq_true (congrArg Value.ref rfl)) ?_
        refine own_iconst 98 (1 : Int32) X201 hx hby at_97 rfl (by decide) ?_
        refine own_goto 102 X201 hx hby at_98 (by decide) (by decide) ?_
        refine own_istore 104 #[oI x0, oI x1, oI x2, oA w_UNKNOWN, oA w_TRUE, oI (1 : Int32), oI (1 : Int32), oI (1 : Int32), oI (1 : Int32)] X201 hx hby at_102 rfl rfl ?_
        refine own_iload 106 X201 hx hby at_104 rfl rfl ?_
        refine own_ifN 109 X201 hx hby at_106 rfl (by decide) ?_
        refine own_iload 111 X201 hx hby at_109 rfl rfl ?_
        refine own_ifN 114 X201 hx hby at_111 rfl (by decide) ?_
        refine own_iload 116 X201 hx hby at_114 rfl rfl ?_
        refine own_ifN 119 X201 hx hby at_116 rfl (by decide) ?_
        refine own_iconst 120 (1 : Int32) X201 hx hby at_119 rfl (by decide) ?_
        refine own_goto 124 X201 hx hby at_120 (by decide) (by decide) ?_
        exact own_ret (Q := own_Q1 n0) X201 hx hby hret hlk at_124 rfl (Or.inl ⟨rfl, by simp, _, rfl⟩) (by decide) (by decide) ⟨rfl, N201⟩
    · refine own_callS (W := 0) 9 (rm1_2 l Z a0 hw [] w_TRUE w_FALSE w_UNKNOWN W x1 h0 n0 O0 hv179) X178 hx hby hZ hown (own_w hw 0 rfl) (own_w hw 1 rfl) (own_w hw 2 rfl) (own_w hw 3 rfl) (by decide) (by rw [hml]; rfl) [(.int x1)] [] pd_0 rfl at_6 rfl e178 rfl rfl rfl (by decide) (by decide) (by decide) (by decide) ?_
      rintro _ T202 L202 X202 ⟨rfl, N202, e202⟩
      have N202 := Fr.app N178 N202
      show Go p e below _ (T202.setTop (mkF m 9 _ [(.ref w_FALSE)]))
      refine own_astore 11 #[oI x0, oI x1, oI x2, oA w_UNKNOWN, oA w_FALSE, oU, oU, oU, oU] X202 hx hby at_9 rfl rfl rfl ?_
      refine own_iload_n 12 X202 hx hby at_11 rfl rfl ?_
      refine own_iconst 13 (1 : Int32) X202 hx hby at_12 rfl (by decide) ?_
      rcases own_and1 x2 with hv203 | hv203
      · refine own_iand 14 (0 : Int32) X202 hx hby at_13 rfl hv203 ?_
        refine own_ifY 21 X202 hx hby at_14 (by decide) (by decide) (by decide) ?_
        refine own_iconst 22 (0 : Int32) X202 hx hby at_21 rfl (by decide) ?_
        refine own_istore 24 #[oI x0, oI x1, oI x2, oA w_UNKNOWN, oA w_FALSE, oI (0 : Int32), oU, oU, oU] X202 hx hby at_22 rfl rfl ?_
        refine own_iload 26 X202 hx hby at_24 rfl rfl ?_
        refine own_callS (W := 0) 29 (rm2_1 l Z a0 hw [] w_TRUE w_FALSE w_UNKNOWN W (0 : Int32) h0 n0 O0 (by decide)) X202 hx hby hZ hown (own_w hw 8 rfl) (own_w hw 9 rfl) (own_w hw 6 rfl) (own_w hw 10 rfl) (by decide) (by rw [hml]; rfl) [(.int (0 : Int32))] [] pd_1 rfl at_26 rfl e202 rfl rfl rfl (by decide) (by decide) (by decide) (by decide) ?_
        rintro _ T204 L204 X204 ⟨rfl, N204, e204⟩
        have N204 := Fr.app N202 N204
        show Go p e below _ (T204.setTop (mkF m 29 _ [(.ref w_FALSE)]))
        refine own_virt (W := 0) 32 (rm3_2 l Z a0 hw [] w_TRUE w_FALSE w_UNKNOWN W w_FALSE h0 n0 O0 (Fld.ne W.2.2.2.2.2.2.1 W.2.2.2.2.2.2.2.1 (fun q => absurd (Value.int.inj q) (by decide))) rfl) X204 hx hby hZ hown (own_w hw 13 rfl) (own_w hw 14 rfl) (notFace_of_selects (args := #[]) (mvT hZ (own_w hw 16 rfl))) (own_w hw 16 rfl) (own_w hw 15 rfl) (own_w hw 6 rfl) (own_w hw 17 rfl) (by decide) (by rw [hml]; rfl) w_FALSE [] [] pd_2 rfl at_29 rfl e204 (W.2.2.2.1.ext O0.2) rfl rfl rfl (by decide) (by decide) (by decide) (by decide) ?_
        rintro _ T205 L205 X205 ⟨rfl, N205, e205⟩
        have N205 := Fr.app N204 N205
        show Go p e below _ (T205.setTop (mkF m 32 _ [(.ref w_TRUE)]))
        refine own_iload 34 X205 hx hby at_32 rfl rfl ?_
        refine own_ifN 37 X205 hx hby at_34 rfl (by decide) ?_
        refine own_iconst 38 (1 : Int32) X205 hx hby at_37 rfl (by decide) ?_
        refine own_goto 42 X205 hx hby at_38 (by decide) (by decide) ?_
        refine own_callS (W := 1) 45 (rm2_2 l Z a0 hw [] w_TRUE w_FALSE w_UNKNOWN W (1 : Int32) h0 n0 O0 (by decide)) X205 hx hby hZ hown (own_w hw 8 rfl) (own_w hw 9 rfl) (own_w hw 6 rfl) (own_w hw 10 rfl) (by decide) (by rw [hml]; rfl) [(.int (1 : Int32))] [(.ref w_TRUE)] pd_1 rfl at_42 rfl e205 rfl rfl rfl (by decide) (by decide) (by decide) (by decide) ?_
        rintro _ T206 L206 X206 ⟨rfl, N206, e206⟩
        have N206 := Fr.app N205 N206
        show Go p e below _ (T206.setTop (mkF m 45 _ [(.ref w_TRUE), (.ref w_TRUE)]))
        refine own_acmp 48 true X206 hx hby at_45 rfl rfl (by decide) (by decide) (decide_eq_true (congrArg Value.ref rfl)) ?_
        refine own_iconst 49 (1 : Int32) X206 hx hby at_48 rfl (by decide) ?_
        refine own_goto 53 X206 hx hby at_49 (by decide) (by decide) ?_
        refine own_istore 55 #[oI x0, oI x1, oI x2, oA w_UNKNOWN, oA w_FALSE, oI (0 : Int32), oI (1 : Int32), oU, oU] X206 hx hby at_53 rfl rfl ?_
        refine own_aload_n 56 X206 hx hby at_55 rfl rfl rfl ?_
        refine own_virt (W := 0) 59 (rm3_3 l Z a0 hw [] w_TRUE w_FALSE w_UNKNOWN W w_UNKNOWN h0 n0 O0 (Fld.ne W.2.2.2.2.2.2.2.2 W.2.2.2.2.2.2.2.1 (fun q => absurd (Value.int.inj q) (by decide))) (Fld.ne W.2.2.2.2.2.2.2.2 W.2.2.2.2.2.2.1 (fun q => absurd (Value.int.inj q) (by decide)))) X206 hx hby hZ hown (own_w hw 13 rfl) (own_w hw 14 rfl) (notFace_of_selects (args := #[]) (mvT hZ (own_w hw 16 rfl))) (own_w hw 16 rfl) (own_w hw 15 rfl) (own_w hw 6 rfl) (own_w hw 17 rfl) (by decide) (by rw [hml]; rfl) w_UNKNOWN [] [] pd_2 rfl at_56 rfl e206 (W.2.2.2.2.2.1.ext O0.2) rfl rfl rfl (by decide) (by decide) (by decide) (by decide) ?_
        rintro _ T207 L207 X207 ⟨rfl, N207, e207⟩
        have N207 := Fr.app N206 N207
        show Go p e below _ (T207.setTop (mkF m 59 _ [(.ref w_UNKNOWN)]))
        refine own_virt (W := 0) 62 (rm3_3 l Z a0 hw [] w_TRUE w_FALSE w_UNKNOWN W w_UNKNOWN h0 n0 O0 (Fld.ne W.2.2.2.2.2.2.2.2 W.2.2.2.2.2.2.2.1 (fun q => absurd (Value.int.inj q) (by decide))) (Fld.ne W.2.2.2.2.2.2.2.2 W.2.2.2.2.2.2.1 (fun q => absurd (Value.int.inj q) (by decide)))) X207 hx hby hZ hown (own_w hw 13 rfl) (own_w hw 14 rfl) (notFace_of_selects (args := #[]) (mvT hZ (own_w hw 16 rfl))) (own_w hw 16 rfl) (own_w hw 15 rfl) (own_w hw 6 rfl) (own_w hw 17 rfl) (by decide) (by rw [hml]; rfl) w_UNKNOWN [] [] pd_2 rfl at_59 rfl e207 (W.2.2.2.2.2.1.ext O0.2) rfl rfl rfl (by decide) (by decide) (by decide) (by decide) ?_
        rintro _ T208 L208 X208 ⟨rfl, N208, e208⟩
        have N208 := Fr.app N207 N208
        show Go p e below _ (T208.setTop (mkF m 62 _ [(.ref w_UNKNOWN)]))
        refine own_aload_n 63 X208 hx hby at_62 rfl rfl rfl ?_
        refine own_acmp 66 true X208 hx hby at_63 rfl rfl (by decide) (by decide) (decide_eq_true (congrArg Value.ref rfl)) ?_
        refine own_iconst 67 (1 : Int32) X208 hx hby at_66 rfl (by decide) ?_
        refine own_goto 71 X208 hx hby at_67 (by decide) (by decide) ?_
        refine own_istore 73 #[oI x0, oI x1, oI x2, oA w_UNKNOWN, oA w_FALSE, oI (0 : Int32), oI (1 : Int32), oI (1 : Int32), oU] X208 hx hby at_71 rfl rfl ?_
        refine own_aload_n 74 X208 hx hby at_73 rfl rfl rfl ?_
        refine own_aload 76 X208 hx hby at_74 rfl rfl rfl ?_
        refine own_virt (W := 0) 79 (rm4_2 l Z a0 hw [] w_TRUE w_FALSE w_UNKNOWN W w_UNKNOWN w_FALSE h0 n0 O0 (Fld.ne W.2.2.2.2.2.2.2.2 W.2.2.2.2.2.2.1 (fun q => absurd (Value.int.inj q) (by decide))) rfl) X208 hx hby hZ hown (own_w hw 19 rfl) (own_w hw 20 rfl) (notFace_of_selects (args := #[]) (mvT hZ (own_w hw 22 rfl))) (own_w hw 22 rfl) (own_w hw 21 rfl) (own_w hw 6 rfl) (own_w hw 23 rfl) (by decide) (by rw [hml]; rfl) w_UNKNOWN [(.ref w_FALSE)] [] pd_3 rfl at_76 rfl e208 (W.2.2.2.2.2.1.ext O0.2) rfl rfl rfl (by decide) (by decide) (by decide) (by decide) ?_
        rintro _ T209 L209 X209 ⟨rfl, N209, e209⟩
        have N209 := Fr.app N208 N209
        show Go p e below _ (T209.setTop (mkF m 79 _ [(.ref w_FALSE)]))
        refine own_virt (W := 0) 82 (rm3_2 l Z a0 hw [] w_TRUE w_FALSE w_UNKNOWN W w_FALSE h0 n0 O0 (Fld.ne W.2.2.2.2.2.2.1 W.2.2.2.2.2.2.2.1 (fun q => absurd (Value.int.inj q) (by decide))) rfl) X209 hx hby hZ hown (own_w hw 13 rfl) (own_w hw 14 rfl) (notFace_of_selects (args := #[]) (mvT hZ (own_w hw 16 rfl))) (own_w hw 16 rfl) (own_w hw 15 rfl) (own_w hw 6 rfl) (own_w hw 17 rfl) (by decide) (by rw [hml]; rfl) w_FALSE [] [] pd_2 rfl at_79 rfl e209 (W.2.2.2.1.ext O0.2) rfl rfl rfl (by decide) (by decide) (by decide) (by decide) ?_
        rintro _ T210 L210 X210 ⟨rfl, N210, e210⟩
        have N210 := Fr.app N209 N210
        show Go p e below _ (T210.setTop (mkF m 82 _ [(.ref w_TRUE)]))
        refine own_aload_n 83 X210 hx hby at_82 rfl rfl rfl ?_
        refine own_virt (W := 1) 86 (rm3_3 l Z a0 hw [] w_TRUE w_FALSE w_UNKNOWN W w_UNKNOWN h0 n0 O0 (Fld.ne W.2.2.2.2.2.2.2.2 W.2.2.2.2.2.2.2.1 (fun q => absurd (Value.int.inj q) (by decide))) (Fld.ne W.2.2.2.2.2.2.2.2 W.2.2.2.2.2.2.1 (fun q => absurd (Value.int.inj q) (by decide)))) X210 hx hby hZ hown (own_w hw 13 rfl) (own_w hw 14 rfl) (notFace_of_selects (args := #[]) (mvT hZ (own_w hw 16 rfl))) (own_w hw 16 rfl) (own_w hw 15 rfl) (own_w hw 6 rfl) (own_w hw 17 rfl) (by decide) (by rw [hml]; rfl) w_UNKNOWN [] [(.ref w_TRUE)] pd_2 rfl at_83 rfl e210 (W.2.2.2.2.2.1.ext O0.2) rfl rfl rfl (by decide) (by decide) (by decide) (by decide) ?_
        rintro _ T211 L211 X211 ⟨rfl, N211, e211⟩
        have N211 := Fr.app N210 N211
        show Go p e below _ (T211.setTop (mkF m 86 _ [(.ref w_UNKNOWN), (.ref w_TRUE)]))
        refine own_aload 88 X211 hx hby at_86 rfl rfl rfl ?_
        refine own_virt (W := 2) 91 (rm3_2 l Z a0 hw [] w_TRUE w_FALSE w_UNKNOWN W w_FALSE h0 n0 O0 (Fld.ne W.2.2.2.2.2.2.1 W.2.2.2.2.2.2.2.1 (fun q => absurd (Value.int.inj q) (by decide))) rfl) X211 hx hby hZ hown (own_w hw 13 rfl) (own_w hw 14 rfl) (notFace_of_selects (args := #[]) (mvT hZ (own_w hw 16 rfl))) (own_w hw 16 rfl) (own_w hw 15 rfl) (own_w hw 6 rfl) (own_w hw 17 rfl) (by decide) (by rw [hml]; rfl) w_FALSE [] [(.ref w_UNKNOWN), (.ref w_TRUE)] pd_2 rfl at_88 rfl e211 (W.2.2.2.1.ext O0.2) rfl rfl rfl (by decide) (by decide) (by decide) (by decide) ?_
        rintro _ T212 L212 X212 ⟨rfl, N212, e212⟩
        have N212 := Fr.app N211 N212
        show Go p e below _ (T212.setTop (mkF m 91 _ [(.ref w_TRUE), (.ref w_UNKNOWN), (.ref w_TRUE)]))
        refine own_virt (W := 1) 94 (rm5_2 l Z a0 hw [] w_TRUE w_FALSE w_UNKNOWN W w_UNKNOWN w_TRUE h0 n0 O0 (Fld.ne W.2.2.2.2.2.2.2.2 W.2.2.2.2.2.2.2.1 (fun q => absurd (Value.int.inj q) (by decide))) rfl) X212 hx hby hZ hown (own_w hw 24 rfl) (own_w hw 25 rfl) (notFace_of_selects (args := #[]) (mvT hZ (own_w hw 27 rfl))) (own_w hw 27 rfl) (own_w hw 26 rfl) (own_w hw 6 rfl) (own_w hw 28 rfl) (by decide) (by rw [hml]; rfl) w_UNKNOWN [(.ref w_TRUE)] [(.ref w_TRUE)] pd_3 rfl at_91 rfl e212 (W.2.2.2.2.2.1.ext O0.2) rfl rfl rfl (by decide) (by decide) (by decide) (by decide) ?_
        rintro _ T213 L213 X213 ⟨rfl, N213, e213⟩
        have N213 := Fr.app N212 N213
        show Go p e below _ (T213.setTop (mkF m 94 _ [(.ref w_TRUE), (.ref w_TRUE)]))
        refine own_acmp 97 true X213 hx hby at_94 rfl rfl (by decide) (by decide) (decide_eq_true (congrArg Value.ref rfl)) ?_
        refine own_iconst 98 (1 : Int32) X213 hx hby at_97 rfl (by decide) ?_
        refine own_goto 102 X213 hx hby at_98 (by decide) (by decide) ?_
        refine own_istore 104 #[oI x0, oI x1, oI x2, oA w_UNKNOWN, oA w_FALSE, oI (0 : Int32), oI (1 : Int32), oI (1 : Int32), oI (1 : Int32)] X213 hx hby at_102 rfl rfl ?_
        refine own_iload 106 X213 hx hby at_104 rfl rfl ?_
        refine own_ifN 109 X213 hx hby at_106 rfl (by decide) ?_
        refine own_iload 111 X213 hx hby at_109 rfl rfl ?_
        refine own_ifN 114 X213 hx hby at_111 rfl (by decide) ?_
        refine own_iload 116 X213 hx hby at_114 rfl rfl ?_
        refine own_ifN 119 X213 hx hby at_116 rfl (by decide) ?_
        refine own_iconst 120 (1 : Int32) X213 hx hby at_119 rfl (by decide) ?_
        refine own_goto 124 X213 hx hby at_120 (by decide) (by decide) ?_
        exact own_ret (Q := own_Q1 n0) X213 hx hby hret hlk at_124 rfl (Or.inl ⟨rfl, by simp, _, rfl⟩) (by decide) (by decide) ⟨rfl, N213⟩
      · refine own_iand 14 (1 : Int32) X202 hx hby at_13 rfl hv203 ?_
        refine own_ifN 17 X202 hx hby at_14 rfl (by decide) ?_
        refine own_iconst 18 (1 : Int32) X202 hx hby at_17 rfl (by decide) ?_
        refine own_goto 22 X202 hx hby at_18 (by decide) (by decide) ?_
        refine own_istore 24 #[oI x0, oI x1, oI x2, oA w_UNKNOWN, oA w_FALSE, oI (1 : Int32), oU, oU, oU] X202 hx hby at_22 rfl rfl ?_
        refine own_iload 26 X202 hx hby at_24 rfl rfl ?_
        refine own_callS (W := 0) 29 (rm2_2 l Z a0 hw [] w_TRUE w_FALSE w_UNKNOWN W (1 : Int32) h0 n0 O0 (by decide)) X202 hx hby hZ hown (own_w hw 8 rfl) (own_w hw 9 rfl) (own_w hw 6 rfl) (own_w hw 10 rfl) (by decide) (by rw [hml]; rfl) [(.int (1 : Int32))] [] pd_1 rfl at_26 rfl e202 rfl rfl rfl (by decide) (by decide) (by decide) (by decide) ?_
        rintro _ T214 L214 X214 ⟨rfl, N214, e214⟩
        have N214 := Fr.app N202 N214
        show Go p e below _ (T214.setTop (mkF m 29 _ [(.ref w_TRUE)]))
        refine own_virt (W := 0) 32 (rm3_1 l Z a0 hw [] w_TRUE w_FALSE w_UNKNOWN W w_TRUE h0 n0 O0 rfl) X214 hx hby hZ hown (own_w hw 13 rfl) (own_w hw 14 rfl) (notFace_of_selects (args := #[]) (mvT hZ (own_w hw 16 rfl))) (own_w hw 16 rfl) (own_w hw 15 rfl) (own_w hw 6 rfl) (own_w hw 17 rfl) (by decide) (by rw [hml]; rfl) w_TRUE [] [] pd_2 rfl at_29 rfl e214 (W.2.1.ext O0.2) rfl rfl rfl (by decide) (by decide) (by decide) (by decide) ?_
        rintro _ T215 L215 X215 ⟨rfl, N215, e215⟩
        have N215 := Fr.app N214 N215
        show Go p e below _ (T215.setTop (mkF m 32 _ [(.ref w_FALSE)]))
        refine own_iload 34 X215 hx hby at_32 rfl rfl ?_
        refine own_ifY 41 X215 hx hby at_34 (by decide) (by decide) (by decide) ?_
        refine own_iconst 42 (0 : Int32) X215 hx hby at_41 rfl (by decide) ?_
        refine own_callS (W := 1) 45 (rm2_1 l Z a0 hw [] w_TRUE w_FALSE w_UNKNOWN W (0 : Int32) h0 n0 O0 (by decide)) X215 hx hby hZ hown (own_w hw 8 rfl) (own_w hw 9 rfl) (own_w hw 6 rfl) (own_w hw 10 rfl) (by decide) (by rw [hml]; rfl) [(.int (0 : Int32))] [(.ref w_FALSE)] pd_1 rfl at_42 rfl e215 rfl rfl rfl (by decide) (by decide) (by decide) (by decide) ?_
        rintro _ T216 L216 X216 ⟨rfl, N216, e216⟩
        have N216 := Fr.app N215 N216
        show Go p e below _ (T216.setTop (mkF m 45 _ [(.ref w_FALSE), (.ref w_FALSE)]))
        refine own_acmp 48 true X216 hx hby at_45 rfl rfl (by decide) (by decide) (decide_eq_true (congrArg Value.ref rfl)) ?_
        refine own_iconst 49 (1 : Int32) X216 hx hby at_48 rfl (by decide) ?_
        refine own_goto 53 X216 hx hby at_49 (by decide) (by decide) ?_
        refine own_istore 55 #[oI x0, oI x1, oI x2, oA w_UNKNOWN, oA w_FALSE, oI (1 : Int32), oI (1 : Int32), oU, oU] X216 hx hby at_53 rfl rfl ?_
        refine own_aload_n 56 X216 hx hby at_55 rfl rfl rfl ?_
        refine own_virt (W := 0) 59 (rm3_3 l Z a0 hw [] w_TRUE w_FALSE w_UNKNOWN W w_UNKNOWN h0 n0 O0 (Fld.ne W.2.2.2.2.2.2.2.2 W.2.2.2.2.2.2.2.1 (fun q => absurd (Value.int.inj q) (by decide))) (Fld.ne W.2.2.2.2.2.2.2.2 W.2.2.2.2.2.2.1 (fun q => absurd (Value.int.inj q) (by decide)))) X216 hx hby hZ hown (own_w hw 13 rfl) (own_w hw 14 rfl) (notFace_of_selects (args := #[]) (mvT hZ (own_w hw 16 rfl))) (own_w hw 16 rfl) (own_w hw 15 rfl) (own_w hw 6 rfl) (own_w hw 17 rfl) (by decide) (by rw [hml]; rfl) w_UNKNOWN [] [] pd_2 rfl at_56 rfl e216 (W.2.2.2.2.2.1.ext O0.2) rfl rfl rfl (by decide) (by decide) (by decide) (by decide) ?_
        rintro _ T217 L217 X217 ⟨rfl, N217, e217⟩
        have N217 := Fr.app N216 N217
        show Go p e below _ (T217.setTop (mkF m 59 _ [(.ref w_UNKNOWN)]))
        refine own_virt (W := 0) 62 (rm3_3 l Z a0 hw [] w_TRUE w_FALSE w_UNKNOWN W w_UNKNOWN h0 n0 O0 (Fld.ne W.2.2.2.2.2.2.2.2 W.2.2.2.2.2.2.2.1 (fun q => absurd (Value.int.inj q) (by decide))) (Fld.ne W.2.2.2.2.2.2.2.2 W.2.2.2.2.2.2.1 (fun q => absurd (Value.int.inj q) (by decide)))) X217 hx hby hZ hown (own_w hw 13 rfl) (own_w hw 14 rfl) (notFace_of_selects (args := #[]) (mvT hZ (own_w hw 16 rfl))) (own_w hw 16 rfl) (own_w hw 15 rfl) (own_w hw 6 rfl) (own_w hw 17 rfl) (by decide) (by rw [hml]; rfl) w_UNKNOWN [] [] pd_2 rfl at_59 rfl e217 (W.2.2.2.2.2.1.ext O0.2) rfl rfl rfl (by decide) (by decide) (by decide) (by decide) ?_
        rintro _ T218 L218 X218 ⟨rfl, N218, e218⟩
        have N218 := Fr.app N217 N218
        show Go p e below _ (T218.setTop (mkF m 62 _ [(.ref w_UNKNOWN)]))
        refine own_aload_n 63 X218 hx hby at_62 rfl rfl rfl ?_
        refine own_acmp 66 true X218 hx hby at_63 rfl rfl (by decide) (by decide) (decide_eq_true (congrArg Value.ref rfl)) ?_
        refine own_iconst 67 (1 : Int32) X218 hx hby at_66 rfl (by decide) ?_
        refine own_goto 71 X218 hx hby at_67 (by decide) (by decide) ?_
        refine own_istore 73 #[oI x0, oI x1, oI x2, oA w_UNKNOWN, oA w_FALSE, oI (1 : Int32), oI (1 : Int32), oI (1 : Int32), oU] X218 hx hby at_71 rfl rfl ?_
        refine own_aload_n 74 X218 hx hby at_73 rfl rfl rfl ?_
        refine own_aload 76 X218 hx hby at_74 rfl rfl rfl ?_
        refine own_virt (W := 0) 79 (rm4_2 l Z a0 hw [] w_TRUE w_FALSE w_UNKNOWN W w_UNKNOWN w_FALSE h0 n0 O0 (Fld.ne W.2.2.2.2.2.2.2.2 W.2.2.2.2.2.2.1 (fun q => absurd (Value.int.inj q) (by decide))) rfl) X218 hx hby hZ hown (own_w hw 19 rfl) (own_w hw 20 rfl) (notFace_of_selects (args := #[]) (mvT hZ (own_w hw 22 rfl))) (own_w hw 22 rfl) (own_w hw 21 rfl) (own_w hw 6 rfl) (own_w hw 23 rfl) (by decide) (by rw [hml]; rfl) w_UNKNOWN [(.ref w_FALSE)] [] pd_3 rfl at_76 rfl e218 (W.2.2.2.2.2.1.ext O0.2) rfl rfl rfl (by decide) (by decide) (by decide) (by decide) ?_
        rintro _ T219 L219 X219 ⟨rfl, N219, e219⟩
        have N219 := Fr.app N218 N219
        show Go p e below _ (T219.setTop (mkF m 79 _ [(.ref w_FALSE)]))
        refine own_virt (W := 0) 82 (rm3_2 l Z a0 hw [] w_TRUE w_FALSE w_UNKNOWN W w_FALSE h0 n0 O0 (Fld.ne W.2.2.2.2.2.2.1 W.2.2.2.2.2.2.2.1 (fun q => absurd (Value.int.inj q) (by decide))) rfl) X219 hx hby hZ hown (own_w hw 13 rfl) (own_w hw 14 rfl) (notFace_of_selects (args := #[]) (mvT hZ (own_w hw 16 rfl))) (own_w hw 16 rfl) (own_w hw 15 rfl) (own_w hw 6 rfl) (own_w hw 17 rfl) (by decide) (by rw [hml]; rfl) w_FALSE [] [] pd_2 rfl at_79 rfl e219 (W.2.2.2.1.ext O0.2) rfl rfl rfl (by decide) (by decide) (by decide) (by decide) ?_
        rintro _ T220 L220 X220 ⟨rfl, N220, e220⟩
        have N220 := Fr.app N219 N220
        show Go p e below _ (T220.setTop (mkF m 82 _ [(.ref w_TRUE)]))
        refine own_aload_n 83 X220 hx hby at_82 rfl rfl rfl ?_
        refine own_virt (W := 1) 86 (rm3_3 l Z a0 hw [] w_TRUE w_FALSE w_UNKNOWN W w_UNKNOWN h0 n0 O0 (Fld.ne W.2.2.2.2.2.2.2.2 W.2.2.2.2.2.2.2.1 (fun q => absurd (Value.int.inj q) (by decide))) (Fld.ne W.2.2.2.2.2.2.2.2 W.2.2.2.2.2.2.1 (fun q => absurd (Value.int.inj q) (by decide)))) X220 hx hby hZ hown (own_w hw 13 rfl) (own_w hw 14 rfl) (notFace_of_selects (args := #[]) (mvT hZ (own_w hw 16 rfl))) (own_w hw 16 rfl) (own_w hw 15 rfl) (own_w hw 6 rfl) (own_w hw 17 rfl) (by decide) (by rw [hml]; rfl) w_UNKNOWN [] [(.ref w_TRUE)] pd_2 rfl at_83 rfl e220 (W.2.2.2.2.2.1.ext O0.2) rfl rfl rfl (by decide) (by decide) (by decide) (by decide) ?_
        rintro _ T221 L221 X221 ⟨rfl, N221, e221⟩
        have N221 := Fr.app N220 N221
        show Go p e below _ (T221.setTop (mkF m 86 _ [(.ref w_UNKNOWN), (.ref w_TRUE)]))
        refine own_aload 88 X221 hx hby at_86 rfl rfl rfl ?_
        refine own_virt (W := 2) 91 (rm3_2 l Z a0 hw [] w_TRUE w_FALSE w_UNKNOWN W w_FALSE h0 n0 O0 (Fld.ne W.2.2.2.2.2.2.1 W.2.2.2.2.2.2.2.1 (fun q => absurd (Value.int.inj q) (by decide))) rfl) X221 hx hby hZ hown (own_w hw 13 rfl) (own_w hw 14 rfl) (notFace_of_selects (args := #[]) (mvT hZ (own_w hw 16 rfl))) (own_w hw 16 rfl) (own_w hw 15 rfl) (own_w hw 6 rfl) (own_w hw 17 rfl) (by decide) (by rw [hml]; rfl) w_FALSE [] [(.ref w_UNKNOWN), (.ref w_TRUE)] pd_2 rfl at_88 rfl e221 (W.2.2.2.1.ext O0.2) rfl rfl rfl (by decide) (by decide) (by decide) (by decide) ?_
        rintro _ T222 L222 X222 ⟨rfl, N222, e222⟩
        have N222 := Fr.app N221 N222
        show Go p e below _ (T222.setTop (mkF m 91 _ [(.ref w_TRUE), (.ref w_UNKNOWN), (.ref w_TRUE)]))
        refine own_virt (W := 1) 94 (rm5_2 l Z a0 hw [] w_TRUE w_FALSE w_UNKNOWN W w_UNKNOWN w_TRUE h0 n0 O0 (Fld.ne W.2.2.2.2.2.2.2.2 W.2.2.2.2.2.2.2.1 (fun q => absurd (Value.int.inj q) (by decide))) rfl) X222 hx hby hZ hown (own_w hw 24 rfl) (own_w hw 25 rfl) (notFace_of_selects (args := #[]) (mvT hZ (own_w hw 27 rfl))) (own_w hw 27 rfl) (own_w hw 26 rfl) (own_w hw 6 rfl) (own_w hw 28 rfl) (by decide) (by rw [hml]; rfl) w_UNKNOWN [(.ref w_TRUE)] [(.ref w_TRUE)] pd_3 rfl at_91 rfl e222 (W.2.2.2.2.2.1.ext O0.2) rfl rfl rfl (by decide) (by decide) (by decide) (by decide) ?_
        rintro _ T223 L223 X223 ⟨rfl, N223, e223⟩
        have N223 := Fr.app N222 N223
        show Go p e below _ (T223.setTop (mkF m 94 _ [(.ref w_TRUE), (.ref w_TRUE)]))
        refine own_acmp 97 true X223 hx hby at_94 rfl rfl (by decide) (by decide) (decide_eq_true (congrArg Value.ref rfl)) ?_
        refine own_iconst 98 (1 : Int32) X223 hx hby at_97 rfl (by decide) ?_
        refine own_goto 102 X223 hx hby at_98 (by decide) (by decide) ?_
        refine own_istore 104 #[oI x0, oI x1, oI x2, oA w_UNKNOWN, oA w_FALSE, oI (1 : Int32), oI (1 : Int32), oI (1 : Int32), oI (1 : Int32)] X223 hx hby at_102 rfl rfl ?_
        refine own_iload 106 X223 hx hby at_104 rfl rfl ?_
        refine own_ifN 109 X223 hx hby at_106 rfl (by decide) ?_
        refine own_iload 111 X223 hx hby at_109 rfl rfl ?_
        refine own_ifN 114 X223 hx hby at_111 rfl (by decide) ?_
        refine own_iload 116 X223 hx hby at_114 rfl rfl ?_
        refine own_ifN 119 X223 hx hby at_116 rfl (by decide) ?_
        refine own_iconst 120 (1 : Int32) X223 hx hby at_119 rfl (by decide) ?_
        refine own_goto 124 X223 hx hby at_120 (by decide) (by decide) ?_
        exact own_ret (Q := own_Q1 n0) X223 hx hby hret hlk at_124 rfl (Or.inl ⟨rfl, by simp, _, rfl⟩) (by decide) (by decide) ⟨rfl, N223⟩
    · refine own_callS (W := 0) 9 (rm1_3 l Z a0 hw [] w_TRUE w_FALSE w_UNKNOWN W x1 h0 n0 O0 hv179) X178 hx hby hZ hown (own_w hw 0 rfl) (own_w hw 1 rfl) (own_w hw 2 rfl) (own_w hw 3 rfl) (by decide) (by rw [hml]; rfl) [(.int x1)] [] pd_0 rfl at_6 rfl e178 rfl rfl rfl (by decide) (by decide) (by decide) (by decide) ?_
      rintro _ T224 L224 X224 ⟨rfl, N224, e224⟩
      have N224 := Fr.app N178 N224
      show Go p e below _ (T224.setTop (mkF m 9 _ [(.ref w_UNKNOWN)]))
      refine own_astore 11 #[oI x0, oI x1, oI x2, oA w_UNKNOWN, oA w_UNKNOWN, oU, oU, oU, oU] X224 hx hby at_9 rfl rfl rfl ?_
      refine own_iload_n 12 X224 hx hby at_11 rfl rfl ?_
      refine own_iconst 13 (1 : Int32) X224 hx hby at_12 rfl (by decide) ?_
      rcases own_and1 x2 with hv225 | hv225
      · refine own_iand 14 (0 : Int32) X224 hx hby at_13 rfl hv225 ?_
        refine own_ifY 21 X224 hx hby at_14 (by decide) (by decide) (by decide) ?_
        refine own_iconst 22 (0 : Int32) X224 hx hby at_21 rfl (by decide) ?_
        refine own_istore 24 #[oI x0, oI x1, oI x2, oA w_UNKNOWN, oA w_UNKNOWN, oI (0 : Int32), oU, oU, oU] X224 hx hby at_22 rfl rfl ?_
        refine own_iload 26 X224 hx hby at_24 rfl rfl ?_
        refine own_callS (W := 0) 29 (rm2_1 l Z a0 hw [] w_TRUE w_FALSE w_UNKNOWN W (0 : Int32) h0 n0 O0 (by decide)) X224 hx hby hZ hown (own_w hw 8 rfl) (own_w hw 9 rfl) (own_w hw 6 rfl) (own_w hw 10 rfl) (by decide) (by rw [hml]; rfl) [(.int (0 : Int32))] [] pd_1 rfl at_26 rfl e224 rfl rfl rfl (by decide) (by decide) (by decide) (by decide) ?_
        rintro _ T226 L226 X226 ⟨rfl, N226, e226⟩
        have N226 := Fr.app N224 N226
        show Go p e below _ (T226.setTop (mkF m 29 _ [(.ref w_FALSE)]))
        refine own_virt (W := 0) 32 (rm3_2 l Z a0 hw [] w_TRUE w_FALSE w_UNKNOWN W w_FALSE h0 n0 O0 (Fld.ne W.2.2.2.2.2.2.1 W.2.2.2.2.2.2.2.1 (fun q => absurd (Value.int.inj q) (by decide))) rfl) X226 hx hby hZ hown (own_w hw 13 rfl) (own_w hw 14 rfl) (notFace_of_selects (args := #[]) (mvT hZ (own_w hw 16 rfl))) (own_w hw 16 rfl) (own_w hw 15 rfl) (own_w hw 6 rfl) (own_w hw 17 rfl) (by decide) (by rw [hml]; rfl) w_FALSE [] [] pd_2 rfl at_29 rfl e226 (W.2.2.2.1.ext O0.2) rfl rfl rfl (by decide) (by decide) (by decide) (by decide) ?_
        rintro _ T227 L227 X227 ⟨rfl, N227, e227⟩
        have N227 := Fr.app N226 N227
        show Go p e below _ (T227.setTop (mkF m 32 _ [(.ref w_TRUE)]))
        refine own_iload 34 X227 hx hby at_32 rfl rfl ?_
        refine own_ifN 37 X227 hx hby at_34 rfl (by decide) ?_
        refine own_iconst 38 (1 : Int32) X227 hx hby at_37 rfl (by decide) ?_
        refine own_goto 42 X227 hx hby at_38 (by decide) (by decide) ?_
        refine own_callS (W := 1) 45 (rm2_2 l Z a0 hw [] w_TRUE w_FALSE w_UNKNOWN W (1 : Int32) h0 n0 O0 (by decide)) X227 hx hby hZ hown (own_w hw 8 rfl) (own_w hw 9 rfl) (own_w hw 6 rfl) (own_w hw 10 rfl) (by decide) (by rw [hml]; rfl) [(.int (1 : Int32))] [(.ref w_TRUE)] pd_1 rfl at_42 rfl e227 rfl rfl rfl (by decide) (by decide) (by decide) (by decide) ?_
        rintro _ T228 L228 X228 ⟨rfl, N228, e228⟩
        have N228 := Fr.app N227 N228
        show Go p e below _ (T228.setTop (mkF m 45 _ [(.ref w_TRUE), (.ref w_TRUE)]))
        refine own_acmp 48 true X228 hx hby at_45 rfl rfl (by decide) (by decide) (decide_eq_true (congrArg Value.ref rfl)) ?_
        refine own_iconst 49 (1 : Int32) X228 hx hby at_48 rfl (by decide) ?_
        refine own_goto 53 X228 hx hby at_49 (by decide) (by decide) ?_
        refine own_istore 55 #[oI x0, oI x1, oI x2, oA w_UNKNOWN, oA w_UNKNOWN, oI (0 : Int32), oI (1 : Int32), oU, oU] X228 hx hby at_53 rfl rfl ?_
        refine own_aload_n 56 X228 hx hby at_55 rfl rfl rfl ?_
        refine own_virt (W := 0) 59 (rm3_3 l Z a0 hw [] w_TRUE w_FALSE w_UNKNOWN W w_UNKNOWN h0 n0 O0 (Fld.ne W.2.2.2.2.2.2.2.2 W.2.2.2.2.2.2.2.1 (fun q => absurd (Value.int.inj q) (by decide))) (Fld.ne W.2.2.2.2.2.2.2.2 W.2.2.2.2.2.2.1 (fun q => absurd (Value.int.inj q) (by decide)))) X228 hx hby hZ hown (own_w hw 13 rfl) (own_w hw 14 rfl) (notFace_of_selects (args := #[]) (mvT hZ (own_w hw 16 rfl))) (own_w hw 16 rfl) (own_w hw 15 rfl) (own_w hw 6 rfl) (own_w hw 17 rfl) (by decide) (by rw [hml]; rfl) w_UNKNOWN [] [] pd_2 rfl at_56 rfl e228 (W.2.2.2.2.2.1.ext O0.2) rfl rfl rfl (by decide) (by decide) (by decide) (by decide) ?_
        rintro _ T229 L229 X229 ⟨rfl, N229, e229⟩
        have N229 := Fr.app N228 N229
        show Go p e below _ (T229.setTop (mkF m 59 _ [(.ref w_UNKNOWN)]))
        refine own_virt (W := 0) 62 (rm3_3 l Z a0 hw [] w_TRUE w_FALSE w_UNKNOWN W w_UNKNOWN h0 n0 O0 (Fld.ne W.2.2.2.2.2.2.2.2 W.2.2.2.2.2.2.2.1 (fun q => absurd (Value.int.inj q) (by decide))) (Fld.ne W.2.2.2.2.2.2.2.2 W.2.2.2.2.2.2.1 (fun q => absurd (Value.int.inj q) (by decide)))) X229 hx hby hZ hown (own_w hw 13 rfl) (own_w hw 14 rfl) (notFace_of_selects (args := #[]) (mvT hZ (own_w hw 16 rfl))) (own_w hw 16 rfl) (own_w hw 15 rfl) (own_w hw 6 rfl) (own_w hw 17 rfl) (by decide) (by rw [hml]; rfl) w_UNKNOWN [] [] pd_2 rfl at_59 rfl e229 (W.2.2.2.2.2.1.ext O0.2) rfl rfl rfl (by decide) (by decide) (by decide) (by decide) ?_
        rintro _ T230 L230 X230 ⟨rfl, N230, e230⟩
        have N230 := Fr.app N229 N230
        show Go p e below _ (T230.setTop (mkF m 62 _ [(.ref w_UNKNOWN)]))
        refine own_aload_n 63 X230 hx hby at_62 rfl rfl rfl ?_
        refine own_acmp 66 true X230 hx hby at_63 rfl rfl (by decide) (by decide) (decide_eq_true (congrArg Value.ref rfl)) ?_
        refine own_iconst 67 (1 : Int32) X230 hx hby at_66 rfl (by decide) ?_
        refine own_goto 71 X230 hx hby at_67 (by decide) (by decide) ?_
        refine own_istore 73 #[oI x0, oI x1, oI x2, oA w_UNKNOWN, oA w_UNKNOWN, oI (0 : Int32), oI (1 : Int32), oI (1 : Int32), oU] X230 hx hby at_71 rfl rfl ?_
        refine own_aload_n 74 X230 hx hby at_73 rfl rfl rfl ?_
        refine own_aload 76 X230 hx hby at_74 rfl rfl rfl ?_
        refine own_virt (W := 0) 79 (rm4_5 l Z a0 hw [] w_TRUE w_FALSE w_UNKNOWN W w_UNKNOWN w_UNKNOWN h0 n0 O0 (Fld.ne W.2.2.2.2.2.2.2.2 W.2.2.2.2.2.2.1 (fun q => absurd (Value.int.inj q) (by decide))) (Fld.ne W.2.2.2.2.2.2.2.2 W.2.2.2.2.2.2.1 (fun q => absurd (Value.int.inj q) (by decide))) (Fld.ne W.2.2.2.2.2.2.2.2 W.2.2.2.2.2.2.2.1 (fun q => absurd (Value.int.inj q) (by decide)))) X230 hx hby hZ hown (own_w hw 19 rfl) (own_w hw 20 rfl) (notFace_of_selects (args := #[]) (mvT hZ (own_w hw 22 rfl))) (own_w hw 22 rfl) (own_w hw 21 rfl) (own_w hw 6 rfl) (own_w hw 23 rfl) (by decide) (by rw [hml]; rfl) w_UNKNOWN [(.ref w_UNKNOWN)] [] pd_3 rfl at_76 rfl e230 (W.2.2.2.2.2.1.ext O0.2) rfl rfl rfl (by decide) (by decide) (by decide) (by decide) ?_
        rintro _ T231 L231 X231 ⟨rfl, N231, e231⟩
        have N231 := Fr.app N230 N231
        show Go p e below _ (T231.setTop (mkF m 79 _ [(.ref w_UNKNOWN)]))
        refine own_virt (W := 0) 82 (rm3_3 l Z a0 hw [] w_TRUE w_FALSE w_UNKNOWN W w_UNKNOWN h0 n0 O0 (Fld.ne W.2.2.2.2.2.2.2.2 W.2.2.2.2.2.2.2.1 (fun q => absurd (Value.int.inj q) (by decide))) (Fld.ne W.2.2.2.2.2.2.2.2 W.2.2.2.2.2.2.1 (fun q => absurd (Value.int.inj q) (by decide)))) X231 hx hby hZ hown (own_w hw 13 rfl) (own_w hw 14 rfl) (notFace_of_selects (args := #[]) (mvT hZ (own_w hw 16 rfl))) (own_w hw 16 rfl) (own_w hw 15 rfl) (own_w hw 6 rfl) (own_w hw 17 rfl) (by decide) (by rw [hml]; rfl) w_UNKNOWN [] [] pd_2 rfl at_79 rfl e231 (W.2.2.2.2.2.1.ext O0.2) rfl rfl rfl (by decide) (by decide) (by decide) (by decide) ?_
        rintro _ T232 L232 X232 ⟨rfl, N232, e232⟩
        have N232 := Fr.app N231 N232
        show Go p e below _ (T232.setTop (mkF m 82 _ [(.ref w_UNKNOWN)]))
        refine own_aload_n 83 X232 hx hby at_82 rfl rfl rfl ?_
        refine own_virt (W := 1) 86 (rm3_3 l Z a0 hw [] w_TRUE w_FALSE w_UNKNOWN W w_UNKNOWN h0 n0 O0 (Fld.ne W.2.2.2.2.2.2.2.2 W.2.2.2.2.2.2.2.1 (fun q => absurd (Value.int.inj q) (by decide))) (Fld.ne W.2.2.2.2.2.2.2.2 W.2.2.2.2.2.2.1 (fun q => absurd (Value.int.inj q) (by decide)))) X232 hx hby hZ hown (own_w hw 13 rfl) (own_w hw 14 rfl) (notFace_of_selects (args := #[]) (mvT hZ (own_w hw 16 rfl))) (own_w hw 16 rfl) (own_w hw 15 rfl) (own_w hw 6 rfl) (own_w hw 17 rfl) (by decide) (by rw [hml]; rfl) w_UNKNOWN [] [(.ref w_UNKNOWN)] pd_2 rfl at_83 rfl e232 (W.2.2.2.2.2.1.ext O0.2) rfl rfl rfl (by decide) (by decide) (by decide) (by decide) ?_
        rintro _ T233 L233 X233 ⟨rfl, N233, e233⟩
        have N233 := Fr.app N232 N233
        show Go p e below _ (T233.setTop (mkF m 86 _ [(.ref w_UNKNOWN), (.ref w_UNKNOWN)]))
        refine own_aload 88 X233 hx hby at_86 rfl rfl rfl ?_
        refine own_virt (W := 2) 91 (rm3_3 l Z a0 hw [] w_TRUE w_FALSE w_UNKNOWN W w_UNKNOWN h0 n0 O0 (Fld.ne W.2.2.2.2.2.2.2.2 W.2.2.2.2.2.2.2.1 (fun q => absurd (Value.int.inj q) (by decide))) (Fld.ne W.2.2.2.2.2.2.2.2 W.2.2.2.2.2.2.1 (fun q => absurd (Value.int.inj q) (by decide)))) X233 hx hby hZ hown (own_w hw 13 rfl) (own_w hw 14 rfl) (notFace_of_selects (args := #[]) (mvT hZ (own_w hw 16 rfl))) (own_w hw 16 rfl) (own_w hw 15 rfl) (own_w hw 6 rfl) (own_w hw 17 rfl) (by decide) (by rw [hml]; rfl) w_UNKNOWN [] [(.ref w_UNKNOWN), (.ref w_UNKNOWN)] pd_2 rfl at_88 rfl e233 (W.2.2.2.2.2.1.ext O0.2) rfl rfl rfl (by decide) (by decide) (by decide) (by decide) ?_
        rintro _ T234 L234 X234 ⟨rfl, N234, e234⟩
        have N234 := Fr.app N233 N234
        show Go p e below _ (T234.setTop (mkF m 91 _ [(.ref w_UNKNOWN), (.ref w_UNKNOWN), (.ref w_UNKNOWN)]))
        refine own_virt (W := 1) 94 (rm5_5 l Z a0 hw [] w_TRUE w_FALSE w_UNKNOWN W w_UNKNOWN w_UNKNOWN h0 n0 O0 (Fld.ne W.2.2.2.2.2.2.2.2 W.2.2.2.2.2.2.2.1 (fun q => absurd (Value.int.inj q) (by decide))) (Fld.ne W.2.2.2.2.2.2.2.2 W.2.2.2.2.2.2.2.1 (fun q => absurd (Value.int.inj q) (by decide))) (Fld.ne W.2.2.2.2.2.2.2.2 W.2.2.2.2.2.2.1 (fun q => absurd (Value.int.inj q) (by decide)))) X234 hx hby hZ hown (own_w hw 24 rfl) (own_w hw 25 rfl) (notFace_of_selects (args := #[]) (mvT hZ (own_w hw 27 rfl))) (own_w hw 27 rfl) (own_w hw 26 rfl) (own_w hw 6 rfl) (own_w hw 28 rfl) (by decide) (by rw [hml]; rfl) w_UNKNOWN [(.ref w_UNKNOWN)] [(.ref w_UNKNOWN)] pd_3 rfl at_91 rfl e234 (W.2.2.2.2.2.1.ext O0.2) rfl rfl rfl (by decide) (by decide) (by decide) (by decide) ?_
        rintro _ T235 L235 X235 ⟨rfl, N235, e235⟩
        have N235 := Fr.app N234 N235
        show Go p e below _ (T235.setTop (mkF m 94 _ [(.ref w_UNKNOWN), (.ref w_UNKNOWN)]))
        refine own_acmp 97 true X235 hx hby at_94 rfl rfl (by decide) (by decide) (decide_eq_true (congrArg Value.ref rfl)) ?_
        refine own_iconst 98 (1 : Int32) X235 hx hby at_97 rfl (by decide) ?_
        refine own_goto 102 X235 hx hby at_98 (by decide) (by decide) ?_
        refine own_istore 104 #[oI x0, oI x1, oI x2, oA w_UNKNOWN, oA w_UNKNOWN, oI (0 : Int32), oI (1 : Int32), oI (1 : Int32), oI (1 : Int32)] X235 hx hby at_102 rfl rfl ?_
        refine own_iload 106 X235 hx hby at_104 rfl rfl ?_
        refine own_ifN 109 X235 hx hby at_106 rfl (by decide) ?_
        refine own_iload 111 X235 hx hby at_109 rfl rfl ?_
        refine own_ifN 114 X235 hx hby at_111 rfl (by decide) ?_
        refine own_iload 116 X235 hx hby at_114 rfl rfl ?_
        refine own_ifN 119 X235 hx hby at_116 rfl (by decide) ?_
        refine own_iconst 120 (1 : Int32) X235 hx hby at_119 rfl (by decide) ?_
        refine own_goto 124 X235 hx hby at_120 (by decide) (by decide) ?_
        exact own_ret (Q := own_Q1 n0) X235 hx hby hret hlk at_124 rfl (Or.inl ⟨rfl, by simp, _, rfl⟩) (by decide) (by decide) ⟨rfl, N235⟩
      · refine own_iand 14 (1 : Int32) X224 hx hby at_13 rfl hv225 ?_
        refine own_ifN 17 X224 hx hby at_14 rfl (by decide) ?_
        refine own_iconst 18 (1 : Int32) X224 hx hby at_17 rfl (by decide) ?_
        refine own_goto 22 X224 hx hby at_18 (by decide) (by decide) ?_
        refine own_istore 24 #[oI x0, oI x1, oI x2, oA w_UNKNOWN, oA w_UNKNOWN, oI (1 : Int32), oU, oU, oU] X224 hx hby at_22 rfl rfl ?_
        refine own_iload 26 X224 hx hby at_24 rfl rfl ?_
        refine own_callS (W := 0) 29 (rm2_2 l Z a0 hw [] w_TRUE w_FALSE w_UNKNOWN W (1 : Int32) h0 n0 O0 (by decide)) X224 hx hby hZ hown (own_w hw 8 rfl) (own_w hw 9 rfl) (own_w hw 6 rfl) (own_w hw 10 rfl) (by decide) (by rw [hml]; rfl) [(.int (1 : Int32))] [] pd_1 rfl at_26 rfl e224 rfl rfl rfl (by decide) (by decide) (by decide) (by decide) ?_
        rintro _ T236 L236 X236 ⟨rfl, N236, e236⟩
        have N236 := Fr.app N224 N236
        show Go p e below _ (T236.setTop (mkF m 29 _ [(.ref w_TRUE)]))
        refine own_virt (W := 0) 32 (rm3_1 l Z a0 hw [] w_TRUE w_FALSE w_UNKNOWN W w_TRUE h0 n0 O0 rfl) X236 hx hby hZ hown (own_w hw 13 rfl) (own_w hw 14 rfl) (notFace_of_selects (args := #[]) (mvT hZ (own_w hw 16 rfl))) (own_w hw 16 rfl) (own_w hw 15 rfl) (own_w hw 6 rfl) (own_w hw 17 rfl) (by decide) (by rw [hml]; rfl) w_TRUE [] [] pd_2 rfl at_29 rfl e236 (W.2.1.ext O0.2) rfl rfl rfl (by decide) (by decide) (by decide) (by decide) ?_
        rintro _ T237 L237 X237 ⟨rfl, N237, e237⟩
        have N237 := Fr.app N236 N237
        show Go p e below _ (T237.setTop (mkF m 32 _ [(.ref w_FALSE)]))
        refine own_iload 34 X237 hx hby at_32 rfl rfl ?_
        refine own_ifY 41 X237 hx hby at_34 (by decide) (by decide) (by decide) ?_
        refine own_iconst 42 (0 : Int32) X237 hx hby at_41 rfl (by decide) ?_
        refine own_callS (W := 1) 45 (rm2_1 l Z a0 hw [] w_TRUE w_FALSE w_UNKNOWN W (0 : Int32) h0 n0 O0 (by decide)) X237 hx hby hZ hown (own_w hw 8 rfl) (own_w hw 9 rfl) (own_w hw 6 rfl) (own_w hw 10 rfl) (by decide) (by rw [hml]; rfl) [(.int (0 : Int32))] [(.ref w_FALSE)] pd_1 rfl at_42 rfl e237 rfl rfl rfl (by decide) (by decide) (by decide) (by decide) ?_
        rintro _ T238 L238 X238 ⟨rfl, N238, e238⟩
        have N238 := Fr.app N237 N238
        show Go p e below _ (T238.setTop (mkF m 45 _ [(.ref w_FALSE), (.ref w_FALSE)]))
        refine own_acmp 48 true X238 hx hby at_45 rfl rfl (by decide) (by decide) (decide_eq_true (congrArg Value.ref rfl)) ?_
        refine own_iconst 49 (1 : Int32) X238 hx hby at_48 rfl (by decide) ?_
        refine own_goto 53 X238 hx hby at_49 (by decide) (by decide) ?_
        refine own_istore 55 #[oI x0, oI x1, oI x2, oA w_UNKNOWN, oA w_UNKNOWN, oI (1 : Int32), oI (1 : Int32), oU, oU] X238 hx hby at_53 rfl rfl ?_
        refine own_aload_n 56 X238 hx hby at_55 rfl rfl rfl ?_
        refine own_virt (W := 0) 59 (rm3_3 l Z a0 hw [] w_TRUE w_FALSE w_UNKNOWN W w_UNKNOWN h0 n0 O0 (Fld.ne W.2.2.2.2.2.2.2.2 W.2.2.2.2.2.2.2.1 (fun q => absurd (Value.int.inj q) (by decide))) (Fld.ne W.2.2.2.2.2.2.2.2 W.2.2.2.2.2.2.1 (fun q => absurd (Value.int.inj q) (by decide)))) X238 hx hby hZ hown (own_w hw 13 rfl) (own_w hw 14 rfl) (notFace_of_selects (args := #[]) (mvT hZ (own_w hw 16 rfl))) (own_w hw 16 rfl) (own_w hw 15 rfl) (own_w hw 6 rfl) (own_w hw 17 rfl) (by decide) (by rw [hml]; rfl) w_UNKNOWN [] [] pd_2 rfl at_56 rfl e238 (W.2.2.2.2.2.1.ext O0.2) rfl rfl rfl (by decide) (by decide) (by decide) (by decide) ?_
        rintro _ T239 L239 X239 ⟨rfl, N239, e239⟩
        have N239 := Fr.app N238 N239
        show Go p e below _ (T239.setTop (mkF m 59 _ [(.ref w_UNKNOWN)]))
        refine own_virt (W := 0) 62 (rm3_3 l Z a0 hw [] w_TRUE w_FALSE w_UNKNOWN W w_UNKNOWN h0 n0 O0 (Fld.ne W.2.2.2.2.2.2.2.2 W.2.2.2.2.2.2.2.1 (fun q => absurd (Value.int.inj q) (by decide))) (Fld.ne W.2.2.2.2.2.2.2.2 W.2.2.2.2.2.2.1 (fun q => absurd (Value.int.inj q) (by decide)))) X239 hx hby hZ hown (own_w hw 13 rfl) (own_w hw 14 rfl) (notFace_of_selects (args := #[]) (mvT hZ (own_w hw 16 rfl))) (own_w hw 16 rfl) (own_w hw 15 rfl) (own_w hw 6 rfl) (own_w hw 17 rfl) (by decide) (by rw [hml]; rfl) w_UNKNOWN [] [] pd_2 rfl at_59 rfl e239 (W.2.2.2.2.2.1.ext O0.2) rfl rfl rfl (by decide) (by decide) (by decide) (by decide) ?_
        rintro _ T240 L240 X240 ⟨rfl, N240, e240⟩
        have N240 := Fr.app N239 N240
        show Go p e below _ (T240.setTop (mkF m 62 _ [(.ref w_UNKNOWN)]))
        refine own_aload_n 63 X240 hx hby at_62 rfl rfl rfl ?_
        refine own_acmp 66 true X240 hx hby at_63 rfl rfl (by decide) (by decide) (decide_eq_true (congrArg Value.ref rfl)) ?_
        refine own_iconst 67 (1 : Int32) X240 hx hby at_66 rfl (by decide) ?_
        refine own_goto 71 X240 hx hby at_67 (by decide) (by decide) ?_
        refine own_istore 73 #[oI x0, oI x1, oI x2, oA w_UNKNOWN, oA w_UNKNOWN, oI (1 : Int32), oI (1 : Int32), oI (1 : Int32), oU] X240 hx hby at_71 rfl rfl ?_
        refine own_aload_n 74 X240 hx hby at_73 rfl rfl rfl ?_
        refine own_aload 76 X240 hx hby at_74 rfl rfl rfl ?_
        refine own_virt (W := 0) 79 (rm4_5 l Z a0 hw [] w_TRUE w_FALSE w_UNKNOWN W w_UNKNOWN w_UNKNOWN h0 n0 O0 (Fld.ne W.2.2.2.2.2.2.2.2 W.2.2.2.2.2.2.1 (fun q => absurd (Value.int.inj q) (by decide))) (Fld.ne W.2.2.2.2.2.2.2.2 W.2.2.2.2.2.2.1 (fun q => absurd (Value.int.inj q) (by decide))) (Fld.ne W.2.2.2.2.2.2.2.2 W.2.2.2.2.2.2.2.1 (fun q => absurd (Value.int.inj q) (by decide)))) X240 hx hby hZ hown (own_w hw 19 rfl) (own_w hw 20 rfl) (notFace_of_selects (args := #[]) (mvT hZ (own_w hw 22 rfl))) (own_w hw 22 rfl) (own_w hw 21 rfl) (own_w hw 6 rfl) (own_w hw 23 rfl) (by decide) (by rw [hml]; rfl) w_UNKNOWN [(.ref w_UNKNOWN)] [] pd_3 rfl at_76 rfl e240 (W.2.2.2.2.2.1.ext O0.2) rfl rfl rfl (by decide) (by decide) (by decide) (by decide) ?_
        rintro _ T241 L241 X241 ⟨rfl, N241, e241⟩
        have N241 := Fr.app N240 N241
        show Go p e below _ (T241.setTop (mkF m 79 _ [(.ref w_UNKNOWN)]))
        refine own_virt (W := 0) 82 (rm3_3 l Z a0 hw [] w_TRUE w_FALSE w_UNKNOWN W w_UNKNOWN h0 n0 O0 (Fld.ne W.2.2.2.2.2.2.2.2 W.2.2.2.2.2.2.2.1 (fun q => absurd (Value.int.inj q) (by decide))) (Fld.ne W.2.2.2.2.2.2.2.2 W.2.2.2.2.2.2.1 (fun q => absurd (Value.int.inj q) (by decide)))) X241 hx hby hZ hown (own_w hw 13 rfl) (own_w hw 14 rfl) (notFace_of_selects (args := #[]) (mvT hZ (own_w hw 16 rfl))) (own_w hw 16 rfl) (own_w hw 15 rfl) (own_w hw 6 rfl) (own_w hw 17 rfl) (by decide) (by rw [hml]; rfl) w_UNKNOWN [] [] pd_2 rfl at_79 rfl e241 (W.2.2.2.2.2.1.ext O0.2) rfl rfl rfl (by decide) (by decide) (by decide) (by decide) ?_
        rintro _ T242 L242 X242 ⟨rfl, N242, e242⟩
        have N242 := Fr.app N241 N242
        show Go p e below _ (T242.setTop (mkF m 82 _ [(.ref w_UNKNOWN)]))
        refine own_aload_n 83 X242 hx hby at_82 rfl rfl rfl ?_
        refine own_virt (W := 1) 86 (rm3_3 l Z a0 hw [] w_TRUE w_FALSE w_UNKNOWN W w_UNKNOWN h0 n0 O0 (Fld.ne W.2.2.2.2.2.2.2.2 W.2.2.2.2.2.2.2.1 (fun q => absurd (Value.int.inj q) (by decide))) (Fld.ne W.2.2.2.2.2.2.2.2 W.2.2.2.2.2.2.1 (fun q => absurd (Value.int.inj q) (by decide)))) X242 hx hby hZ hown (own_w hw 13 rfl) (own_w hw 14 rfl) (notFace_of_selects (args := #[]) (mvT hZ (own_w hw 16 rfl))) (own_w hw 16 rfl) (own_w hw 15 rfl) (own_w hw 6 rfl) (own_w hw 17 rfl) (by decide) (by rw [hml]; rfl) w_UNKNOWN [] [(.ref w_UNKNOWN)] pd_2 rfl at_83 rfl e242 (W.2.2.2.2.2.1.ext O0.2) rfl rfl rfl (by decide) (by decide) (by decide) (by decide) ?_
        rintro _ T243 L243 X243 ⟨rfl, N243, e243⟩
        have N243 := Fr.app N242 N243
        show Go p e below _ (T243.setTop (mkF m 86 _ [(.ref w_UNKNOWN), (.ref w_UNKNOWN)]))
        refine own_aload 88 X243 hx hby at_86 rfl rfl rfl ?_
        refine own_virt (W := 2) 91 (rm3_3 l Z a0 hw [] w_TRUE w_FALSE w_UNKNOWN W w_UNKNOWN h0 n0 O0 (Fld.ne W.2.2.2.2.2.2.2.2 W.2.2.2.2.2.2.2.1 (fun q => absurd (Value.int.inj q) (by decide))) (Fld.ne W.2.2.2.2.2.2.2.2 W.2.2.2.2.2.2.1 (fun q => absurd (Value.int.inj q) (by decide)))) X243 hx hby hZ hown (own_w hw 13 rfl) (own_w hw 14 rfl) (notFace_of_selects (args := #[]) (mvT hZ (own_w hw 16 rfl))) (own_w hw 16 rfl) (own_w hw 15 rfl) (own_w hw 6 rfl) (own_w hw 17 rfl) (by decide) (by rw [hml]; rfl) w_UNKNOWN [] [(.ref w_UNKNOWN), (.ref w_UNKNOWN)] pd_2 rfl at_88 rfl e243 (W.2.2.2.2.2.1.ext O0.2) rfl rfl rfl (by decide) (by decide) (by decide) (by decide) ?_
        rintro _ T244 L244 X244 ⟨rfl, N244, e244⟩
        have N244 := Fr.app N243 N244
        show Go p e below _ (T244.setTop (mkF m 91 _ [(.ref w_UNKNOWN), (.ref w_UNKNOWN), (.ref w_UNKNOWN)]))
        refine own_virt (W := 1) 94 (rm5_5 l Z a0 hw [] w_TRUE w_FALSE w_UNKNOWN W w_UNKNOWN w_UNKNOWN h0 n0 O0 (Fld.ne W.2.2.2.2.2.2.2.2 W.2.2.2.2.2.2.2.1 (fun q => absurd (Value.int.inj q) (by decide))) (Fld.ne W.2.2.2.2.2.2.2.2 W.2.2.2.2.2.2.2.1 (fun q => absurd (Value.int.inj q) (by decide))) (Fld.ne W.2.2.2.2.2.2.2.2 W.2.2.2.2.2.2.1 (fun q => absurd (Value.int.inj q) (by decide)))) X244 hx hby hZ hown (own_w hw 24 rfl) (own_w hw 25 rfl) (notFace_of_selects (args := #[]) (mvT hZ (own_w hw 27 rfl))) (own_w hw 27 rfl) (own_w hw 26 rfl) (own_w hw 6 rfl) (own_w hw 28 rfl) (by decide) (by rw [hml]; rfl) w_UNKNOWN [(.ref w_UNKNOWN)] [(.ref w_UNKNOWN)] pd_3 rfl at_91 rfl e244 (W.2.2.2.2.2.1.ext O0.2) rfl rfl rfl (by decide) (by decide) (by decide) (by decide) ?_
        rintro _ T245 L245 X245 ⟨rfl, N245, e245⟩
        have N245 := Fr.app N244 N245
        show Go p e below _ (T245.setTop (mkF m 94 _ [(.ref w_UNKNOWN), (.ref w_UNKNOWN)]))
        refine own_acmp 97 true X245 hx hby at_94 rfl rfl (by decide) (by decide) (decide_eq_true (congrArg Value.ref rfl)) ?_
        refine own_iconst 98 (1 : Int32) X245 hx hby at_97 rfl (by decide) ?_
        refine own_goto 102 X245 hx hby at_98 (by decide) (by decide) ?_
        refine own_istore 104 #[oI x0, oI x1, oI x2, oA w_UNKNOWN, oA w_UNKNOWN, oI (1 : Int32), oI (1 : Int32), oI (1 : Int32), oI (1 : Int32)] X245 hx hby at_102 rfl rfl ?_
        refine own_iload 106 X245 hx hby at_104 rfl rfl ?_
        refine own_ifN 109 X245 hx hby at_106 rfl (by decide) ?_
        refine own_iload 111 X245 hx hby at_109 rfl rfl ?_
        refine own_ifN 114 X245 hx hby at_111 rfl (by decide) ?_
        refine own_iload 116 X245 hx hby at_114 rfl rfl ?_
        refine own_ifN 119 X245 hx hby at_116 rfl (by decide) ?_
        refine own_iconst 120 (1 : Int32) X245 hx hby at_119 rfl (by decide) ?_
        refine own_goto 124 X245 hx hby at_120 (by decide) (by decide) ?_
        exact own_ret (Q := own_Q1 n0) X245 hx hby hret hlk at_124 rfl (Or.inl ⟨rfl, by simp, _, rfl⟩) (by decide) (by decide) ⟨rfl, N245⟩
set_option maxRecDepth 65536 in
set_option maxHeartbeats 40000000 in
theorem comes_1 {Post : Tables → Env → Array Value → State → Outcome → State → Prop} (hpost : ∀ tb e args s v u, (limb_1_1.after args s (.returned v) u = true ∧ limb_1_2.after args s (.returned v) u = true) → FrameEnd s (.returned v) u (Jvm.fieldLocs frame_1_writes args s ++ Jvm.arrayLocs frame_1_arrays args s ++ Jvm.staticLocs frame_1_statics s) 0 0 → Post tb e args s (.returned v) u) :
    ArmFor flags0 classFile x code maxLocals ret World_1 tables_1 room_1 Calls_1 rest_1 Pre_1 Post := by
  intro l hfl _ _ p e ha hc hk s m args below hf hA hF happ hP
  obtain ⟨hcalls, hrest, hpre⟩ := hP
  obtain ⟨-, -, -, hnamed, -, -, -, hat⟩ := (Spec.applies_iff hf).mp happ
  obtain ⟨hg, hn⟩ := and_e (Cond.before_iff.mp (show (Jvm.Cond.and given_1 narrow_1).before args s = true from hpre))
  obtain ⟨ga0, gb0⟩ := and_e hg
  obtain ⟨ga1, gb1⟩ := and_e gb0
  obtain ⟨ga2, ga3⟩ := and_e gb1
  obtain ⟨u0, u1, u2, rfl⟩ : ∃ u0 u1 u2 : Value, args = #[u0, u1, u2] := by
    have hs : args.size = 3 := by simpa [Cond.value, given_1] using ga0
    obtain ⟨L⟩ := args
    match L, hs with
    | [u0, u1, u2], _ => exact ⟨u0, u1, u2, rfl⟩
  have hw := fun d (hd : d ∈ tables_1) => atoms_spec (ws := Jvm.Cond.code x code maxLocals ret :: tables_1) hat d (List.mem_cons_of_mem _ hd)
  have hfit : Fit s := fun {y c} hc i hi => by
    obtain ⟨ha, rfl⟩ := Array.getElem?_eq_some_iff.mp hc
    have q := List.all_eq_true.mp ((Array.all_eq_true_iff_forall_mem.mp hF) _ (Array.getElem_mem ha)) i (List.mem_range.mpr hi)
    simpa [Array.getElem?_eq_getElem hi] using q
  obtain ⟨i0, ei0⟩ := is_v ga1
  obtain rfl : u0 = (.int i0) := Option.some.inj ei0
  obtain ⟨i1, ei1⟩ := is_v ga2
  obtain rfl : u1 = (.int i1) := Option.some.inj ei1
  obtain ⟨i2, ei2⟩ := is_v ga3
  obtain rfl : u2 = (.int i2) := Option.some.inj ei2
  obtain ⟨na0, nb0⟩ := and_e hn
  obtain ⟨na1, nb1⟩ := and_e nb0
  obtain ⟨na2, nb2⟩ := and_e nb1
  obtain ⟨na3, nb3⟩ := and_e nb2
  obtain ⟨na4, na5⟩ := and_e nb3
  obtain ⟨w_TRUE, v_w_TRUE⟩ := exa_v na0
  have S_w_TRUE := Sta.start v_w_TRUE (Or.inr ⟨(own_w hw 6 rfl), (own_w hw 7 rfl)⟩)
  have E_w_TRUE := Exa.start v_w_TRUE na0
  obtain ⟨w_FALSE, v_w_FALSE⟩ := exa_v na1
  have S_w_FALSE := Sta.start v_w_FALSE (Or.inr ⟨(own_w hw 6 rfl), (own_w hw 12 rfl)⟩)
  have E_w_FALSE := Exa.start v_w_FALSE na1
  obtain ⟨w_UNKNOWN, v_w_UNKNOWN⟩ := exa_v na4
  have S_w_UNKNOWN := Sta.start v_w_UNKNOWN (Or.inr ⟨(own_w hw 6 rfl), (own_w hw 31 rfl)⟩)
  have E_w_UNKNOWN := Exa.start v_w_UNKNOWN na4
  have F_ordinal_w_FALSE := own_fld na2 v_w_FALSE
  have F_ordinal_w_TRUE := own_fld na3 v_w_TRUE
  have F_ordinal_w_UNKNOWN := own_fld na5 v_w_UNKNOWN
  obtain ⟨n, o, h1, h2, h3, _, L, rfl, ⟨rfl, N⟩, hq⟩ := rm0 l s _ hw tables_1 w_TRUE w_FALSE w_UNKNOWN ⟨S_w_TRUE, E_w_TRUE, S_w_FALSE, E_w_FALSE, S_w_UNKNOWN, E_w_UNKNOWN, F_ordinal_w_FALSE, F_ordinal_w_TRUE, F_ordinal_w_UNKNOWN⟩ i0 i1 i2 s.heap s.heap.size (Old.start s) p e ha hc hk s m _ below hf ((Spec.applies_iff_loose hf).mp happ).1 ⟨rfl, State.Warmed39.refl s, rfl⟩ trivial
  refine ⟨n, _, h1, h2, h3, hpost _ _ _ _ _ _ ⟨Cond.after_iff.mpr rfl, Cond.after_iff.mpr (eq_i res_at (Term.int_eval (1)) rfl)⟩ ⟨hq.1, hq.2.1, (hq.2.2.sift fun y hy => Or.inr (N y hy)).mono (by decide) (by decide)⟩⟩
theorem main_1_1 : Claimed_1_1 := comes_1 fun _ _ _ _ _ _ h hF => ⟨h.1, hF⟩
theorem main_1_2 : Claimed_1_2 := comes_1 fun _ _ _ _ _ _ h hF => ⟨h.2, hF⟩
end Jvm.Pilot.@@N@@
namespace Jvm.Pilot.@@N@@
open Jvm Jvm.ClassFile Sem Op Lib Jvm.Free Jvm.Stand Jvm.Pilot.@@N@@.Jvm.D
/-! MADE BY PROGRAM (witnessworld.py) out of the Statement's table words and the real class files: 12 classes; the members and pool entries that the words name. The judged class is class 1, her method 2. -/
namespace start1
open Jvm.ClassFile
def u (s : String) : CpInfo := .utf8 (stringToUtf16 s)
/-- a pool by its gaps: so many unusable entries, then the entry; so many at the end -/
def gap : Nat → List CpInfo → List CpInfo
  | 0, r => r
  | n + 1, r => .unusable :: gap n r
def poolList (es : List (Nat × CpInfo)) (last : Nat) : List CpInfo := es.foldr (fun e r => gap e.1 (e.2 :: r)) (gap last [])
def pool (es : List (Nat × CpInfo)) (last : Nat) : Array CpInfo := ⟨poolList es last⟩
def fileOf (pool : Array CpInfo) (this : Nat) (attrs : Array Attribute := #[]) (ms : Array MethodInfo := #[]) (fl : Nat := 33) (sup : Nat := 0) (ifs : Array Nat := #[]) (fds : Array FieldInfo := #[]) : ClassFile where
  minorVersion := 0
  majorVersion := 65
  constantPool := pool
  accessFlags := fl
  thisClass := this
  superClass := sup
  interfaces := ifs
  fields := fds
  methods := ms
  attributes := attrs
def plain (name : String) (sup : Option ClassId) : Class where
  name := name
  kind := .ordinary
  loader := none
  accessFlags := 33
  super := sup
  interfaces := #[]
  cf := none
  fields := #[]
  methods := #[]
  instanceTypes := #[]
  staticTypes := #[]
  resolved := #[]
  callSites := []
  init := .initialized
  statics := none
  mirror := none

def pool0 : Array CpInfo := pool [(5, u "<init>"), (0, u "()V"), (1, .class_ 10), (1, u "java/lang/Object")] 113

def k0m0 : Method := { name := "<init>", desc := "()V", sig := { parameters := [], returnType := none }, accessFlags := 1, code := none }
/-- java/lang/Object -/
def k0 : Class := { plain "java/lang/Object" none with
  accessFlags := 33
  interfaces := #[]
  cf := some (fileOf pool0 8 #[] #[{ accessFlags := 1, nameIndex := 5, descriptorIndex := 6, attributes := #[] }] 33 0 #[] #[])
  fields := #[]
  methods := #[k0m0]
  instanceTypes := #[]
  staticTypes := #[]
  resolved := Array.replicate 124 none
  statics := none }

def pool1 : Array CpInfo := pool [(2, .class_ 4), (1, u "java/lang/Object"), (0, u "<init>"), (0, u "()V"), (0, .integer 2147483647), (0, .fieldref 9 10), (0, .class_ 11), (0, .nameAndType 12 13), (0, u "com/example/foram/foram/Truth"), (0, u "TRUE"), (0, u "Lcom/example/foram/foram/Truth;"), (0, .fieldref 9 15), (0, .nameAndType 16 13), (0, u "FALSE"), (0, .fieldref 9 18), (0, .nameAndType 19 13), (0, u "UNKNOWN"), (0, .methodref 21 22), (0, .class_ 23), (0, .nameAndType 24 25), (0, u "com/example/foram/foram/TruthNotPinLaw"), (0, u "pick"), (0, u "(I)Lcom/example/foram/foram/Truth;"), (0, .methodref 9 27), (0, .nameAndType 28 29), (0, u "of"), (0, u "(Z)Lcom/example/foram/foram/Truth;"), (0, .methodref 9 31), (0, .nameAndType 32 33), (0, u "not"), (0, u "()Lcom/example/foram/foram/Truth;"), (0, .methodref 9 35), (0, .nameAndType 36 37), (0, u "and"), (0, u "(Lcom/example/foram/foram/Truth;)Lcom/example/foram/foram/Truth;"), (0, .methodref 9 39), (0, .nameAndType 40 37), (0, u "or"), (3, u "law"), (0, u "(III)Z")] 2

def k1m0 : Method := { name := "<init>", desc := "()V", sig := { parameters := [], returnType := none }, accessFlags := 2, code := none }
def k1c1 : Code := { maxStack := 2, maxLocals := 3, code := method_2_code, exceptionTable := #[], attributes := #[] }
def k1m1 : Method := { name := "pick", desc := "(I)Lcom/example/foram/foram/Truth;", sig := { parameters := [.int], returnType := some (.object "com/example/foram/foram/Truth") }, accessFlags := 10, code := some k1c1 }
def k1c2 : Code := { maxStack := 3, maxLocals := 9, code := code, exceptionTable := #[], attributes := #[] }
def k1m2 : Method := { name := "law", desc := "(III)Z", sig := { parameters := [.int, .int, .int], returnType := some .boolean }, accessFlags := 9, code := some k1c2 }
/-- com/example/foram/foram/TruthNotPinLaw -/
def k1 : Class := { plain "com/example/foram/foram/TruthNotPinLaw" (some 0) with
  accessFlags := 49
  interfaces := #[]
  cf := some (fileOf pool1 21 #[] #[{ accessFlags := 2, nameIndex := 5, descriptorIndex := 6, attributes := #[] }, { accessFlags := 10, nameIndex := 24, descriptorIndex := 25, attributes := #[] }, { accessFlags := 9, nameIndex := 44, descriptorIndex := 45, attributes := #[] }] 49 2 #[] #[])
  fields := #[]
  methods := #[k1m0, k1m1, k1m2]
  instanceTypes := #[]
  staticTypes := #[]
  resolved := Array.replicate 48 none
  statics := none }

def pool2 : Array CpInfo := pool [(1, .class_ 2), (0, u "java/lang/constant/Constable"), (0, .class_ 4), (0, u "java/lang/Object")] 6

/-- java/lang/constant/Constable -/
def k2 : Class := { plain "java/lang/constant/Constable" (some 0) with
  accessFlags := 1537
  interfaces := #[]
  cf := some (fileOf pool2 1 #[] #[] 1537 3 #[] #[])
  fields := #[]
  methods := #[]
  instanceTypes := #[]
  staticTypes := #[]
  resolved := Array.replicate 11 none
  statics := none }

def pool3 : Array CpInfo := pool [(1, .class_ 2), (0, u "java/lang/Comparable"), (0, .class_ 4), (0, u "java/lang/Object")] 7

/-- java/lang/Comparable -/
def k3 : Class := { plain "java/lang/Comparable" (some 0) with
  accessFlags := 1537
  interfaces := #[]
  cf := some (fileOf pool3 1 #[] #[] 1537 3 #[] #[])
  fields := #[]
  methods := #[]
  instanceTypes := #[]
  staticTypes := #[]
  resolved := Array.replicate 12 none
  statics := none }

def pool4 : Array CpInfo := pool [(1, .class_ 2), (0, u "java/io/Serializable"), (0, .class_ 4), (0, u "java/lang/Object")] 2

/-- java/io/Serializable -/
def k4 : Class := { plain "java/io/Serializable" (some 0) with
  accessFlags := 1537
  interfaces := #[]
  cf := some (fileOf pool4 1 #[] #[] 1537 3 #[] #[])
  fields := #[]
  methods := #[]
  instanceTypes := #[]
  staticTypes := #[]
  resolved := Array.replicate 7 none
  statics := none }

def pool5 : Array CpInfo := pool [(2, .class_ 4), (1, u "java/lang/Enum"), (0, u "name"), (0, u "Ljava/lang/String;"), (2, u "ordinal"), (0, u "I"), (1, .class_ 14), (1, u "java/lang/Object"), (4, u "hash"), (86, .class_ 108), (1, u "java/lang/Enum$EnumDesc"), (2, .class_ 112), (0, u "java/lang/constant/Constable"), (0, .class_ 114), (0, u "java/lang/Comparable"), (0, .class_ 116), (0, u "java/io/Serializable")] 87

/-- java/lang/Enum -/
def k5 : Class := { plain "java/lang/Enum" (some 0) with
  accessFlags := 1057
  interfaces := #[2, 3, 4]
  cf := some (fileOf pool5 2 #[.nestMembers #[106]] #[] 1057 12 #[111, 113, 115] #[{ accessFlags := 18, nameIndex := 5, descriptorIndex := 6, attributes := #[] }, { accessFlags := 18, nameIndex := 9, descriptorIndex := 10, attributes := #[] }, { accessFlags := 2, nameIndex := 19, descriptorIndex := 10, attributes := #[] }])
  fields := #[{ name := "name", type := (.object "java/lang/String"), accessFlags := 18, slot := 0, constantValue := 0 }, { name := "ordinal", type := .int, accessFlags := 18, slot := 1, constantValue := 0 }, { name := "hash", type := .int, accessFlags := 2, slot := 2, constantValue := 0 }]
  methods := #[]
  instanceTypes := #[(.object "java/lang/String"), .int, .int]
  staticTypes := #[]
  resolved := Array.replicate 204 none
  statics := none }

def pool6 : Array CpInfo := pool [(1, .class_ 2), (0, u "com/example/foram/foram/Truth"), (0, .fieldref 1 4), (0, .nameAndType 5 6), (0, u "TRUE"), (0, u "Lcom/example/foram/foram/Truth;"), (0, .fieldref 1 8), (0, .nameAndType 9 6), (0, u "FALSE"), (0, .fieldref 1 11), (0, .nameAndType 12 6), (0, u "UNKNOWN"), (2, u "$VALUES"), (0, u "[Lcom/example/foram/foram/Truth;"), (6, .class_ 25), (1, u "java/lang/Enum"), (21, u "of"), (0, u "(Z)Lcom/example/foram/foram/Truth;"), (1, u "and"), (0, u "(Lcom/example/foram/foram/Truth;)Lcom/example/foram/foram/Truth;"), (0, u "or"), (0, u "not"), (0, u "()Lcom/example/foram/foram/Truth;")] 4

def k6c0 : Code := { maxStack := 1, maxLocals := 1, code := prog_55_method_4_code, exceptionTable := #[], attributes := #[] }
def k6m0 : Method := { name := "of", desc := "(Z)Lcom/example/foram/foram/Truth;", sig := { parameters := [.boolean], returnType := some (.object "com/example/foram/foram/Truth") }, accessFlags := 8, code := some k6c0 }
def k6c1 : Code := { maxStack := 2, maxLocals := 3, code := prog_55_method_5_code, exceptionTable := #[], attributes := #[] }
def k6m1 : Method := { name := "and", desc := "(Lcom/example/foram/foram/Truth;)Lcom/example/foram/foram/Truth;", sig := { parameters := [(.object "com/example/foram/foram/Truth")], returnType := some (.object "com/example/foram/foram/Truth") }, accessFlags := 0, code := some k6c1 }
def k6c2 : Code := { maxStack := 2, maxLocals := 3, code := prog_55_method_6_code, exceptionTable := #[], attributes := #[] }
def k6m2 : Method := { name := "or", desc := "(Lcom/example/foram/foram/Truth;)Lcom/example/foram/foram/Truth;", sig := { parameters := [(.object "com/example/foram/foram/Truth")], returnType := some (.object "com/example/foram/foram/Truth") }, accessFlags := 0, code := some k6c2 }
def k6c3 : Code := { maxStack := 2, maxLocals := 2, code := prog_55_method_7_code, exceptionTable := #[], attributes := #[] }
def k6m3 : Method := { name := "not", desc := "()Lcom/example/foram/foram/Truth;", sig := { parameters := [], returnType := some (.object "com/example/foram/foram/Truth") }, accessFlags := 0, code := some k6c3 }
/-- com/example/foram/foram/Truth -/
def k6 : Class := { plain "com/example/foram/foram/Truth" (some 5) with
  accessFlags := 16432
  interfaces := #[]
  cf := some (fileOf pool6 1 #[] #[{ accessFlags := 8, nameIndex := 47, descriptorIndex := 48, attributes := #[] }, { accessFlags := 0, nameIndex := 50, descriptorIndex := 51, attributes := #[] }, { accessFlags := 0, nameIndex := 52, descriptorIndex := 51, attributes := #[] }, { accessFlags := 0, nameIndex := 53, descriptorIndex := 54, attributes := #[] }] 16432 23 #[] #[{ accessFlags := 16409, nameIndex := 5, descriptorIndex := 6, attributes := #[] }, { accessFlags := 16409, nameIndex := 9, descriptorIndex := 6, attributes := #[] }, { accessFlags := 16409, nameIndex := 12, descriptorIndex := 6, attributes := #[] }, { accessFlags := 4122, nameIndex := 15, descriptorIndex := 16, attributes := #[] }])
  fields := #[{ name := "TRUE", type := (.object "com/example/foram/foram/Truth"), accessFlags := 16409, slot := 0, constantValue := 0 }, { name := "FALSE", type := (.object "com/example/foram/foram/Truth"), accessFlags := 16409, slot := 1, constantValue := 0 }, { name := "UNKNOWN", type := (.object "com/example/foram/foram/Truth"), accessFlags := 16409, slot := 2, constantValue := 0 }, { name := "$VALUES", type := (.array (.object "com/example/foram/foram/Truth")), accessFlags := 4122, slot := 3, constantValue := 0 }]
  methods := #[k6m0, k6m1, k6m2, k6m3]
  instanceTypes := #[(.object "java/lang/String"), .int, .int]
  staticTypes := #[(.object "com/example/foram/foram/Truth"), (.object "com/example/foram/foram/Truth"), (.object "com/example/foram/foram/Truth"), (.array (.object "com/example/foram/foram/Truth"))]
  resolved := Array.replicate 59 none
  statics := some 0 }

def pool7 : Array CpInfo := pool [(1, u "java/lang/Cloneable"), (0, .class_ 1), (0, u "java/lang/Object"), (0, .class_ 3)] 3

/-- java/lang/Cloneable -/
def k7 : Class := { plain "java/lang/Cloneable" (some 0) with
  accessFlags := 1537
  interfaces := #[]
  cf := some (fileOf pool7 2 #[] #[] 1537 4 #[] #[])
  fields := #[]
  methods := #[]
  instanceTypes := #[]
  staticTypes := #[]
  resolved := Array.replicate 8 none
  statics := none }

/-- the primitive byte -/
def k8 : Class := { plain "byte" none with kind := .primitive 'B', accessFlags := 0x411 }
/-- [B -/
def k9 : Class := { plain "[B" (some 0) with kind := .array 8 .byte, interfaces := #[7, 4], accessFlags := 1041 }

/-- the primitive int -/
def k10 : Class := { plain "int" none with kind := .primitive 'I', accessFlags := 0x411 }
/-- [I -/
def k11 : Class := { plain "[I" (some 0) with kind := .array 10 .int, interfaces := #[7, 4], accessFlags := 1041 }

def heap : Heap := #[{ cls := 6, slots := #[.ref 1, .ref 2, .ref 3, .null], vm := .statics 6 },
  { cls := 6, slots := #[.null, .int 0, .int 0], vm := .none },
  { cls := 6, slots := #[.null, .int 1, .int 0], vm := .none },
  { cls := 6, slots := #[.null, .int 2, .int 0], vm := .none }]
def classes : Array Class := #[k0, k1, k2, k3, k4, k5, k6, k7, k8, k9, k10, k11]
def interned : List (Array UInt16 × Addr) := []
def slotsUsed : Nat := 13
def theMethod : MethodId := ⟨1, 2⟩
def args0 : Array Value := #[.int 5, .int 5, .int 5]
def aboutOver (below : List Frame) : State where
  vm := { classes := classes, interned := interned.toArray }
  heap := heap
  slotsUsed := slotsUsed
  threads := #[{ frames := .invoking theMethod args0 :: below }]
def below0 : List Frame := [.native { method := ⟨0, 0⟩, args := #[] }]
def about1 : State := aboutOver below0
def p0 : Program := .bare "" "" ""
def e0 : Env := launch0.env 0 0 0
theorem w_frames : about1.frames = Frame.invoking theMethod args0 :: below0 := rfl
set_option maxRecDepth 65536 in
theorem w_args : argsFit about1.vm theMethod args0 = true := by decide +kernel
set_option maxRecDepth 65536 in
theorem w_heap : heapFits about1 = true := by decide +kernel
set_option maxRecDepth 65536 in
theorem w_runnable : about1.curStatus? = some .runnable := by decide +kernel
set_option maxRecDepth 65536 in
theorem w_alone : about1.alone = true := by decide +kernel
set_option maxRecDepth 65536 in
theorem w_named : about1.methodNamed? x = some theMethod := by decide +kernel
set_option maxRecDepth 65536 in
theorem w_hears : about1.hears theMethod below0 = true := by decide +kernel
set_option maxRecDepth 65536 in
theorem w_ripe : about1.ripe theMethod args0 below0 = true := by decide +kernel
theorem w_running : about1.status = .running := rfl
set_option maxRecDepth 65536 in
theorem w_room : about1.hasRoom e0.platform room_1 = true :=
  launch0.hasRoom_least _ room_1 (by decide +kernel) (by decide +kernel) (by decide +kernel) (by decide +kernel) (by decide +kernel) (by decide +kernel)
theorem allAtoms_all (ts : List Jvm.Cond) (a : Array Jvm.Value) (st : Jvm.State) : (allAtoms ts).before a st = ts.all (fun c => c.before a st) := by
  induction ts with
  | nil => rfl
  | cons c t ih =>
    show (Jvm.Cond.and c (allAtoms t)).before a st = _
    rw [Jvm.Cond.before_and, ih, List.all_cons]
def words1 : List Jvm.Cond := Jvm.Cond.code x code maxLocals ret :: tables_1
/-- a 'code' word, met by the world's own term for the bytes: nothing is compared byte by byte -/
theorem code_word {y : MethodName} {bytes : ByteArray} {mx : Nat} {rt : Option FieldType} {a : Array Value} {s : State} {m : MethodId} {meth : Method} {c : Code} (h1 : s.methodNamed? y = some m) (h2 : s.vm.method? m = some meth) (h3 : meth.code = some c) (h4 : c.code = bytes)
    (h5 : (c.maxLocals == mx && c.exceptionTable.isEmpty && decide (c.maxStack ≤ mostOperands) && decide (meth.sig.returnType = rt) && !meth.locks && decide (parseMethodDescriptor y.desc = some meth.sig)) = true) : (Jvm.Cond.code y bytes mx rt).before a s = true := by
  simp only [Bool.and_eq_true, beq_iff_eq, Bool.not_eq_true', decide_eq_true_eq] at h5
  obtain ⟨⟨⟨⟨⟨g1, g2⟩, g3⟩, g4⟩, g5⟩, g6⟩ := h5
  simp [Cond.before, Cond.holds, Cond.value, h1, h2, h3, h4, g1, g2, g3, g4, g5, g6]
def isCode : Jvm.Cond → Bool
  | .code _ _ _ _ => true
  | _ => false
theorem all_split {L : List Jvm.Cond} {P : Jvm.Cond → Bool} (h1 : L.all (fun c => isCode c || P c) = true) (h2 : ∀ c ∈ L.filter isCode, P c = true) : L.all P = true := by
  refine List.all_eq_true.mpr fun c hc => ?_
  have h := List.all_eq_true.mp h1 c hc
  rcases Bool.eq_false_or_eq_true (isCode c) with hi | hi
  · exact h2 c (List.mem_filter.mpr ⟨hc, hi⟩)
  · simpa [hi] using h
set_option maxRecDepth 65536 in
theorem w_c0 : (Jvm.Cond.code x code maxLocals ret).before args0 about1 = true := code_word (m := ⟨1, 2⟩) (meth := k1m2) (c := k1c2) (by decide +kernel) rfl rfl rfl (by decide +kernel)
set_option maxRecDepth 65536 in
theorem w_c1 : (Jvm.Cond.code ({ cls := "com/example/foram/foram/TruthNotPinLaw", name := "pick", desc := "(I)Lcom/example/foram/foram/Truth;" } : Jvm.MethodName) method_2_code (3 : Nat) (Option.some (Jvm.ClassFile.FieldType.object "com/example/foram/foram/Truth"))).before args0 about1 = true := code_word (m := ⟨1, 1⟩) (meth := k1m1) (c := k1c1) (by decide +kernel) rfl rfl rfl (by decide +kernel)
set_option maxRecDepth 65536 in
theorem w_c2 : (Jvm.Cond.code ({ cls := "com/example/foram/foram/Truth", name := "of", desc := "(Z)Lcom/example/foram/foram/Truth;" } : Jvm.MethodName) prog_55_method_4_code (1 : Nat) (Option.some (Jvm.ClassFile.FieldType.object "com/example/foram/foram/Truth"))).before args0 about1 = true := code_word (m := ⟨6, 0⟩) (meth := k6m0) (c := k6c0) (by decide +kernel) rfl rfl rfl (by decide +kernel)
set_option maxRecDepth 65536 in
theorem w_c3 : (Jvm.Cond.code ({ cls := "com/example/foram/foram/Truth", name := "not", desc := "()Lcom/example/foram/foram/Truth;" } : Jvm.MethodName) prog_55_method_7_code (2 : Nat) (Option.some (Jvm.ClassFile.FieldType.object "com/example/foram/foram/Truth"))).before args0 about1 = true := code_word (m := ⟨6, 3⟩) (meth := k6m3) (c := k6c3) (by decide +kernel) rfl rfl rfl (by decide +kernel)
set_option maxRecDepth 65536 in
theorem w_c4 : (Jvm.Cond.code ({ cls := "com/example/foram/foram/Truth", name := "and", desc := "(Lcom/example/foram/foram/Truth;)Lcom/example/foram/foram/Truth;" } : Jvm.MethodName) prog_55_method_5_code (3 : Nat) (Option.some (Jvm.ClassFile.FieldType.object "com/example/foram/foram/Truth"))).before args0 about1 = true := code_word (m := ⟨6, 1⟩) (meth := k6m1) (c := k6c1) (by decide +kernel) rfl rfl rfl (by decide +kernel)
set_option maxRecDepth 65536 in
theorem w_c5 : (Jvm.Cond.code ({ cls := "com/example/foram/foram/Truth", name := "or", desc := "(Lcom/example/foram/foram/Truth;)Lcom/example/foram/foram/Truth;" } : Jvm.MethodName) prog_55_method_6_code (3 : Nat) (Option.some (Jvm.ClassFile.FieldType.object "com/example/foram/foram/Truth"))).before args0 about1 = true := code_word (m := ⟨6, 2⟩) (meth := k6m2) (c := k6c2) (by decide +kernel) rfl rfl rfl (by decide +kernel)
def codes1 : List Jvm.Cond := [Jvm.Cond.code x code maxLocals ret, Jvm.Cond.code ({ cls := "com/example/foram/foram/TruthNotPinLaw", name := "pick", desc := "(I)Lcom/example/foram/foram/Truth;" } : Jvm.MethodName) method_2_code (3 : Nat) (Option.some (Jvm.ClassFile.FieldType.object "com/example/foram/foram/Truth")), Jvm.Cond.code ({ cls := "com/example/foram/foram/Truth", name := "of", desc := "(Z)Lcom/example/foram/foram/Truth;" } : Jvm.MethodName) prog_55_method_4_code (1 : Nat) (Option.some (Jvm.ClassFile.FieldType.object "com/example/foram/foram/Truth")), Jvm.Cond.code ({ cls := "com/example/foram/foram/Truth", name := "not", desc := "()Lcom/example/foram/foram/Truth;" } : Jvm.MethodName) prog_55_method_7_code (2 : Nat) (Option.some (Jvm.ClassFile.FieldType.object "com/example/foram/foram/Truth")), Jvm.Cond.code ({ cls := "com/example/foram/foram/Truth", name := "and", desc := "(Lcom/example/foram/foram/Truth;)Lcom/example/foram/foram/Truth;" } : Jvm.MethodName) prog_55_method_5_code (3 : Nat) (Option.some (Jvm.ClassFile.FieldType.object "com/example/foram/foram/Truth")), Jvm.Cond.code ({ cls := "com/example/foram/foram/Truth", name := "or", desc := "(Lcom/example/foram/foram/Truth;)Lcom/example/foram/foram/Truth;" } : Jvm.MethodName) prog_55_method_6_code (3 : Nat) (Option.some (Jvm.ClassFile.FieldType.object "com/example/foram/foram/Truth"))]
set_option maxRecDepth 65536 in
theorem codes_eq : words1.filter isCode = codes1 := rfl
theorem w_codes : ∀ c ∈ words1.filter isCode, c.before args0 about1 = true := by
  rw [codes_eq]
  intro c hc
  simp only [codes1, List.mem_cons, List.not_mem_nil, or_false] at hc
  rcases hc with rfl | rfl | rfl | rfl | rfl | rfl
  · exact w_c0
  · exact w_c1
  · exact w_c2
  · exact w_c3
  · exact w_c4
  · exact w_c5
set_option maxRecDepth 65536 in
theorem w_t1 : (words1.take 24).all (fun c => isCode c || c.before args0 about1) = true := by decide +kernel
set_option maxRecDepth 65536 in
theorem w_t2 : (words1.drop 24).all (fun c => isCode c || c.before args0 about1) = true := by decide +kernel
theorem w_tables : (allAtoms (Jvm.Cond.code x code maxLocals ret :: tables_1)).before args0 about1 = true := by
  rw [allAtoms_all]
  show words1.all (fun c => c.before args0 about1) = true
  refine all_split ?_ w_codes
  rw [← List.take_append_drop 24 words1, List.all_append, w_t1, w_t2]
  rfl
set_option maxRecDepth 65536 in
theorem w_case : (Jvm.Cond.and given_1 narrow_1).before args0 about1 = true := by decide +kernel
theorem w_applies : (headSpec (Jvm.Cond.code x code maxLocals ret :: tables_1) room_1).applies x e0.platform about1 = true :=
  (Spec.applies_iff w_frames).mpr ⟨w_running, w_runnable, w_alone, w_named, w_hears, w_ripe, w_room, w_tables⟩
theorem atStart : AtStart classFile x code maxLocals ret World_1 tables_1 room_1 Calls_1 rest_1 Pre_1 launch0 p0 e0 about1 theMethod args0 below0 :=
  ⟨lists_1, trivial, launch0.admits_env _ _ _, launch0.least_env, fairChoices_fair.cas, fairChoices_fair.clock, w_frames, w_args, w_heap, w_applies, trivial, trivial, w_case⟩
end start1
theorem witness_1 : WitnessClaimed_1 := ⟨start1.p0, start1.e0, start1.about1, start1.theMethod, start1.args0, start1.below0, start1.atStart⟩
end Jvm.Pilot.@@N@@
