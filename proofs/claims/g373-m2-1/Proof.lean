import JvmDerived
import JvmDerived.Pilot.@@N@@Statement
import JvmDerived.Pilot.@@N@@Code
set_option linter.unusedVariables false
set_option linter.unusedSimpArgs false
@@BLOCK:NumsL.lean.txt@@
namespace Jvm.Pilot.@@N@@
open Jvm Jvm.ClassFile Sem Op Lib Jvm.Free Jvm.Stand Jvm.LawKit Jvm.RoadKit Bundle Jvm.Pilot.@@N@@.Jvm.D
abbrev oI (x : Int32) : Slot := .val (.int x)
abbrev oJ (x : Int64) : Slot := .val (.long x)
abbrev oA (x : Addr) : Slot := .val (.ref x)
abbrev oN : Slot := .val .null
abbrev oU : Slot := .unset
abbrev oS : Slot := .second
theorem own_w {Z : State} {a0 : Array Value} (hw : ∀ d ∈ tables_1, d.before a0 Z = true) (i : Nat) {d : Jvm.Cond} (h : tables_1[i]? = some d) : d.before a0 Z = true := hw d (List.mem_of_getElem? h)
section Own
variable {p : Program} {l : Launch} {e : Env} {R : Room} {s : State} {m : MethodId} {args : Array Value} {below : List Frame} {meth : Method} {c : Code} {T : State} {locs : List Loc} {cells slots : Nat} {P : State → Outcome → Prop} {pc : Nat} {ls : Array Slot} {st : List Value} {Z : State} {a0 : Array Value} {h : Heap} {bytes : ByteArray}
/-- the run goes on from A and ends so that P holds -/
def Go (p : Program) (e : Env) (below : List Frame) (P : State → Outcome → Prop) (A : State) : Prop := ∃ s₂ o, Steps p.tables e below A s₂ ∧ P s₂ o
theorem own_go {A A' : State} (h : ∀ t, Steps p.tables e below A' t → Steps p.tables e below A t) (k : Go p e below P A') : Go p e below P A := by
  obtain ⟨s₂, o, h1, h2⟩ := k
  exact ⟨s₂, o, h _ h1, h2⟩
/-! loads, stores, constants -/
theorem own_iload_n (pc' : Nat) (X : Stand p l e R s m args below meth c T locs cells slots) (hx : p.tables.exec = Jvm.exec) (hby : c.code = bytes) {k : Fin 4} {v : Int32} (hd : decode bytes pc = .ok (.iload_n k, 1)) (hp : pc + 1 = pc') (hl : ls[k.val]? = some (.val (.int v))) (r : Go p e below P (T.setTop (mkF m pc' ls (.int v :: st)))) : Go p e below P (T.setTop (mkF m pc ls st)) := by
  subst hp; exact own_go (fun t q => XS.iloadN X.here hx rfl (hb hby hd) hl q) r
theorem own_iload (pc' : Nat) (X : Stand p l e R s m args below meth c T locs cells slots) (hx : p.tables.exec = Jvm.exec) (hby : c.code = bytes) {k : Nat} {v : Int32} (hd : decode bytes pc = .ok (.iload k, 2)) (hp : pc + 2 = pc') (hl : ls[k]? = some (.val (.int v))) (r : Go p e below P (T.setTop (mkF m pc' ls (.int v :: st)))) : Go p e below P (T.setTop (mkF m pc ls st)) := by
  subst hp; exact own_go (fun t q => XS.iload X.here hx rfl (hb hby hd) hl q) r
theorem own_lload_n (pc' : Nat) (X : Stand p l e R s m args below meth c T locs cells slots) (hx : p.tables.exec = Jvm.exec) (hby : c.code = bytes) {k : Fin 4} {v : Int64} (hd : decode bytes pc = .ok (.lload_n k, 1)) (hp : pc + 1 = pc') (hl : ls[k.val]? = some (.val (.long v))) (r : Go p e below P (T.setTop (mkF m pc' ls (.long v :: st)))) : Go p e below P (T.setTop (mkF m pc ls st)) := by
  subst hp; exact own_go (fun t q => XT.lloadN X.here hx rfl (hb hby hd) hl q) r
theorem own_lload (pc' : Nat) (X : Stand p l e R s m args below meth c T locs cells slots) (hx : p.tables.exec = Jvm.exec) (hby : c.code = bytes) {k : Nat} {v : Int64} (hd : decode bytes pc = .ok (.lload k, 2)) (hp : pc + 2 = pc') (hl : ls[k]? = some (.val (.long v))) (r : Go p e below P (T.setTop (mkF m pc' ls (.long v :: st)))) : Go p e below P (T.setTop (mkF m pc ls st)) := by
  subst hp; exact own_go (fun t q => XT.lload X.here hx rfl (hb hby hd) hl q) r
theorem own_aload_n (pc' : Nat) (X : Stand p l e R s m args below meth c T locs cells slots) (hx : p.tables.exec = Jvm.exec) (hby : c.code = bytes) {k : Fin 4} {v : Value} (hd : decode bytes pc = .ok (.aload_n k, 1)) (hp : pc + 1 = pc') (hl : ls[k.val]? = some (.val v)) (hv : v.isRef = true) (r : Go p e below P (T.setTop (mkF m pc' ls (v :: st)))) : Go p e below P (T.setTop (mkF m pc ls st)) := by
  subst hp; exact own_go (fun t q => XS.aloadN X.here hx rfl (hb hby hd) hl hv q) r
theorem own_aload (pc' : Nat) (X : Stand p l e R s m args below meth c T locs cells slots) (hx : p.tables.exec = Jvm.exec) (hby : c.code = bytes) {k : Nat} {v : Value} (hd : decode bytes pc = .ok (.aload k, 2)) (hp : pc + 2 = pc') (hl : ls[k]? = some (.val v)) (hv : v.isRef = true) (r : Go p e below P (T.setTop (mkF m pc' ls (v :: st)))) : Go p e below P (T.setTop (mkF m pc ls st)) := by
  subst hp; exact own_go (fun t q => XS.aload X.here hx rfl (hb hby hd) hl hv q) r
theorem own_istore_n (pc' : Nat) (l' : Array Slot) (X : Stand p l e R s m args below meth c T locs cells slots) (hx : p.tables.exec = Jvm.exec) (hby : c.code = bytes) {k : Fin 4} {v : Int32} (hd : decode bytes pc = .ok (.istore_n k, 1)) (hp : pc + 1 = pc') (hl : storeLocals ls k.val (.int v) = some l') (r : Go p e below P (T.setTop (mkF m pc' l' st))) : Go p e below P (T.setTop (mkF m pc ls (.int v :: st))) := by
  subst hp; exact own_go (fun t q => XS.istoreN X.here hx rfl (hb hby hd) rfl hl q) r
theorem own_istore (pc' : Nat) (l' : Array Slot) (X : Stand p l e R s m args below meth c T locs cells slots) (hx : p.tables.exec = Jvm.exec) (hby : c.code = bytes) {k : Nat} {v : Int32} (hd : decode bytes pc = .ok (.istore k, 2)) (hp : pc + 2 = pc') (hl : storeLocals ls k (.int v) = some l') (r : Go p e below P (T.setTop (mkF m pc' l' st))) : Go p e below P (T.setTop (mkF m pc ls (.int v :: st))) := by
  subst hp; exact own_go (fun t q => XS.istore X.here hx rfl (hb hby hd) rfl hl q) r
theorem own_lstore_n (pc' : Nat) (l' : Array Slot) (X : Stand p l e R s m args below meth c T locs cells slots) (hx : p.tables.exec = Jvm.exec) (hby : c.code = bytes) {k : Fin 4} {v : Int64} (hd : decode bytes pc = .ok (.lstore_n k, 1)) (hp : pc + 1 = pc') (hl : storeLocals ls k.val (.long v) = some l') (r : Go p e below P (T.setTop (mkF m pc' l' st))) : Go p e below P (T.setTop (mkF m pc ls (.long v :: st))) := by
  subst hp; exact own_go (fun t q => XT.lstoreN X.here hx rfl (hb hby hd) rfl hl q) r
theorem own_lstore (pc' : Nat) (l' : Array Slot) (X : Stand p l e R s m args below meth c T locs cells slots) (hx : p.tables.exec = Jvm.exec) (hby : c.code = bytes) {k : Nat} {v : Int64} (hd : decode bytes pc = .ok (.lstore k, 2)) (hp : pc + 2 = pc') (hl : storeLocals ls k (.long v) = some l') (r : Go p e below P (T.setTop (mkF m pc' l' st))) : Go p e below P (T.setTop (mkF m pc ls (.long v :: st))) := by
  subst hp; exact own_go (fun t q => XT.lstore X.here hx rfl (hb hby hd) rfl hl q) r
theorem own_astore_n (pc' : Nat) (l' : Array Slot) (X : Stand p l e R s m args below meth c T locs cells slots) (hx : p.tables.exec = Jvm.exec) (hby : c.code = bytes) {k : Fin 4} {v : Value} (hd : decode bytes pc = .ok (.astore_n k, 1)) (hp : pc + 1 = pc') (hv : v.isRef = true) (hl : storeLocals ls k.val v = some l') (r : Go p e below P (T.setTop (mkF m pc' l' st))) : Go p e below P (T.setTop (mkF m pc ls (v :: st))) := by
  subst hp; exact own_go (fun t q => XS.astoreN X.here hx rfl (hb hby hd) rfl hv hl q) r
theorem own_astore (pc' : Nat) (l' : Array Slot) (X : Stand p l e R s m args below meth c T locs cells slots) (hx : p.tables.exec = Jvm.exec) (hby : c.code = bytes) {k : Nat} {v : Value} (hd : decode bytes pc = .ok (.astore k, 2)) (hp : pc + 2 = pc') (hv : v.isRef = true) (hl : storeLocals ls k v = some l') (r : Go p e below P (T.setTop (mkF m pc' l' st))) : Go p e below P (T.setTop (mkF m pc ls (v :: st))) := by
  subst hp; exact own_go (fun t q => XS.astore X.here hx rfl (hb hby hd) rfl hv hl q) r
theorem own_iconst (pc' : Nat) (w : Int32) (X : Stand p l e R s m args below meth c T locs cells slots) (hx : p.tables.exec = Jvm.exec) (hby : c.code = bytes) {i : Int} (hd : decode bytes pc = .ok (.iconst i, 1)) (hp : pc + 1 = pc') (hw : Int32.ofInt i = w) (r : Go p e below P (T.setTop (mkF m pc' ls (.int w :: st)))) : Go p e below P (T.setTop (mkF m pc ls st)) := by
  subst hp hw; exact own_go (fun t q => XS.iconst X.here hx rfl (hb hby hd) q) r
theorem own_bipush (pc' : Nat) (w : Int32) (X : Stand p l e R s m args below meth c T locs cells slots) (hx : p.tables.exec = Jvm.exec) (hby : c.code = bytes) {i : Int} (hd : decode bytes pc = .ok (.bipush i, 2)) (hp : pc + 2 = pc') (hw : (Int8.ofInt i).toInt32 = w) (r : Go p e below P (T.setTop (mkF m pc' ls (.int w :: st)))) : Go p e below P (T.setTop (mkF m pc ls st)) := by
  subst hp hw; exact own_go (fun t q => XS.bipush X.here hx rfl (hb hby hd) q) r
theorem own_sipush (pc' : Nat) (w : Int32) (X : Stand p l e R s m args below meth c T locs cells slots) (hx : p.tables.exec = Jvm.exec) (hby : c.code = bytes) {i : Int} (hd : decode bytes pc = .ok (.sipush i, 3)) (hp : pc + 3 = pc') (hw : (Int16.ofInt i).toInt32 = w) (r : Go p e below P (T.setTop (mkF m pc' ls (.int w :: st)))) : Go p e below P (T.setTop (mkF m pc ls st)) := by
  subst hp hw; exact own_go (fun t q => XS.sipush X.here hx rfl (hb hby hd) q) r
theorem own_lconst (pc' : Nat) (w : Int64) (X : Stand p l e R s m args below meth c T locs cells slots) (hx : p.tables.exec = Jvm.exec) (hby : c.code = bytes) {k : Fin 2} (hd : decode bytes pc = .ok (.lconst k, 1)) (hp : pc + 1 = pc') (hw : Int64.ofNat k = w) (r : Go p e below P (T.setTop (mkF m pc' ls (.long w :: st)))) : Go p e below P (T.setTop (mkF m pc ls st)) := by
  subst hp hw; exact own_go (fun t q => XT.lconst X.here hx rfl (hb hby hd) q) r
theorem own_null (pc' : Nat) (X : Stand p l e R s m args below meth c T locs cells slots) (hx : p.tables.exec = Jvm.exec) (hby : c.code = bytes) (hd : decode bytes pc = .ok (.aconst_null, 1)) (hp : pc + 1 = pc') (r : Go p e below P (T.setTop (mkF m pc' ls (.null :: st)))) : Go p e below P (T.setTop (mkF m pc ls st)) := by
  subst hp; exact own_go (fun t q => XS.aconstNull X.here hx rfl (hb hby hd) q) r
theorem own_ldc (pc' : Nat) (X : Stand p l e R s m args below meth c T locs cells slots) (hx : p.tables.exec = Jvm.exec) (hby : c.code = bytes) (hZ : Z.Warmed39 s.vm) {own : String} {index : Nat} {v : Int32} (hown : s.vm.findClass own = some m.cls) (w : (Cond.constant own index v).before a0 Z = true) (hd : decode bytes pc = .ok (.ldc index, 2)) (hp : pc + 2 = pc') (r : Go p e below P (T.setTop (mkF m pc' ls (.int v :: st)))) : Go p e below P (T.setTop (mkF m pc ls st)) := by
  subst hp; exact own_go (fun t q => X.ldcI hx hown (mvT hZ w) rfl (hb hby hd) q) r
theorem own_ldc2 (pc' : Nat) (X : Stand p l e R s m args below meth c T locs cells slots) (hx : p.tables.exec = Jvm.exec) (hby : c.code = bytes) (hZ : Z.Warmed39 s.vm) {own : String} {index : Nat} {v : Int64} (hown : s.vm.findClass own = some m.cls) (w : (Cond.constantLong own index v).before a0 Z = true) (hd : decode bytes pc = .ok (.ldc2_w index, 3)) (hp : pc + 3 = pc') (r : Go p e below P (T.setTop (mkF m pc' ls (.long v :: st)))) : Go p e below P (T.setTop (mkF m pc ls st)) := by
  subst hp; exact own_go (fun t q => X.ldc2J hx hown (mvT hZ w) rfl (hb hby hd) q) r
/-! arithmetic -/
theorem own_iadd (pc' : Nat) (w : Int32) (X : Stand p l e R s m args below meth c T locs cells slots) (hx : p.tables.exec = Jvm.exec) (hby : c.code = bytes) {x y : Int32} (hd : decode bytes pc = .ok (.iadd, 1)) (hp : pc + 1 = pc') (hw : x + y = w) (r : Go p e below P (T.setTop (mkF m pc' ls (.int w :: st)))) : Go p e below P (T.setTop (mkF m pc ls (.int y :: .int x :: st))) := by
  subst hp hw; exact own_go (fun t q => XS.iadd X.here hx rfl (hb hby hd) rfl q) r
theorem own_isub (pc' : Nat) (w : Int32) (X : Stand p l e R s m args below meth c T locs cells slots) (hx : p.tables.exec = Jvm.exec) (hby : c.code = bytes) {x y : Int32} (hd : decode bytes pc = .ok (.isub, 1)) (hp : pc + 1 = pc') (hw : x - y = w) (r : Go p e below P (T.setTop (mkF m pc' ls (.int w :: st)))) : Go p e below P (T.setTop (mkF m pc ls (.int y :: .int x :: st))) := by
  subst hp hw; exact own_go (fun t q => XS.isub X.here hx rfl (hb hby hd) rfl q) r
theorem own_imul (pc' : Nat) (w : Int32) (X : Stand p l e R s m args below meth c T locs cells slots) (hx : p.tables.exec = Jvm.exec) (hby : c.code = bytes) {x y : Int32} (hd : decode bytes pc = .ok (.imul, 1)) (hp : pc + 1 = pc') (hw : x * y = w) (r : Go p e below P (T.setTop (mkF m pc' ls (.int w :: st)))) : Go p e below P (T.setTop (mkF m pc ls (.int y :: .int x :: st))) := by
  subst hp hw; exact own_go (fun t q => XS.imul X.here hx rfl (hb hby hd) rfl q) r
theorem own_idiv (pc' : Nat) (w : Int32) (X : Stand p l e R s m args below meth c T locs cells slots) (hx : p.tables.exec = Jvm.exec) (hby : c.code = bytes) {x y : Int32} (hd : decode bytes pc = .ok (.idiv, 1)) (hp : pc + 1 = pc') (hy : y ≠ 0) (hw : x / y = w) (r : Go p e below P (T.setTop (mkF m pc' ls (.int w :: st)))) : Go p e below P (T.setTop (mkF m pc ls (.int y :: .int x :: st))) := by
  subst hp hw; exact own_go (fun t q => XS.idiv X.here hx rfl (hb hby hd) rfl hy q) r
theorem own_irem (pc' : Nat) (w : Int32) (X : Stand p l e R s m args below meth c T locs cells slots) (hx : p.tables.exec = Jvm.exec) (hby : c.code = bytes) {x y : Int32} (hd : decode bytes pc = .ok (.irem, 1)) (hp : pc + 1 = pc') (hy : y ≠ 0) (hw : x % y = w) (r : Go p e below P (T.setTop (mkF m pc' ls (.int w :: st)))) : Go p e below P (T.setTop (mkF m pc ls (.int y :: .int x :: st))) := by
  subst hp hw; exact own_go (fun t q => iremM X hx rfl (hb hby hd) rfl hy q) r
theorem own_iand (pc' : Nat) (w : Int32) (X : Stand p l e R s m args below meth c T locs cells slots) (hx : p.tables.exec = Jvm.exec) (hby : c.code = bytes) {x y : Int32} (hd : decode bytes pc = .ok (.iand, 1)) (hp : pc + 1 = pc') (hw : x &&& y = w) (r : Go p e below P (T.setTop (mkF m pc' ls (.int w :: st)))) : Go p e below P (T.setTop (mkF m pc ls (.int y :: .int x :: st))) := by
  subst hp hw; exact own_go (fun t q => XS.iand X.here hx rfl (hb hby hd) rfl q) r
theorem own_ishr (pc' : Nat) (w : Int32) (X : Stand p l e R s m args below meth c T locs cells slots) (hx : p.tables.exec = Jvm.exec) (hby : c.code = bytes) {x y : Int32} (hd : decode bytes pc = .ok (.ishr, 1)) (hp : pc + 1 = pc') (hw : x >>> (y &&& 31) = w) (r : Go p e below P (T.setTop (mkF m pc' ls (.int w :: st)))) : Go p e below P (T.setTop (mkF m pc ls (.int y :: .int x :: st))) := by
  subst hp hw; exact own_go (fun t q => XT.ishr X.here hx rfl (hb hby hd) rfl q) r
theorem own_iushr (pc' : Nat) (w : Int32) (X : Stand p l e R s m args below meth c T locs cells slots) (hx : p.tables.exec = Jvm.exec) (hby : c.code = bytes) {x y : Int32} (hd : decode bytes pc = .ok (.iushr, 1)) (hp : pc + 1 = pc') (hw : XT.ushr x y = w) (r : Go p e below P (T.setTop (mkF m pc' ls (.int w :: st)))) : Go p e below P (T.setTop (mkF m pc ls (.int y :: .int x :: st))) := by
  subst hp hw; exact own_go (fun t q => XT.iushr X.here hx rfl (hb hby hd) rfl q) r
theorem own_ladd (pc' : Nat) (w : Int64) (X : Stand p l e R s m args below meth c T locs cells slots) (hx : p.tables.exec = Jvm.exec) (hby : c.code = bytes) {x y : Int64} (hd : decode bytes pc = .ok (.ladd, 1)) (hp : pc + 1 = pc') (hw : x + y = w) (r : Go p e below P (T.setTop (mkF m pc' ls (.long w :: st)))) : Go p e below P (T.setTop (mkF m pc ls (.long y :: .long x :: st))) := by
  subst hp hw; exact own_go (fun t q => XT.ladd X.here hx rfl (hb hby hd) rfl q) r
theorem own_lsub (pc' : Nat) (w : Int64) (X : Stand p l e R s m args below meth c T locs cells slots) (hx : p.tables.exec = Jvm.exec) (hby : c.code = bytes) {x y : Int64} (hd : decode bytes pc = .ok (.lsub, 1)) (hp : pc + 1 = pc') (hw : x - y = w) (r : Go p e below P (T.setTop (mkF m pc' ls (.long w :: st)))) : Go p e below P (T.setTop (mkF m pc ls (.long y :: .long x :: st))) := by
  subst hp hw; exact own_go (fun t q => XT.lsub X.here hx rfl (hb hby hd) rfl q) r
theorem own_lmul (pc' : Nat) (w : Int64) (X : Stand p l e R s m args below meth c T locs cells slots) (hx : p.tables.exec = Jvm.exec) (hby : c.code = bytes) {x y : Int64} (hd : decode bytes pc = .ok (.lmul, 1)) (hp : pc + 1 = pc') (hw : x * y = w) (r : Go p e below P (T.setTop (mkF m pc' ls (.long w :: st)))) : Go p e below P (T.setTop (mkF m pc ls (.long y :: .long x :: st))) := by
  subst hp hw; exact own_go (fun t q => XT.lmul X.here hx rfl (hb hby hd) rfl q) r
theorem own_ldiv (pc' : Nat) (w : Int64) (X : Stand p l e R s m args below meth c T locs cells slots) (hx : p.tables.exec = Jvm.exec) (hby : c.code = bytes) {x y : Int64} (hd : decode bytes pc = .ok (.ldiv, 1)) (hp : pc + 1 = pc') (hy : y ≠ 0) (hw : x / y = w) (r : Go p e below P (T.setTop (mkF m pc' ls (.long w :: st)))) : Go p e below P (T.setTop (mkF m pc ls (.long y :: .long x :: st))) := by
  subst hp hw; exact own_go (fun t q => XT.ldiv X.here hx rfl (hb hby hd) rfl hy q) r
theorem own_lrem (pc' : Nat) (w : Int64) (X : Stand p l e R s m args below meth c T locs cells slots) (hx : p.tables.exec = Jvm.exec) (hby : c.code = bytes) {x y : Int64} (hd : decode bytes pc = .ok (.lrem, 1)) (hp : pc + 1 = pc') (hy : y ≠ 0) (hw : x - (x / y) * y = w) (r : Go p e below P (T.setTop (mkF m pc' ls (.long w :: st)))) : Go p e below P (T.setTop (mkF m pc ls (.long y :: .long x :: st))) := by
  subst hp hw; exact own_go (fun t q => XT.lrem X.here hx rfl (hb hby hd) rfl hy q) r
theorem own_land (pc' : Nat) (w : Int64) (X : Stand p l e R s m args below meth c T locs cells slots) (hx : p.tables.exec = Jvm.exec) (hby : c.code = bytes) {x y : Int64} (hd : decode bytes pc = .ok (.land, 1)) (hp : pc + 1 = pc') (hw : x &&& y = w) (r : Go p e below P (T.setTop (mkF m pc' ls (.long w :: st)))) : Go p e below P (T.setTop (mkF m pc ls (.long y :: .long x :: st))) := by
  subst hp hw; exact own_go (fun t q => XT.land X.here hx rfl (hb hby hd) rfl q) r
theorem own_lushr (pc' : Nat) (w : Int64) (X : Stand p l e R s m args below meth c T locs cells slots) (hx : p.tables.exec = Jvm.exec) (hby : c.code = bytes) {x : Int64} {y : Int32} (hd : decode bytes pc = .ok (.lushr, 1)) (hp : pc + 1 = pc') (hw : XT.ushrL x y = w) (r : Go p e below P (T.setTop (mkF m pc' ls (.long w :: st)))) : Go p e below P (T.setTop (mkF m pc ls (.int y :: .long x :: st))) := by
  subst hp hw; exact own_go (fun t q => XT.lushr X.here hx rfl (hb hby hd) rfl q) r
theorem own_i2l (pc' : Nat) (w : Int64) (X : Stand p l e R s m args below meth c T locs cells slots) (hx : p.tables.exec = Jvm.exec) (hby : c.code = bytes) {x : Int32} (hd : decode bytes pc = .ok (.i2l, 1)) (hp : pc + 1 = pc') (hw : x.toInt64 = w) (r : Go p e below P (T.setTop (mkF m pc' ls (.long w :: st)))) : Go p e below P (T.setTop (mkF m pc ls (.int x :: st))) := by
  subst hp hw; exact own_go (fun t q => XT.i2l X.here hx rfl (hb hby hd) rfl q) r
theorem own_l2i (pc' : Nat) (w : Int32) (X : Stand p l e R s m args below meth c T locs cells slots) (hx : p.tables.exec = Jvm.exec) (hby : c.code = bytes) {x : Int64} (hd : decode bytes pc = .ok (.l2i, 1)) (hp : pc + 1 = pc') (hw : x.toInt32 = w) (r : Go p e below P (T.setTop (mkF m pc' ls (.int w :: st)))) : Go p e below P (T.setTop (mkF m pc ls (.long x :: st))) := by
  subst hp hw; exact own_go (fun t q => XT.l2i X.here hx rfl (hb hby hd) rfl q) r
theorem own_lcmp (pc' : Nat) (w : Int32) (X : Stand p l e R s m args below meth c T locs cells slots) (hx : p.tables.exec = Jvm.exec) (hby : c.code = bytes) {x y : Int64} (hd : decode bytes pc = .ok (.lcmp, 1)) (hp : pc + 1 = pc') (hw : XT.cmpL x y = w) (r : Go p e below P (T.setTop (mkF m pc' ls (.int w :: st)))) : Go p e below P (T.setTop (mkF m pc ls (.long y :: .long x :: st))) := by
  subst hp hw; exact own_go (fun t q => XT.lcmp X.here hx rfl (hb hby hd) rfl q) r
theorem own_iinc (pc' : Nat) (l' : Array Slot) (X : Stand p l e R s m args below meth c T locs cells slots) (hx : p.tables.exec = Jvm.exec) (hby : c.code = bytes) {k : Nat} {i : Int} {x : Int32} (hd : decode bytes pc = .ok (.iinc k i, 3)) (hp : pc + 3 = pc') (hl : ls[k]? = some (.val (.int x))) (hl' : storeLocals ls k (.int (x + Int32.ofInt i)) = some l') (r : Go p e below P (T.setTop (mkF m pc' l' st))) : Go p e below P (T.setTop (mkF m pc ls st)) := by
  subst hp; exact own_go (fun t q => XS.iinc X.here hx rfl (hb hby hd) hl hl' q) r
theorem own_dup (pc' : Nat) (X : Stand p l e R s m args below meth c T locs cells slots) (hx : p.tables.exec = Jvm.exec) (hby : c.code = bytes) {v : Value} (hd : decode bytes pc = .ok (.dup, 1)) (hp : pc + 1 = pc') (hc : v.category = 1) (r : Go p e below P (T.setTop (mkF m pc' ls (v :: v :: st)))) : Go p e below P (T.setTop (mkF m pc ls (v :: st))) := by
  subst hp; exact own_go (fun t q => XS.dup X.here hx rfl (hb hby hd) rfl hc q) r
theorem own_pop (pc' : Nat) (X : Stand p l e R s m args below meth c T locs cells slots) (hx : p.tables.exec = Jvm.exec) (hby : c.code = bytes) {v : Value} (hd : decode bytes pc = .ok (.pop, 1)) (hp : pc + 1 = pc') (hc : v.category = 1) (r : Go p e below P (T.setTop (mkF m pc' ls st))) : Go p e below P (T.setTop (mkF m pc ls (v :: st))) := by
  subst hp; exact own_go (fun t q => XT.pop X.here hx rfl (hb hby hd) rfl hc q) r
/-! branches -/
theorem own_goto (pc' : Nat) (X : Stand p l e R s m args below meth c T locs cells slots) (hx : p.tables.exec = Jvm.exec) (hby : c.code = bytes) {o : Int} (hd : decode bytes pc = .ok (.goto o, 3)) (ho : 0 ≤ (pc : Int) + o) (hp : ((pc : Int) + o).toNat = pc') (r : Go p e below P (T.setTop (mkF m pc' ls st))) : Go p e below P (T.setTop (mkF m pc ls st)) :=
  own_go (fun t q => XS.goto X.here hx rfl rfl (hb hby hd) ho hp q) r
theorem own_ifY (pc' : Nat) (X : Stand p l e R s m args below meth c T locs cells slots) (hx : p.tables.exec = Jvm.exec) (hby : c.code = bytes) {cd : ClassFile.Cond} {x : Int32} {o : Int} (hd : decode bytes pc = .ok (.ifCond cd o, 3)) (ho : 0 ≤ (pc : Int) + o) (hp : ((pc : Int) + o).toNat = pc') (hc : ifCond.holds cd x = true) (r : Go p e below P (T.setTop (mkF m pc' ls st))) : Go p e below P (T.setTop (mkF m pc ls (.int x :: st))) :=
  own_go (fun t q => XS.ifYes X.here hx rfl rfl (hb hby hd) rfl hc ho hp q) r
theorem own_ifN (pc' : Nat) (X : Stand p l e R s m args below meth c T locs cells slots) (hx : p.tables.exec = Jvm.exec) (hby : c.code = bytes) {cd : ClassFile.Cond} {x : Int32} {o : Int} (hd : decode bytes pc = .ok (.ifCond cd o, 3)) (hp : pc + 3 = pc') (hc : ifCond.holds cd x = false) (r : Go p e below P (T.setTop (mkF m pc' ls st))) : Go p e below P (T.setTop (mkF m pc ls (.int x :: st))) := by
  subst hp; exact own_go (fun t q => XS.ifNo X.here hx rfl (hb hby hd) rfl hc q) r
theorem own_icY (pc' : Nat) (X : Stand p l e R s m args below meth c T locs cells slots) (hx : p.tables.exec = Jvm.exec) (hby : c.code = bytes) {cd : ClassFile.Cond} {x y : Int32} {o : Int} (hd : decode bytes pc = .ok (.if_icmp cd o, 3)) (ho : 0 ≤ (pc : Int) + o) (hp : ((pc : Int) + o).toNat = pc') (hc : if_icmp.holds cd x y = true) (r : Go p e below P (T.setTop (mkF m pc' ls st))) : Go p e below P (T.setTop (mkF m pc ls (.int y :: .int x :: st))) :=
  own_go (fun t q => XS.icmpYes X.here hx rfl rfl (hb hby hd) rfl hc ho hp q) r
theorem own_icN (pc' : Nat) (X : Stand p l e R s m args below meth c T locs cells slots) (hx : p.tables.exec = Jvm.exec) (hby : c.code = bytes) {cd : ClassFile.Cond} {x y : Int32} {o : Int} (hd : decode bytes pc = .ok (.if_icmp cd o, 3)) (hp : pc + 3 = pc') (hc : if_icmp.holds cd x y = false) (r : Go p e below P (T.setTop (mkF m pc' ls st))) : Go p e below P (T.setTop (mkF m pc ls (.int y :: .int x :: st))) := by
  subst hp; exact own_go (fun t q => XS.icmpNo X.here hx rfl (hb hby hd) rfl hc q) r
theorem own_acmp (pc' : Nat) (same : Bool) (X : Stand p l e R s m args below meth c T locs cells slots) (hx : p.tables.exec = Jvm.exec) (hby : c.code = bytes) {cd : ACond} {x y : Value} {o : Int} (hd : decode bytes pc = .ok (.if_acmp cd o, 3)) (h1 : x.isRef = true) (h2 : y.isRef = true) (ho : 0 ≤ (pc : Int) + o) (hp : pc' = if acV cd same = true then ((pc : Int) + o).toNat else pc + 3) (hq : decide (x = y) = same) (r : Go p e below P (T.setTop (mkF m pc' ls st))) : Go p e below P (T.setTop (mkF m pc ls (y :: x :: st))) :=
  own_go (fun t q => Jvm.RoadKit.acmp X hx rfl h1 h2 rfl (hb hby hd) rfl hq ho hp q) r
theorem own_nullY (pc' : Nat) (X : Stand p l e R s m args below meth c T locs cells slots) (hx : p.tables.exec = Jvm.exec) (hby : c.code = bytes) {o : Int} (hd : decode bytes pc = .ok (.ifnull o, 3)) (ho : 0 ≤ (pc : Int) + o) (hp : ((pc : Int) + o).toNat = pc') (r : Go p e below P (T.setTop (mkF m pc' ls st))) : Go p e below P (T.setTop (mkF m pc ls (.null :: st))) :=
  own_go (fun t q => XS.ifnullYes X.here hx rfl rfl (hb hby hd) rfl ho hp q) r
theorem own_nullN (pc' : Nat) (X : Stand p l e R s m args below meth c T locs cells slots) (hx : p.tables.exec = Jvm.exec) (hby : c.code = bytes) {o : Int} {b : Addr} (hd : decode bytes pc = .ok (.ifnull o, 3)) (hp : pc + 3 = pc') (r : Go p e below P (T.setTop (mkF m pc' ls st))) : Go p e below P (T.setTop (mkF m pc ls (.ref b :: st))) := by
  subst hp; exact own_go (fun t q => XS.ifnullNo X.here hx rfl (hb hby hd) rfl q) r
theorem own_nnY (pc' : Nat) (X : Stand p l e R s m args below meth c T locs cells slots) (hx : p.tables.exec = Jvm.exec) (hby : c.code = bytes) {o : Int} {b : Addr} (hd : decode bytes pc = .ok (.ifnonnull o, 3)) (ho : 0 ≤ (pc : Int) + o) (hp : ((pc : Int) + o).toNat = pc') (r : Go p e below P (T.setTop (mkF m pc' ls st))) : Go p e below P (T.setTop (mkF m pc ls (.ref b :: st))) :=
  own_go (fun t q => XT.ifnonnullYes X.here hx rfl rfl (hb hby hd) rfl ho hp q) r
theorem own_nnN (pc' : Nat) (X : Stand p l e R s m args below meth c T locs cells slots) (hx : p.tables.exec = Jvm.exec) (hby : c.code = bytes) {o : Int} (hd : decode bytes pc = .ok (.ifnonnull o, 3)) (hp : pc + 3 = pc') (r : Go p e below P (T.setTop (mkF m pc' ls st))) : Go p e below P (T.setTop (mkF m pc ls (.null :: st))) := by
  subst hp; exact own_go (fun t q => XT.ifnonnullNo X.here hx rfl (hb hby hd) rfl q) r
/-! what lcmp and a branch behind it say -/
theorem own_tltL {x y : Int64} (h : x < y) : ifCond.holds .lt (XT.cmpL x y) = true ∧ ifCond.holds .ge (XT.cmpL x y) = false ∧ ifCond.holds .gt (XT.cmpL y x) = true ∧ ifCond.holds .le (XT.cmpL y x) = false := by
  have h1 : ¬ y < x := fun q => absurd h (Int64.lt_asymm q)
  have h2 : ¬ x = y := fun q => absurd (q ▸ h) Int64.lt_irrefl
  have h3 : ¬ y = x := fun q => h2 q.symm
  simp only [XT.cmpL, h, h1, h2, h3, if_true, if_false]
  decide
theorem own_fltL {x y : Int64} (h : ¬ x < y) : ifCond.holds .lt (XT.cmpL x y) = false ∧ ifCond.holds .ge (XT.cmpL x y) = true ∧ ifCond.holds .gt (XT.cmpL y x) = false ∧ ifCond.holds .le (XT.cmpL y x) = true := by
  by_cases q : x = y
  · subst q
    simp only [XT.cmpL, h, if_true, if_false]
    decide
  · have h1 : y < x := by
      rw [Int64.lt_iff_toInt_lt] at h ⊢
      have : x.toInt ≠ y.toInt := fun z => q (Int64.toInt_inj.mp z)
      omega
    have h3 : ¬ y = x := fun z => q z.symm
    simp only [XT.cmpL, h, h1, q, h3, if_true, if_false]
    decide
theorem own_teqL {x y : Int64} (h : x = y) : ifCond.holds .eq (XT.cmpL x y) = true ∧ ifCond.holds .ne (XT.cmpL x y) = false := by
  subst h
  simp only [XT.cmpL, Int64.lt_irrefl, if_true, if_false]
  decide
theorem own_feqL {x y : Int64} (h : ¬ x = y) : ifCond.holds .eq (XT.cmpL x y) = false ∧ ifCond.holds .ne (XT.cmpL x y) = true := by
  by_cases q : y < x
  · simp only [XT.cmpL, q, if_true]
    decide
  · simp only [XT.cmpL, q, h, if_false]
    decide
/-! fields, statics -/
theorem own_getS (pc' : Nat) (X : Stand p l e R s m args below meth c T locs cells slots) (hx : p.tables.exec = Jvm.exec) (hby : c.code = bytes) (hZ : Z.Warmed39 s.vm) {own O n d : String} {index : Nat} (hown : s.vm.findClass own = some m.cls) (w : (Cond.fieldLink own index O n d).before a0 Z = true) (eT : T.heap = h) {v : Value} (F : Sta Z h O n d v) (hd : decode bytes pc = .ok (.getstatic index, 3)) (hp : pc + 3 = pc')
    (r : ∀ T', Stand p l e R s m args below meth c T' locs cells slots → T'.heap = h → Go p e below P (T'.setTop (mkF m pc' ls (v :: st)))) : Go p e below P (T.setTop (mkF m pc ls st)) := by
  subst hp
  obtain ⟨T', X', e', q⟩ := getS2 X hx hZ hown (host := "") (Or.inl w) Via.refl eT F (g := mkF m pc ls st) rfl (hb hby hd)
  exact own_go q (r T' X' e')
theorem own_getSN (pc' : Nat) (X : Stand p l e R s m args below meth c T locs cells slots) (hx : p.tables.exec = Jvm.exec) (hby : c.code = bytes) (hZ : Z.Warmed39 s.vm) {own O n d host : String} {index : Nat} (hown : s.vm.findClass own = some m.cls) (w : (Cond.fieldLinkNest own index O n d host).before a0 Z = true) (eT : T.heap = h) {v : Value} (F : Sta Z h O n d v) (hd : decode bytes pc = .ok (.getstatic index, 3)) (hp : pc + 3 = pc')
    (r : ∀ T', Stand p l e R s m args below meth c T' locs cells slots → T'.heap = h → Go p e below P (T'.setTop (mkF m pc' ls (v :: st)))) : Go p e below P (T.setTop (mkF m pc ls st)) := by
  subst hp
  obtain ⟨T', X', e', q⟩ := getS2 X hx hZ hown (Or.inr w) Via.refl eT F (g := mkF m pc ls st) rfl (hb hby hd)
  exact own_go q (r T' X' e')
theorem own_getF (pc' : Nat) (X : Stand p l e R s m args below meth c T locs cells slots) (hx : p.tables.exec = Jvm.exec) (hby : c.code = bytes) (hZ : Z.Warmed39 s.vm) {own O n d : String} {index : Nat} (hown : s.vm.findClass own = some m.cls) (w : (Cond.fieldLink own index O n d).before a0 Z = true) (eT : T.heap = h) {a : Addr} {v : Value} (F : Fld Z h a O n d v) (hd : decode bytes pc = .ok (.getfield index, 3)) (hp : pc + 3 = pc')
    (r : ∀ T', Stand p l e R s m args below meth c T' locs cells slots → T'.heap = h → Go p e below P (T'.setTop (mkF m pc' ls (v :: st)))) : Go p e below P (T.setTop (mkF m pc ls (.ref a :: st))) := by
  subst hp
  obtain ⟨T', X', e', q⟩ := getF X hx hZ hown (host := "") (Or.inl w) Via.refl eT F (g := mkF m pc ls (.ref a :: st)) rfl rfl (hb hby hd)
  exact own_go q (r T' X' e')
/-! arrays -/
theorem own_n0 {n0 : Nat} (O : Old Z n0 h) : n0 ≤ h.size := O.1 ▸ O.2.1
theorem own_newR (pc' : Nat) (N : Nat) (X : Stand p l e R s m args below meth c T locs cells slots) (hx : p.tables.exec = Jvm.exec) (hby : c.code = bytes) (hZ : Z.Warmed39 s.vm) {own C : String} {index : Nat} (hown : s.vm.findClass own = some m.cls) (w1 : (Cond.classLink own index C).before a0 Z = true) (w2 : (Cond.arrayOver (.object C)).before a0 Z = true) (eT : T.heap = h)
    (hd : decode bytes pc = .ok (.anewarray index, 3)) (hp : pc + 3 = pc') {n : Int32} (hn : ¬ n < 0) (hcap : n.toNatClampNeg ≤ N) (hbig : N * 8 ≤ 536870912) (hc : cells + 1 ≤ R.cells) (hl : slots + N ≤ R.slots)
    (r : ∀ T' h' cA b, Stand p l e R s m args below meth c T' locs (cells + 1) (slots + N) → T'.heap = h' → Ext h h' → b = h.size → Arv Z h' b cA (.object C) n (List.replicate N .null) .null → Ovr Z cA C → Go p e below P (T'.setTop (mkF m pc' ls (.ref b :: st)))) : Go p e below P (T.setTop (mkF m pc ls (.int n :: st))) := by
  subst hp
  obtain ⟨T', h', cA, X', e', E', A', O', q⟩ := newR X hx hZ hown w1 w2 eT (g := mkF m pc ls (.int n :: st)) rfl (hb hby hd) rfl hn hcap hbig hc hl
  exact own_go q (r T' h' cA h.size X' e' E' rfl ((Arv.new A' hn).pad (pad_rep [] .null N)) O')
theorem own_newP (pc' : Nat) (N : Nat) {aty : ArrayType} (X : Stand p l e R s m args below meth c T locs cells slots) (hx : p.tables.exec = Jvm.exec) (hby : c.code = bytes) (hZ : Z.Warmed39 s.vm) (w : (Cond.arrayClass (newarray.typeOf aty)).before a0 Z = true) (eT : T.heap = h)
    (hd : decode bytes pc = .ok (.newarray aty, 2)) (hp : pc + 2 = pc') {n : Int32} (hn : ¬ n < 0) (hcap : n.toNatClampNeg ≤ N) (hbig : N * 8 ≤ 536870912) (hc : cells + 1 ≤ R.cells) (hl : slots + N ≤ R.slots)
    (r : ∀ T' h' cA b, Stand p l e R s m args below meth c T' locs (cells + 1) (slots + N) → T'.heap = h' → Ext h h' → b = h.size → Arv Z h' b cA (newarray.typeOf aty) n (List.replicate N (defaultValue (newarray.typeOf aty))) (defaultValue (newarray.typeOf aty)) → Go p e below P (T'.setTop (mkF m pc' ls (.ref b :: st)))) : Go p e below P (T.setTop (mkF m pc ls (.int n :: st))) := by
  subst hp
  obtain ⟨T', h', cA, X', e', E', A', q⟩ := newP X hx hZ w eT (g := mkF m pc ls (.int n :: st)) rfl (hb hby hd) rfl hn hcap hbig hc hl
  exact own_go q (r T' h' cA h.size X' e' E' rfl ((Arv.new A' hn).pad (pad_rep [] _ N)))
theorem own_stR (pc' : Nat) (i : Nat) (X : Stand p l e R s m args below meth c T locs cells slots) (hx : p.tables.exec = Jvm.exec) (hby : c.code = bytes) (hZ : Z.Warmed39 s.vm) (eT : T.heap = h) {a y : Addr} {cA : ClassId} {C : String} {n j : Int32} {vs : List Value} (V : Arv Z h a cA (.object C) n vs .null) (O : Ovr Z cA C) (I : Ins Z h y C true)
    (hd : decode bytes pc = .ok (.aastore, 1)) (hp : pc + 1 = pc') (hj : ¬ j < 0 ∧ j < n) (hi : j.toNatClampNeg = i) (hv : i < vs.length)
    (r : ∀ T' h', Stand p l e R s m args below meth c T' (locs ++ [⟨a, j.toNatClampNeg⟩]) cells slots → T'.heap = h' → Wr h h' a j.toNatClampNeg (.ref y) → Arv Z h' a cA (.object C) n (vs.set i (.ref y)) .null → Go p e below P (T'.setTop (mkF m pc' ls st))) : Go p e below P (T.setTop (mkF m pc ls (.ref y :: .int j :: .ref a :: st))) := by
  subst hp
  obtain ⟨cl, A, q1, S, q3, H, G⟩ := V
  obtain ⟨T', h', X', e', W', q⟩ := stR X hx hZ eT A (j := j) (inb_of S hj) rfl (Sto.ofV A q1 O I) (g := mkF m pc ls (.ref y :: .int j :: .ref a :: st)) rfl rfl (hb hby hd)
  exact own_go q (r T' h' X' e' W' (Arv.set A q1 S q3 H G rfl W' i hi hv))
theorem own_stZ (pc' : Nat) (i : Nat) (X : Stand p l e R s m args below meth c T locs cells slots) (hx : p.tables.exec = Jvm.exec) (hby : c.code = bytes) (hZ : Z.Warmed39 s.vm) (eT : T.heap = h) {a : Addr} {cA : ClassId} {n j x : Int32} {vs : List Value} {dv : Value} (V : Arv Z h a cA .boolean n vs dv)
    (hd : decode bytes pc = .ok (.bastore, 1)) (hp : pc + 1 = pc') (hj : ¬ j < 0 ∧ j < n) (hi : j.toNatClampNeg = i) (hv : i < vs.length) (hx1 : nar .boolean x = x)
    (r : ∀ T' h', Stand p l e R s m args below meth c T' (locs ++ [⟨a, j.toNatClampNeg⟩]) cells slots → T'.heap = h' → Wr h h' a j.toNatClampNeg (.int x) → Arv Z h' a cA .boolean n (vs.set i (.int x)) dv → Go p e below P (T'.setTop (mkF m pc' ls st))) : Go p e below P (T.setTop (mkF m pc ls (.int x :: .int j :: .ref a :: st))) := by
  subst hp
  obtain ⟨cl, A, q1, S, q3, H, G⟩ := V
  obtain ⟨T', h', X', e', W', q⟩ := stZ X hx hZ eT A (j := j) (x := x) (inb_of S hj) (g := mkF m pc ls (.int x :: .int j :: .ref a :: st)) rfl rfl (hb hby hd)
  rw [hx1] at W'
  exact own_go q (r T' h' X' e' W' (Arv.set A q1 S q3 H G (hx1 ▸ fits_nar_bool x) W' i hi hv))
theorem own_aaload (pc' : Nat) (v : Value) (X : Stand p l e R s m args below meth c T locs cells slots) (hx : p.tables.exec = Jvm.exec) (hby : c.code = bytes) (hZ : Z.Warmed39 s.vm) (eT : T.heap = h) {a : Addr} {cA : ClassId} {ty : FieldType} {n j : Int32} {vs : List Value} {dv : Value} (V : Arv Z h a cA ty n vs dv) (hty : ty.isReference = true)
    (hd : decode bytes pc = .ok (.aaload, 1)) (hp : pc + 1 = pc') (hj : ¬ j < 0 ∧ j < n) (hv : vs.getD j.toNatClampNeg dv = v)
    (r : Go p e below P (T.setTop (mkF m pc' ls (v :: st)))) : Go p e below P (T.setTop (mkF m pc ls (.int j :: .ref a :: st))) := by
  subst hp
  obtain ⟨cl, A, q1, S, q3, H, G⟩ := V
  exact own_go (fun t q => X.aaload hx (j := j) (v := v) (by rw [eT]; exact A.1) (State.isArrayOf_alike hZ.alike A.2.1) hty A.2.2 (inb_of S hj) (H.at (inb_of S hj) hv) (g := mkF m pc ls (.int j :: .ref a :: st)) rfl rfl (hb hby hd) t q) r
theorem own_zaload (pc' : Nat) (v : Value) (X : Stand p l e R s m args below meth c T locs cells slots) (hx : p.tables.exec = Jvm.exec) (hby : c.code = bytes) (hZ : Z.Warmed39 s.vm) (eT : T.heap = h) {a : Addr} {cA : ClassId} {n j : Int32} {vs : List Value} {dv : Value} (V : Arv Z h a cA .boolean n vs dv)
    (hd : decode bytes pc = .ok (.baload, 1)) (hp : pc + 1 = pc') (hj : ¬ j < 0 ∧ j < n) (hv : vs.getD j.toNatClampNeg dv = v)
    (r : Go p e below P (T.setTop (mkF m pc' ls (v :: st)))) : Go p e below P (T.setTop (mkF m pc ls (.int j :: .ref a :: st))) := by
  subst hp
  obtain ⟨cl, A, q1, S, q3, H, G⟩ := V
  exact own_go (fun t q => X.baloadBooleans hx (j := j) (v := v) (by rw [eT]; exact A.1) (State.isArrayOf_alike hZ.alike A.2.1) A.2.2 (inb_of S hj) (H.at (inb_of S hj) hv) (g := mkF m pc ls (.int j :: .ref a :: st)) rfl rfl (hb hby hd) t q) r
theorem own_len (pc' : Nat) (X : Stand p l e R s m args below meth c T locs cells slots) (hx : p.tables.exec = Jvm.exec) (hby : c.code = bytes) (hZ : Z.Warmed39 s.vm) (eT : T.heap = h) {a : Addr} {cA : ClassId} {ty : FieldType} {n : Int32} {vs : List Value} {dv : Value} (V : Arv Z h a cA ty n vs dv)
    (hd : decode bytes pc = .ok (.arraylength, 1)) (hp : pc + 1 = pc')
    (r : Go p e below P (T.setTop (mkF m pc' ls (.int n :: st)))) : Go p e below P (T.setTop (mkF m pc ls (.ref a :: st))) := by
  subst hp
  obtain ⟨cl, A, q1, S, q3, H, G⟩ := V
  rw [← len_of S q3] at r
  exact own_go (fun t q => X.arraylength hx (by rw [eT]; exact A.1) (State.isArrayOf_alike hZ.alike A.2.1) (g := mkF m pc ls (.ref a :: st)) rfl rfl (hb hby hd) t q) r
/-! calls -/
theorem own_callS (pc' : Nat) {h : Heap} {as' : Array Value} {rm : Room} {Q : Option Value → Heap → List Loc → Prop} {y : MethodName} {code' : ByteArray} {maxL : Nat} {ret' : Option FieldType}
    (hM : MetFree l y (head1 [Cond.code y code' maxL ret'] rm) (fun a U => a = as' ∧ Z.Warmed39 U.vm ∧ U.heap = h) (fun _ _ _ _ _ => True) (fun _ U o U' => ∃ v L, o = .returned v ∧ Q v U'.heap L ∧ FrameEnd U o U' L rm.cells rm.slots))
    (X : Stand p l e R s m args below meth c T locs cells slots) (hx : p.tables.exec = Jvm.exec) (hby : c.code = bytes) (hZ : Z.Warmed39 s.vm) {own : String} {index W : Nat} (hown : s.vm.findClass own = some m.cls)
    (w1 : (Cond.methodLink own index y).before a0 Z = true) (w2 : (Cond.static y).before a0 Z = true) (w3 : (Cond.initialized y.cls).before a0 Z = true) (w4 : (Cond.code y code' maxL ret').before a0 Z = true)
    (hy : y.cls ≠ "java/lang/invoke/MethodHandle" ∧ y.cls ≠ "java/lang/invoke/VarHandle") (hsz : ls.size = c.maxLocals) (argsL rest : List Value) {ps : List FieldType} {rt : Option FieldType} (hps : parseMethodDescriptor y.desc = some ⟨ps, rt⟩) (hlen : argsL.length = ps.length)
    (hd : decode bytes pc = .ok (.invokestatic index, 3)) (hp : pc + 3 = pc') (eT : T.heap = h) (hst : st = argsL.reverse ++ rest) (has : argsL.toArray = as') (hW : (rest.map fun v => v.category).sum = W)
    (hf : rm.frames + 1 ≤ R.frames) (hl : W + (maxL + 11) + rm.locals ≤ R.locals) (hc : cells + rm.cells ≤ R.cells) (hs : slots + rm.slots ≤ R.slots)
    (r : ∀ v T' L, Stand p l e R s m args below meth c T' (locs ++ L) (cells + rm.cells) (slots + rm.slots) → Q v T'.heap L → Go p e below P (T'.setTop (mkF m pc' ls (v.toList ++ rest)))) : Go p e below P (T.setTop (mkF m pc ls st)) := by
  subst hp
  obtain ⟨v, _, ⟨T', L', k', n'⟩, -, X', ⟨L, hQ, l1, l2, l3⟩, q⟩ := Jvm.LawKit.callS X hx hown (mvT hZ w1) (mvT hZ w2) (mvT hZ w3) (mvT hZ w4) hy (backOf (W := W) hM hZ w4 w3 hf hl) (g := mkF m pc ls st) rfl hsz (argsL := argsL) (rest := rest) (lenOf hps hlen) hst (by show 2 * 0 + _ ≤ _; omega) (hb hby hd) (fun _ _ => ⟨has, eT, hc, hs⟩)
  dsimp only [Pt.U, Pt.locs, Pt.cells, Pt.slots] at X' l1 l2 l3 q hQ
  subst l1 l2 l3
  exact own_go q (r v T' L X' hQ)
theorem own_virt (pc' : Nat) {h : Heap} {as' : Array Value} {rm : Room} {Q : Option Value → Heap → List Loc → Prop} {y z : MethodName} {code' : ByteArray} {maxL : Nat} {ret' : Option FieldType}
    (hM : MetFree l z (head1 [Cond.code z code' maxL ret'] rm) (fun a U => a = as' ∧ Z.Warmed39 U.vm ∧ U.heap = h) (fun _ _ _ _ _ => True) (fun _ U o U' => ∃ v L, o = .returned v ∧ Q v U'.heap L ∧ FrameEnd U o U' L rm.cells rm.slots))
    (X : Stand p l e R s m args below meth c T locs cells slots) (hx : p.tables.exec = Jvm.exec) (hby : c.code = bytes) (hZ : Z.Warmed39 s.vm) {own C : String} {index W : Nat} (hown : s.vm.findClass own = some m.cls)
    (w1 : (Cond.methodLink own index y).before a0 Z = true) (w2 : (Cond.declares y).before a0 Z = true) (nf : NotFace s y) (w3 : (Cond.selects C y z).before a0 Z = true) (w4 : (Cond.instanceMethod z).before a0 Z = true) (w5 : (Cond.initialized z.cls).before a0 Z = true) (w6 : (Cond.code z code' maxL ret').before a0 Z = true)
    (hy : y.cls ≠ "java/lang/invoke/MethodHandle" ∧ y.cls ≠ "java/lang/invoke/VarHandle") (hsz : ls.size = c.maxLocals) (b : Addr) (argsL rest : List Value) {ps : List FieldType} {rt : Option FieldType} (hps : parseMethodDescriptor y.desc = some ⟨ps, rt⟩) (hlen : argsL.length = ps.length)
    (hd : decode bytes pc = .ok (.invokevirtual index, 3)) (hp : pc + 3 = pc') (eT : T.heap = h) (E : Exa Z h b C) (hst : st = argsL.reverse ++ .ref b :: rest) (has : (.ref b :: argsL).toArray = as') (hW : (rest.map fun v => v.category).sum = W)
    (hf : rm.frames + 1 ≤ R.frames) (hl : W + (maxL + 11) + rm.locals ≤ R.locals) (hc : cells + rm.cells ≤ R.cells) (hs : slots + rm.slots ≤ R.slots)
    (r : ∀ v T' L, Stand p l e R s m args below meth c T' (locs ++ L) (cells + rm.cells) (slots + rm.slots) → Q v T'.heap L → Go p e below P (T'.setTop (mkF m pc' ls (v.toList ++ rest)))) : Go p e below P (T.setTop (mkF m pc ls st)) := by
  subst hp
  obtain ⟨cq, kq, q1, q2, q3⟩ := isOf (s := s) (T := T) hZ eT E
  obtain ⟨v, _, ⟨T', L', k', n'⟩, -, X', ⟨L, hQ, l1, l2, l3⟩, q⟩ := X.virtualBack hx hown (mvT hZ w1) (mvT hZ w2) nf (mvT hZ w3) (mvT hZ w4) hy (backOf (W := W) hM hZ w6 w5 hf hl) q1 q3 (g := mkF m pc ls st) rfl hsz (Steps.refl _) (argsL := argsL) (rest := rest) (lenOf hps hlen) hst (by show 2 * 0 + _ ≤ _; omega) (hb hby hd) (fun _ _ => ⟨has, eT, hc, hs⟩)
  dsimp only [Pt.U, Pt.locs, Pt.cells, Pt.slots] at X' l1 l2 l3 q hQ
  subst l1 l2 l3
  exact own_go (fun t k => q.trans k) (r v T' L X' hQ)
/-! the end of a walk -/
theorem own_ret {Q : Option Value → Heap → List Loc → Prop} {K N : Nat} {t : FieldType} {w : Value} {i : Instr} (X : Stand p l e R s m args below meth c T locs cells slots) (hx : p.tables.exec = Jvm.exec) (hby : c.code = bytes) (hret : meth.sig.returnType = some t) (hlocks : meth.locks = false)
    (hd : decode bytes pc = .ok (i, 1)) (hn : narrow t w = w)
    (hi : (i = .ireturn ∧ (t = .int ∨ t = .boolean ∨ t = .byte ∨ t = .char ∨ t = .short) ∧ ∃ z, w = .int z) ∨ (i = .lreturn ∧ t = .long ∧ ∃ z, w = .long z) ∨ (i = .dreturn ∧ t = .double ∧ ∃ z, w = .double z) ∨ (i = .freturn ∧ t = .float ∧ ∃ z, w = .float z) ∨ (i = .areturn ∧ t.isReference = true ∧ w.isRef = true))
    (hK : cells ≤ K) (hN : slots ≤ N) (hQ : Q (some w) T.heap locs) :
    Go p e below (fun s₂ o => s₂.status = .running ∧ Ended s₂ below o ∧ ∃ v L, o = .returned v ∧ Q v s₂.heap L ∧ FrameEnd s o s₂ L K N) (T.setTop (mkF m pc ls (w :: st))) := by
  obtain ⟨fs, hr, hrun, hended, hW, hsame⟩ := X.leave (v := some w) (fun h => by rw [hret] at h; cases h) hlocks
  exact ⟨_, _, retOut X hx hret hn hi (hb hby hd) hr, hrun, hended, _, _, rfl, hQ, ⟨_, rfl⟩, hW, hsame.mono hK hN⟩
theorem own_ret0 {Q : Option Value → Heap → List Loc → Prop} {K N : Nat} (X : Stand p l e R s m args below meth c T locs cells slots) (hx : p.tables.exec = Jvm.exec) (hby : c.code = bytes) (hret : meth.sig.returnType = none) (hlocks : meth.locks = false)
    (hd : decode bytes pc = .ok (.return_, 1)) (hK : cells ≤ K) (hN : slots ≤ N) (hQ : Q none T.heap locs) :
    Go p e below (fun s₂ o => s₂.status = .running ∧ Ended s₂ below o ∧ ∃ v L, o = .returned v ∧ Q v s₂.heap L ∧ FrameEnd s o s₂ L K N) (T.setTop (mkF m pc ls [])) := by
  obtain ⟨fs, hr, hrun, hended, hW, hsame⟩ := X.leave (v := none) (fun _ => rfl) hlocks
  exact ⟨_, _, X.returnOut hx hret (hb hby hd) hr, hrun, hended, _, _, rfl, hQ, ⟨_, rfl⟩, hW, hsame.mono hK hN⟩
/-! the case's words -/
theorem own_fld {Z : State} {args : Array Value} {t : Term} {C n d : String} {v : Int32} {x : Addr} (h : (Cond.eq (Term.field t C n d) (Term.int v)).value args Z none Z [] = some true) (ht : t.eval args Z none [] Z = some (.ref x)) : Fld Z Z.heap x C n d (.int v) :=
  Fld.start ((fld_at ht).symm.trans (eqv_i (Term.int_eval v) h))
theorem own_fldN {Z : State} {args : Array Value} {t : Term} {C n d : String} {x : Addr} (h : (Cond.eq (Term.field t C n d) Term.null).value args Z none Z [] = some true) (ht : t.eval args Z none [] Z = some (.ref x)) : Fld Z Z.heap x C n d .null :=
  Fld.start ((fld_at ht).symm.trans (null_v h))
theorem own_eqvR {Z : State} {args : Array Value} {X F : Term} {y : Addr} (hF : F.eval args Z none [] Z = some (.ref y)) (h : (Cond.eq X F).value args Z none Z [] = some true) : X.eval args Z none [] Z = some (.ref y) := by
  obtain ⟨x, y', e1, e2, k1, k2⟩ := cmp_v (Or.inl h)
  cases hF.symm.trans e2
  have hx : x.isRef = true := k2.2
  exact e1.trans (congrArg some (gotT (eq_R e1 hF hx rfl) h))
theorem own_fldR {Z : State} {args : Array Value} {t F : Term} {C n d : String} {x y : Addr} (h : (Cond.eq (Term.field t C n d) F).value args Z none Z [] = some true) (ht : t.eval args Z none [] Z = some (.ref x)) (hF : F.eval args Z none [] Z = some (.ref y)) : Fld Z Z.heap x C n d (.ref y) :=
  Fld.start ((fld_at ht).symm.trans (own_eqvR hF h))
theorem own_len_at {Z : State} {args : Array Value} {t : Term} {z : Int32} {a : Addr} {cl : Cell} (h : (Term.length t).eval args Z none [] Z = some (.int z)) (ht : t.eval args Z none [] Z = some (.ref a)) (ha : Z.arrayAt? a = some cl) : cl.slots.size < 2 ^ 31 ∧ cl.slots.size.toInt32 = z := by
  by_cases q : cl.slots.size < 2 ^ 31
  · refine ⟨q, ?_⟩
    rw [len_f ht ha q] at h
    exact Value.int.inj (Option.some.inj h)
  · exfalso
    simp [Term.eval, ht, ha, q] at h
/-- what a callee that writes nothing leaves -/
def own_Q (r : Option Value) (n0 : Nat) (h0 : Heap) (v : Option Value) (h : Heap) (L : List Loc) : Prop := v = r ∧ Fr n0 L ∧ h = h0
/-- what the law leaves -/
def own_Q1 (n0 : Nat) (v : Option Value) (h : Heap) (L : List Loc) : Prop := v = some (.int 1) ∧ Fr n0 L
end Own
section Own2
variable {p : Program} {l : Launch} {e : Env} {R : Room} {s : State} {m : MethodId} {args : Array Value} {below : List Frame} {meth : Method} {c : Code} {T : State} {locs : List Loc} {cells slots : Nat} {P : State → Outcome → Prop} {pc : Nat} {ls : Array Slot} {st : List Value} {Z : State} {a0 : Array Value} {h : Heap} {bytes : ByteArray}
/-! objects -/
theorem own_new (pc' : Nat) (k : Nat) (X : Stand p l e R s m args below meth c T locs cells slots) (hx : p.tables.exec = Jvm.exec) (hby : c.code = bytes) (hZ : Z.Warmed39 s.vm) {own C : String} {index : Nat} (hown : s.vm.findClass own = some m.cls) (w : (Cond.classLink own index C).before a0 Z = true) (wi : (Cond.instantiable C k).before a0 Z = true) (wz : (Cond.initialized C).before a0 Z = true) (eT : T.heap = h)
    (hd : decode bytes pc = .ok (.new index, 3)) (hp : pc + 3 = pc') (hc : cells + 1 ≤ R.cells) (hl : slots + k ≤ R.slots)
    (r : ∀ T' h' b, Stand p l e R s m args below meth c T' locs (cells + 1) (slots + k) → T'.heap = h' → Ext h h' → b = h.size → Exa Z h' b C → (∀ {O nm d : String} {ty : FieldType}, Laid Z a0 C O nm d → parseFieldDescriptor d = some ty → Fld Z h' b O nm d (defaultValue ty)) → Go p e below P (T'.setTop (mkF m pc' ls (.ref b :: st)))) : Go p e below P (T.setTop (mkF m pc ls st)) := by
  subst hp
  obtain ⟨T', h', X', e', E', A', D', -, q⟩ := newO X hx hZ hown w wi wz eT (g := mkF m pc ls st) rfl (hb hby hd) hc hl
  exact own_go q (r T' h' h.size X' e' E' rfl A' D')
theorem own_putF (pc' : Nat) (X : Stand p l e R s m args below meth c T locs cells slots) (hx : p.tables.exec = Jvm.exec) (hby : c.code = bytes) (hZ : Z.Warmed39 s.vm) {own O n d C : String} {index kk : Nat} (ty : FieldType) (hown : s.vm.findClass own = some m.cls) (w : (Cond.fieldLink own index O n d).before a0 Z = true) (eT : T.heap = h) {a : Addr} {v old : Value} (F : Fld Z h a O n d old) (E : Exa Z h a C) (L : (Cond.lays C O n d).before a0 Z = true ∨ ((Cond.laysFinal C O n d).before a0 Z = true ∧ own = O ∧ meth.name = "<init>")) (wi : (Cond.instantiable C kk).before a0 Z = true)
    (hty : parseFieldDescriptor d = some ty) (hn : narrow ty v = v) (hf : fits ty v = true) (hd : decode bytes pc = .ok (.putfield index, 3)) (hp : pc + 3 = pc')
    (r : ∀ T' h', Stand p l e R s m args below meth c T' (locs ++ [⟨a, Jvm.RoadKit.slotOf Z O n d⟩]) cells slots → T'.heap = h' → Wr h h' a (Jvm.RoadKit.slotOf Z O n d) v → Go p e below P (T'.setTop (mkF m pc' ls st))) : Go p e below P (T.setTop (mkF m pc ls (v :: .ref a :: st))) := by
  subst hp
  obtain ⟨T', h', X', e', W', q⟩ := putF X hx hZ hown (host := "") (Or.inl w) Via.refl eT F E L wi hty hn hf (g := mkF m pc ls (v :: .ref a :: st)) rfl rfl (hb hby hd)
  exact own_go q (r T' h' X' e' W')
theorem own_initO (pc' : Nat) (W : Nat) (X : Stand p l e R s m args below meth c T locs cells slots) (hx : p.tables.exec = Jvm.exec) (hby : c.code = bytes) (hZ : Z.Warmed39 s.vm) {own : String} {idx : Nat} (hown : s.vm.findClass own = some m.cls) (w1 : (Cond.methodLink own idx Lib.objectInit).before a0 Z = true) (w2 : (Cond.instanceMethod Lib.objectInit).before a0 Z = true)
    (w3 : (Cond.code Lib.objectInit object_method_1_code 1 none).before a0 Z = true) (hsz : ls.size = c.maxLocals) {a : Addr} (hd : decode bytes pc = .ok (.invokespecial idx, 3)) (hp : pc + 3 = pc') (eT : T.heap = h) (hW : (st.map fun v => v.category).sum = W) (hf : 1 ≤ R.frames) (hl : W + 12 ≤ R.locals)
    (r : ∀ T', Stand p l e R s m args below meth c T' locs cells slots → T'.heap = h → Go p e below P (T'.setTop (mkF m pc' ls st))) : Go p e below P (T.setTop (mkF m pc ls (.ref a :: st))) := by
  subst hp
  obtain ⟨T', X', e', q⟩ := initO X hx hZ hown w1 w2 w3 eT (g := mkF m pc ls (.ref a :: st)) rfl hsz rfl (hb hby hd) hf (W := W) (by show 2 * 0 + _ ≤ _; omega) hl
  exact own_go q (r T' X' e')
theorem own_cast (pc' : Nat) (X : Stand p l e R s m args below meth c T locs cells slots) (hx : p.tables.exec = Jvm.exec) (hby : c.code = bytes) (hZ : Z.Warmed39 s.vm) {own K : String} {index : Nat} (hown : s.vm.findClass own = some m.cls) (w : (Cond.classLink own index K).before a0 Z = true) (eT : T.heap = h) {a : Addr} (F : Ins Z h a K true) (hd : decode bytes pc = .ok (.checkcast index, 3)) (hp : pc + 3 = pc')
    (r : ∀ T', Stand p l e R s m args below meth c T' locs cells slots → T'.heap = h → Go p e below P (T'.setTop (mkF m pc' ls (.ref a :: st)))) : Go p e below P (T.setTop (mkF m pc ls (.ref a :: st))) := by
  subst hp
  obtain ⟨T', X', e', q⟩ := castY X hx hZ hown w eT F (g := mkF m pc ls (.ref a :: st)) rfl rfl (hb hby hd)
  exact own_go q (r T' X' e')
theorem own_instY (pc' : Nat) (X : Stand p l e R s m args below meth c T locs cells slots) (hx : p.tables.exec = Jvm.exec) (hby : c.code = bytes) (hZ : Z.Warmed39 s.vm) {own K : String} {index : Nat} (hown : s.vm.findClass own = some m.cls) (w : (Cond.classLink own index K).before a0 Z = true) (eT : T.heap = h) {a : Addr} (F : Ins Z h a K true) (hd : decode bytes pc = .ok (.instanceof index, 3)) (hp : pc + 3 = pc')
    (r : ∀ T', Stand p l e R s m args below meth c T' locs cells slots → T'.heap = h → Go p e below P (T'.setTop (mkF m pc' ls (.int 1 :: st)))) : Go p e below P (T.setTop (mkF m pc ls (.ref a :: st))) := by
  subst hp
  obtain ⟨T', X', e', q⟩ := instY X hx hZ hown w eT F (g := mkF m pc ls (.ref a :: st)) rfl rfl (hb hby hd)
  exact own_go q (r T' X' e')
theorem own_instN (pc' : Nat) (X : Stand p l e R s m args below meth c T locs cells slots) (hx : p.tables.exec = Jvm.exec) (hby : c.code = bytes) (hZ : Z.Warmed39 s.vm) {own K C : String} {index : Nat} (hown : s.vm.findClass own = some m.cls) (w : (Cond.classLink own index K).before a0 Z = true) (eT : T.heap = h) {a : Addr} (E : Exa Z h a C) (F : ∃ c t, Z.vm.findClass C = some c ∧ Z.vm.findClass K = some t ∧ Z.vm.assignable c t = false) (hd : decode bytes pc = .ok (.instanceof index, 3)) (hp : pc + 3 = pc')
    (r : ∀ T', Stand p l e R s m args below meth c T' locs cells slots → T'.heap = h → Go p e below P (T'.setTop (mkF m pc' ls (.int 0 :: st)))) : Go p e below P (T.setTop (mkF m pc ls (.ref a :: st))) := by
  subst hp
  obtain ⟨T', X', e', q⟩ := instNo X hx hZ hown w eT E F (g := mkF m pc ls (.ref a :: st)) rfl rfl (hb hby hd)
  exact own_go q (r T' X' e')
theorem own_inst0 (pc' : Nat) (X : Stand p l e R s m args below meth c T locs cells slots) (hx : p.tables.exec = Jvm.exec) (hby : c.code = bytes) {index : Nat} (hd : decode bytes pc = .ok (.instanceof index, 3)) (hp : pc + 3 = pc')
    (r : Go p e below P (T.setTop (mkF m pc' ls (.int 0 :: st)))) : Go p e below P (T.setTop (mkF m pc ls (.null :: st))) := by
  subst hp
  exact own_go (fun t q => X.instanceofNull hx (g := mkF m pc ls (.null :: st)) rfl rfl (hb hby hd) t q) r
theorem own_lsw (pc' : Nat) (X : Stand p l e R s m args below meth c T locs cells slots) (hx : p.tables.exec = Jvm.exec) (hby : c.code = bytes) {k : Int32} {dflt : Int} {pairs : Array (Int × Int)} {len : Nat} (hd : decode bytes pc = .ok (.lookupswitch dflt pairs, len)) (hsorted : (pairs.toList.zip (pairs.toList.drop 1)).all (fun (a, next) => a.1 < next.1) = true) {a off : Int} (hfind : pairs.find? (·.1 == k.toInt) = some (a, off)) (ho : 0 ≤ (pc : Int) + off) (hp : ((pc : Int) + off).toNat = pc')
    (r : Go p e below P (T.setTop (mkF m pc' ls st))) : Go p e below P (T.setTop (mkF m pc ls (.int k :: st))) := by
  subst hp
  exact own_go (fun t q => X.lookupswitchHit hx (g := mkF m pc ls (.int k :: st)) rfl rfl (hb hby hd) hsorted hfind ho t q) r
/-! arrays of longs -/
theorem own_stJ (pc' : Nat) (i : Nat) (X : Stand p l e R s m args below meth c T locs cells slots) (hx : p.tables.exec = Jvm.exec) (hby : c.code = bytes) (hZ : Z.Warmed39 s.vm) (eT : T.heap = h) {a : Addr} {cA : ClassId} {n j : Int32} {x : Int64} {vs : List Value} {dv : Value} (V : Arv Z h a cA .long n vs dv)
    (hd : decode bytes pc = .ok (.lastore, 1)) (hp : pc + 1 = pc') (hj : ¬ j < 0 ∧ j < n) (hi : j.toNatClampNeg = i) (hv : i < vs.length)
    (r : ∀ T' h', Stand p l e R s m args below meth c T' (locs ++ [⟨a, j.toNatClampNeg⟩]) cells slots → T'.heap = h' → Wr h h' a j.toNatClampNeg (.long x) → Arv Z h' a cA .long n (vs.set i (.long x)) dv → Go p e below P (T'.setTop (mkF m pc' ls st))) : Go p e below P (T.setTop (mkF m pc ls (.long x :: .int j :: .ref a :: st))) := by
  subst hp
  obtain ⟨cl, A, q1, S, q3, H, G⟩ := V
  obtain ⟨T', h', X', e', W', q⟩ := stJ X hx hZ eT A (j := j) (inb_of S hj) (g := mkF m pc ls (.long x :: .int j :: .ref a :: st)) rfl rfl (hb hby hd)
  exact own_go q (r T' h' X' e' W' (Arv.set A q1 S q3 H G rfl W' i hi hv))
theorem own_shrink {a : Addr} {k : ClassId} {ty : FieldType} {z : Int32} {d : Value} {N : Nat} (M : Nat) (V : Arv Z h a k ty z (List.replicate N d) d) : Arv Z h a k ty z (List.replicate M d) d := V.pad fun i => (pad_rep [] d M i).trans (pad_rep [] d N i).symm
theorem own_laload (pc' : Nat) (v : Value) (X : Stand p l e R s m args below meth c T locs cells slots) (hx : p.tables.exec = Jvm.exec) (hby : c.code = bytes) (hZ : Z.Warmed39 s.vm) (eT : T.heap = h) {a : Addr} {cA : ClassId} {n j : Int32} {vs : List Value} {dv : Value} (V : Arv Z h a cA .long n vs dv)
    (hd : decode bytes pc = .ok (.laload, 1)) (hp : pc + 1 = pc') (hj : ¬ j < 0 ∧ j < n) (hv : vs.getD j.toNatClampNeg dv = v)
    (r : Go p e below P (T.setTop (mkF m pc' ls (v :: st)))) : Go p e below P (T.setTop (mkF m pc ls (.int j :: .ref a :: st))) := by
  subst hp
  obtain ⟨cl, A, q1, S, q3, H, G⟩ := V
  exact own_go (fun t q => X.laload hx (j := j) (v := v) (by rw [eT]; exact A.1) (State.isArrayOf_alike hZ.alike A.2.1) A.2.2 (inb_of S hj) (H.at (inb_of S hj) hv) (g := mkF m pc ls (.int j :: .ref a :: st)) rfl rfl (hb hby hd) t q) r
/-- System.arraycopy of no element at all -/
theorem own_cp0 (pc' : Nat) (W : Nat) (X : Stand p l e R s m args below meth c T locs cells slots) (hx : p.tables.exec = Jvm.exec) (hby : c.code = bytes) (hZ : Z.Warmed39 s.vm) {own : String} {index : Nat} (hown : s.vm.findClass own = some m.cls)
    (w1 : (Cond.methodLink own index Jvm.Stand.acN).before a0 Z = true) (w2 : (Cond.native Jvm.Stand.acN).before a0 Z = true) (w3 : (Cond.static Jvm.Stand.acN).before a0 Z = true) (w4 : (Cond.initialized "java/lang/System").before a0 Z = true) (eT : T.heap = h)
    {a b : Addr} {k k' : ClassId} {z z' : Int32} {vs vd : List Value} {dv dd : Value} (A : Arv Z h a k .long z vs dv) (B : Arv Z h b k' .long z' vd dd) {n0 : Nat} (N : Fr n0 locs) (ge : n0 ≤ b) (hsz : ls.size = c.maxLocals) (hd : decode bytes pc = .ok (.invokestatic index, 3)) (hp : pc + 3 = pc') (hW : (st.map fun v => v.category).sum = W)
    (hf : 1 ≤ R.frames) (hlo : W + (nativeFrameWords "java/lang/System" "arraycopy" 5 + 11) ≤ R.locals)
    (r : ∀ T' h' L, Stand p l e R s m args below meth c T' L cells slots → T'.heap = h' → Fr n0 L → Keep h h' [b] → Arv Z h' b k' .long z' vd dd → Go p e below P (T'.setTop (mkF m pc' ls st))) : Go p e below P (T.setTop (mkF m pc ls (.int 0 :: .int 0 :: .ref b :: .int 0 :: .ref a :: st))) := by
  subst hp
  obtain ⟨T', h', L, X', e', N', K', V', q⟩ := cpA X hx hZ hown w1 w2 w3 w4 eT A B (us := []) (sp := 0) (dp := 0) (nn := 0) (Or.inl ⟨rfl, rfl⟩) (by decide) (by decide) (by decide) (Nat.zero_le _) (Nat.zero_le _) rfl (Nat.zero_le _) N ge (g := mkF m pc ls (.int 0 :: .int 0 :: .ref b :: .int 0 :: .ref a :: st)) rfl hsz rfl (hb hby hd) hf (W := W) (by show 2 * 0 + _ ≤ _; omega) hlo
  exact own_go q (r T' h' L X' e' N' K' V')
/-! calls -/
theorem own_spec (pc' : Nat) {h : Heap} {as' : Array Value} {rm : Room} {Q : Option Value → Heap → List Loc → Prop} {y : MethodName} {code' : ByteArray} {maxL : Nat}
    (hM : MetFree l y (head1 [Cond.code y code' maxL none] rm) (fun a U => a = as' ∧ Z.Warmed39 U.vm ∧ U.heap = h) (fun _ _ _ _ _ => True) (fun _ U o U' => ∃ v L, o = .returned v ∧ Q v U'.heap L ∧ FrameEnd U o U' L rm.cells rm.slots))
    (X : Stand p l e R s m args below meth c T locs cells slots) (hx : p.tables.exec = Jvm.exec) (hby : c.code = bytes) (hZ : Z.Warmed39 s.vm) {own : String} {index W : Nat} (hown : s.vm.findClass own = some m.cls)
    (hn : y.name = "<init>") (w1 : (Cond.methodLink own index y).before a0 Z = true) (w4 : (Cond.instanceMethod y).before a0 Z = true) (w5 : (Cond.initialized y.cls).before a0 Z = true) (w6 : (Cond.code y code' maxL none).before a0 Z = true)
    (hy : y.cls ≠ "java/lang/invoke/MethodHandle" ∧ y.cls ≠ "java/lang/invoke/VarHandle") (hsz : ls.size = c.maxLocals) (b : Addr) (argsL rest : List Value) {ps : List FieldType} {rt : Option FieldType} (hps : parseMethodDescriptor y.desc = some ⟨ps, rt⟩) (hlen : argsL.length = ps.length)
    (hd : decode bytes pc = .ok (.invokespecial index, 3)) (hp : pc + 3 = pc') (eT : T.heap = h) (hst : st = argsL.reverse ++ .ref b :: rest) (has : (.ref b :: argsL).toArray = as') (hW : (rest.map fun v => v.category).sum = W)
    (hf : rm.frames + 1 ≤ R.frames) (hl : W + (maxL + 11) + rm.locals ≤ R.locals) (hc : cells + rm.cells ≤ R.cells) (hs : slots + rm.slots ≤ R.slots)
    (r : ∀ v T' L, Stand p l e R s m args below meth c T' (locs ++ L) (cells + rm.cells) (slots + rm.slots) → Q v T'.heap L → Go p e below P (T'.setTop (mkF m pc' ls (v.toList ++ rest)))) : Go p e below P (T.setTop (mkF m pc ls st)) := by
  subst hp
  obtain ⟨v, _, ⟨T', L', k', n'⟩, -, X', ⟨L, hQ, l1, l2, l3⟩, q⟩ := X.specialBack hx hn hown (mvT hZ w1) (mvT hZ w4) (mvT hZ w6) hy (backOf (W := W) hM hZ w6 w5 hf hl) (g := mkF m pc ls st) rfl hsz (Steps.refl _) (a := b) (argsL := argsL) (rest := rest) (lenOf hps hlen) hst (by show 2 * 0 + _ ≤ _; omega) (hb hby hd) (fun _ _ => ⟨has, eT, hc, hs⟩)
  dsimp only [Pt.U, Pt.locs, Pt.cells, Pt.slots] at X' l1 l2 l3 q hQ
  subst l1 l2 l3
  exact own_go (fun t k => q.trans k) (r v T' L X' hQ)
theorem own_priv (pc' : Nat) {h : Heap} {as' : Array Value} {rm : Room} {Q : Option Value → Heap → List Loc → Prop} {y : MethodName} {code' : ByteArray} {maxL : Nat} {ret' : Option FieldType}
    (hM : MetFree l y (head1 [Cond.code y code' maxL ret'] rm) (fun a U => a = as' ∧ Z.Warmed39 U.vm ∧ U.heap = h) (fun _ _ _ _ _ => True) (fun _ U o U' => ∃ v L, o = .returned v ∧ Q v U'.heap L ∧ FrameEnd U o U' L rm.cells rm.slots))
    (X : Stand p l e R s m args below meth c T locs cells slots) (hx : p.tables.exec = Jvm.exec) (hby : c.code = bytes) (hZ : Z.Warmed39 s.vm) {own : String} {index W : Nat} (hown : s.vm.findClass own = some m.cls)
    (w1 : (Cond.methodLink own index y).before a0 Z = true) (w4 : (Cond.instanceMethod y).before a0 Z = true) (wp : (Cond.privateMethod y).before a0 Z = true) {y2 : MethodName} {C2 : String} (wsel : (Cond.selects C2 y2 y2).before a0 Z = true) (w5 : (Cond.initialized y.cls).before a0 Z = true) (w6 : (Cond.code y code' maxL ret').before a0 Z = true)
    (hy2 : y2.cls = y.cls) (hy : y.cls ≠ "java/lang/invoke/MethodHandle" ∧ y.cls ≠ "java/lang/invoke/VarHandle") (hsz : ls.size = c.maxLocals) (b : Addr) (argsL rest : List Value) {ps : List FieldType} {rt : Option FieldType} (hps : parseMethodDescriptor y.desc = some ⟨ps, rt⟩) (hlen : argsL.length = ps.length)
    (hd : decode bytes pc = .ok (.invokevirtual index, 3)) (hp : pc + 3 = pc') (eT : T.heap = h) {C : String} (E : Exa Z h b C) (hst : st = argsL.reverse ++ .ref b :: rest) (has : (.ref b :: argsL).toArray = as') (hW : (rest.map fun v => v.category).sum = W)
    (hf : rm.frames + 1 ≤ R.frames) (hl : W + (maxL + 11) + rm.locals ≤ R.locals) (hc : cells + rm.cells ≤ R.cells) (hs : slots + rm.slots ≤ R.slots)
    (r : ∀ v T' L, Stand p l e R s m args below meth c T' (locs ++ L) (cells + rm.cells) (slots + rm.slots) → Q v T'.heap L → Go p e below P (T'.setTop (mkF m pc' ls (v.toList ++ rest)))) : Go p e below P (T.setTop (mkF m pc ls st)) := by
  subst hp
  have hpa : s.PrivateAt y := Cond.privateMethod_at (mvP hZ wp (args := #[]))
  have hsel : (Cond.selects y.cls y y).before args s = true := by
    obtain ⟨c2, r2, m2, q1, q2, q3, q4, kP, hkP, hkPi⟩ := Cond.selects_spec (mvT (args := args) hZ wsel)
    obtain ⟨kr, hkr, hni⟩ := notFace_of_selects (mvT (args := args) hZ wsel) _ q3
    have hc2 := findClass_of_methodNamed q3
    rw [hy2] at hc2
    exact selects_self_of_private hc2 hkr hni hpa (mvT hZ w4) hy
  obtain ⟨cq, q1, q2⟩ := E.cell
  obtain ⟨v, _, ⟨T', L', k', n'⟩, -, X', ⟨L, hQ, l1, l2, l3⟩, q⟩ := X.privateBack hx hown (mvT hZ w1) (mvT hZ w4) hsel hpa (mvT hZ w6) hy (backOf (W := W) hM hZ w6 w5 hf hl) (g := mkF m pc ls st) rfl hsz (Steps.refl _) (a := b) (by rw [eT]; exact q1) q2 (argsL := argsL) (rest := rest) (lenOf hps hlen) hst (by show 2 * 0 + _ ≤ _; omega) (hb hby hd) (fun _ _ => ⟨has, eT, hc, hs⟩)
  dsimp only [Pt.U, Pt.locs, Pt.cells, Pt.slots] at X' l1 l2 l3 q hQ
  subst l1 l2 l3
  exact own_go (fun t k => q.trans k) (r v T' L X' hQ)
theorem own_face (pc' : Nat) {h : Heap} {as' : Array Value} {rm : Room} {Q : Option Value → Heap → List Loc → Prop} {xi y : MethodName} {code' : ByteArray} {maxL : Nat} {ret' : Option FieldType}
    (hM : MetFree l y (head1 [Cond.code y code' maxL ret'] rm) (fun a U => a = as' ∧ Z.Warmed39 U.vm ∧ U.heap = h) (fun _ _ _ _ _ => True) (fun _ U o U' => ∃ v L, o = .returned v ∧ Q v U'.heap L ∧ FrameEnd U o U' L rm.cells rm.slots))
    (X : Stand p l e R s m args below meth c T locs cells slots) (hx : p.tables.exec = Jvm.exec) (hby : c.code = bytes) (hZ : Z.Warmed39 s.vm) {own C : String} {index count W : Nat} (hown : s.vm.findClass own = some m.cls)
    (w1 : (Cond.methodLink own index xi).before a0 Z = true) (w2 : (Cond.declares xi).before a0 Z = true) (w3 : ∀ A, (Cond.interfaceMethod xi.cls xi.cls xi.name xi.desc).before A s = true) (w4 : (Cond.selects C xi y).before a0 Z = true) (w5 : (Cond.instanceMethod y).before a0 Z = true) (w6 : (Cond.publicMethod y).before a0 Z = true) (w7 : (Cond.unhidden C xi.name xi.desc).before a0 Z = true) (w8 : (Cond.castable C xi.cls).before a0 Z = true) (w9 : (Cond.initialized y.cls).before a0 Z = true) (w10 : (Cond.code y code' maxL ret').before a0 Z = true)
    (hy : xi.cls ≠ "java/lang/invoke/MethodHandle" ∧ xi.cls ≠ "java/lang/invoke/VarHandle") (hsz : ls.size = c.maxLocals) (b : Addr) (argsL rest : List Value) {ps : List FieldType} {rt : Option FieldType} (hps : parseMethodDescriptor xi.desc = some ⟨ps, rt⟩) (hlen : argsL.length = ps.length)
    (hd : decode bytes pc = .ok (.invokeinterface index count, 5)) (hp : pc + 5 = pc') (eT : T.heap = h) (E : Exa Z h b C) (hst : st = argsL.reverse ++ .ref b :: rest) (has : (.ref b :: argsL).toArray = as') (hW : (rest.map fun v => v.category).sum = W)
    (hf : rm.frames + 1 ≤ R.frames) (hl : W + (maxL + 11) + rm.locals ≤ R.locals) (hc : cells + rm.cells ≤ R.cells) (hs : slots + rm.slots ≤ R.slots)
    (r : ∀ v T' L, Stand p l e R s m args below meth c T' (locs ++ L) (cells + rm.cells) (slots + rm.slots) → Q v T'.heap L → Go p e below P (T'.setTop (mkF m pc' ls (v.toList ++ rest)))) : Go p e below P (T.setTop (mkF m pc ls st)) := by
  subst hp
  obtain ⟨cq, kq, q1, q2, q3⟩ := isOf (s := s) (T := T) hZ eT E
  obtain ⟨v, _, ⟨T', L', k', n'⟩, -, X', ⟨L, hQ, l1, l2, l3⟩, q⟩ := X.interfaceBack hx hown (mvT hZ w1) (mvT hZ w2) (w3 args) (mvT hZ w4) (mvT hZ w5) (mvT hZ w6) (mvT hZ w7) (mvT hZ w8) hy (backOf (W := W) hM hZ w10 w9 hf hl) q1 q2 q3 (g := mkF m pc ls st) rfl hsz (Steps.refl _) (argsL := argsL) (rest := rest) (lenOf hps hlen) hst (by show 2 * 0 + _ ≤ _; omega) (hb hby hd) (fun _ _ => ⟨has, eT, hc, hs⟩)
  dsimp only [Pt.U, Pt.locs, Pt.cells, Pt.slots] at X' l1 l2 l3 q hQ
  subst l1 l2 l3
  exact own_go (fun t k => q.trans k) (r v T' L X' hQ)
theorem own_virtUp (pc' : Nat) {h : Heap} {as' : Array Value} {rm : Room} {Q : Option Value → Heap → List Loc → Prop} {y z : MethodName} {code' : ByteArray} {maxL : Nat} {ret' : Option FieldType} (owner : String)
    (hM : MetFree l z (head1 [Cond.code z code' maxL ret'] rm) (fun a U => a = as' ∧ Z.Warmed39 U.vm ∧ U.heap = h) (fun _ _ _ _ _ => True) (fun _ U o U' => ∃ v L, o = .returned v ∧ Q v U'.heap L ∧ FrameEnd U o U' L rm.cells rm.slots))
    (X : Stand p l e R s m args below meth c T locs cells slots) (hx : p.tables.exec = Jvm.exec) (hby : c.code = bytes) (hZ : Z.Warmed39 s.vm) {own C : String} {index W : Nat} (hown : s.vm.findClass own = some m.cls)
    (w1 : (Cond.methodLink own index y).before a0 Z = true) (wsm : (Cond.sameMethod y.cls owner y.name y.desc).before a0 Z = true) (w2 : (Cond.declares ⟨owner, y.name, y.desc⟩).before a0 Z = true) (ho : owner ≠ "java/lang/invoke/MethodHandle" ∧ owner ≠ "java/lang/invoke/VarHandle") (w3 : (Cond.selects C y z).before a0 Z = true) (w4 : (Cond.instanceMethod z).before a0 Z = true) (w5 : (Cond.initialized z.cls).before a0 Z = true) (w6 : (Cond.code z code' maxL ret').before a0 Z = true)
    (hsz : ls.size = c.maxLocals) (b : Addr) (argsL rest : List Value) {ps : List FieldType} {rt : Option FieldType} (hps : parseMethodDescriptor y.desc = some ⟨ps, rt⟩) (hlen : argsL.length = ps.length)
    (hd : decode bytes pc = .ok (.invokevirtual index, 3)) (hp : pc + 3 = pc') (eT : T.heap = h) (E : Exa Z h b C) (hst : st = argsL.reverse ++ .ref b :: rest) (has : (.ref b :: argsL).toArray = as') (hW : (rest.map fun v => v.category).sum = W)
    (hf : rm.frames + 1 ≤ R.frames) (hl : W + (maxL + 11) + rm.locals ≤ R.locals) (hc : cells + rm.cells ≤ R.cells) (hs : slots + rm.slots ≤ R.slots)
    (r : ∀ v T' L, Stand p l e R s m args below meth c T' (locs ++ L) (cells + rm.cells) (slots + rm.slots) → Q v T'.heap L → Go p e below P (T'.setTop (mkF m pc' ls (v.toList ++ rest)))) : Go p e below P (T.setTop (mkF m pc ls st)) := by
  subst hp
  obtain ⟨cq, kq, q1, q2, q3⟩ := isOf (s := s) (T := T) hZ eT E
  obtain ⟨v, _, ⟨T', L', k', n'⟩, -, X', ⟨L, hQ, l1, l2, l3⟩, q⟩ := X.virtualBackUp hx hown (mvT hZ w1) (mvT hZ wsm) (mvT hZ w2) ho (mvT hZ w3) (mvT hZ w4) (backOf (W := W) hM hZ w6 w5 hf hl) q1 q3 (g := mkF m pc ls st) rfl hsz (Steps.refl _) (argsL := argsL) (rest := rest) (lenOf hps hlen) hst (by show 2 * 0 + _ ≤ _; omega) (hb hby hd) (fun _ _ => ⟨has, eT, hc, hs⟩)
  dsimp only [Pt.U, Pt.locs, Pt.cells, Pt.slots] at X' l1 l2 l3 q hQ
  subst l1 l2 l3
  exact own_go (fun t k => q.trans k) (r v T' L X' hQ)
/-! the wide frame: a String constant may be booked -/
theorem own_ldcS (pc' : Nat) (n : Nat) {vm0 : Vm} (X : Stand p l e R (s.setVm vm0) m args below meth c T locs cells slots) (hx : p.tables.exec = Jvm.exec) (hby : c.code = bytes) (hZ : Z.Warmed39 (s.setVm vm0).vm) {own text : String} {index : Nat} (hown : (s.setVm vm0).vm.findClass own = some m.cls) (w : (Cond.stringLink own index text).before a0 Z = true) (wS : ∀ a ∈ Bundle.stringAtoms, a.before a0 Z = true)
    (eT : T.heap = h) {k0 : Nat} (hS : s.Since vm0 k0) (hk : k0 ≤ h.size) (hd : decode bytes pc = .ok (.ldc index, 2)) (hp : pc + 2 = pc') (hn : 4 * text.toList.length ≤ n) (hbig : n ≤ 536870912) (hc : cells + 2 ≤ R.cells) (hl : slots + (n + 4) ≤ R.slots)
    (r : ∀ (a : Addr) (T' : State) (h' : Heap) (k1 : Nat), Stand p l e R (s.setVm T'.vm) m args below meth c T' locs (cells + 2) (slots + (n + 4)) → T'.heap = h' → Ext h h' → s.Since T'.vm k1 → k1 ≤ h'.size → Z.Warmed39 (s.setVm T'.vm).vm → (s.setVm T'.vm).vm.findClass own = some m.cls → Go p e below P (T'.setTop (mkF m pc' ls (.ref a :: st)))) : Go p e below P (T.setTop (mkF m pc ls st)) := by
  subst hp
  obtain ⟨a, T', h', k1, X', e', E', S', k', Z', o', q⟩ := ldcS X hx hZ hown w wS eT hS hk (g := mkF m pc ls st) rfl (hb hby hd) hn hbig hc hl
  exact own_go q (r a T' h' k1 X' e' E' S' k' Z' o')
theorem own_specS (pc' : Nat) {vm0 : Vm} {h : Heap} {as' : Array Value} {rm : Room} {Q : Option Value → Heap → List Loc → Prop} {y : MethodName} {code' : ByteArray} {maxL : Nat}
    (hM : MetFree l y (head1 [Cond.code y code' maxL none] rm) (fun a U => a = as' ∧ Z.Warmed39 U.vm ∧ U.heap = h) (fun _ _ _ _ _ => True) (fun _ U o U' => ∃ v L, o = .returned v ∧ Q v U'.heap L ∧ ReturnedEndW U o U' L rm.cells rm.slots))
    (X : Stand p l e R (s.setVm vm0) m args below meth c T locs cells slots) (hx : p.tables.exec = Jvm.exec) (hby : c.code = bytes) (hZ : Z.Warmed39 (s.setVm vm0).vm) {own : String} {index W : Nat} (hown : (s.setVm vm0).vm.findClass own = some m.cls)
    (hn : y.name = "<init>") (w1 : (Cond.methodLink own index y).before a0 Z = true) (w4 : (Cond.instanceMethod y).before a0 Z = true) (w5 : (Cond.initialized y.cls).before a0 Z = true) (w6 : (Cond.code y code' maxL none).before a0 Z = true)
    (hy : y.cls ≠ "java/lang/invoke/MethodHandle" ∧ y.cls ≠ "java/lang/invoke/VarHandle") (hsz : ls.size = c.maxLocals) (b : Addr) (argsL rest : List Value) {ps : List FieldType} {rt : Option FieldType} (hps : parseMethodDescriptor y.desc = some ⟨ps, rt⟩) (hlen : argsL.length = ps.length)
    (hd : decode bytes pc = .ok (.invokespecial index, 3)) (hp : pc + 3 = pc') (eT : T.heap = h) (hst : st = argsL.reverse ++ .ref b :: rest) (has : (.ref b :: argsL).toArray = as') (hW : (rest.map fun v => v.category).sum = W)
    (hf : rm.frames + 1 ≤ R.frames) (hl : W + (maxL + 11) + rm.locals ≤ R.locals) (hc : cells + rm.cells ≤ R.cells) (hs : slots + rm.slots ≤ R.slots) {k0 : Nat} (hS : s.Since vm0 k0) (hk : k0 ≤ h.size)
    (r : ∀ v T' L, Stand p l e R (s.setVm T'.vm) m args below meth c T' (locs ++ L) (cells + rm.cells) (slots + rm.slots) → Q v T'.heap L → s.Since T'.vm T'.heap.size → Z.Warmed39 (s.setVm T'.vm).vm → (s.setVm T'.vm).vm.findClass own = some m.cls → Go p e below P (T'.setTop (mkF m pc' ls (v.toList ++ rest)))) : Go p e below P (T.setTop (mkF m pc ls st)) := by
  subst hp
  obtain ⟨v, _, ⟨T', L', k', n'⟩, -, X', S', g', ⟨L, hQ, l1, l2, l3⟩, q⟩ := X.specialBackS hx hn hown (mvT hZ w1) (mvT hZ w4) (mvT hZ w6) hy (backOfS (W := W) hM hZ w6 w5 hf hl) (g := mkF m pc ls st) rfl hsz (Steps.refl _) (a := b) (argsL := argsL) (rest := rest) (lenOf hps hlen) hst (by show 2 * 0 + _ ≤ _; omega) (hb hby hd) (fun _ _ => ⟨has, eT, hc, hs⟩)
  dsimp only [Pt.U, Pt.locs, Pt.cells, Pt.slots] at X' l1 l2 l3 q hQ S' g'
  subst l1 l2 l3
  have hk' : k0 ≤ T.heap.size := by rw [eT]; exact hk
  have S2 : s.Since T'.vm T'.heap.size := foldS hS hk' S' g'
  refine own_go (fun t k => q.trans k) (r v T' L X' hQ S2 (State.Warmed39.trans (t := s.setVm vm0) hZ S'.1) ?_)
  rw [show (s.setVm T'.vm).vm = T'.vm from rfl, S'.1.alike.findClass]; exact hown
theorem own_retW {Q : Option Value → Heap → List Loc → Prop} {K N : Nat} {vm0 : Vm} {t : FieldType} {w : Value} {i : Instr} (X : Stand p l e R (s.setVm vm0) m args below meth c T locs cells slots) (hx : p.tables.exec = Jvm.exec) (hby : c.code = bytes) (hret : meth.sig.returnType = some t) (hlocks : meth.locks = false) {k0 : Nat} (hS : s.Since vm0 k0) (hk : k0 ≤ T.heap.size)
    (hd : decode bytes pc = .ok (i, 1)) (hn : narrow t w = w)
    (hi : (i = .ireturn ∧ (t = .int ∨ t = .boolean ∨ t = .byte ∨ t = .char ∨ t = .short) ∧ ∃ z, w = .int z) ∨ (i = .lreturn ∧ t = .long ∧ ∃ z, w = .long z) ∨ (i = .dreturn ∧ t = .double ∧ ∃ z, w = .double z) ∨ (i = .freturn ∧ t = .float ∧ ∃ z, w = .float z) ∨ (i = .areturn ∧ t.isReference = true ∧ w.isRef = true))
    (hK : cells ≤ K) (hN : slots ≤ N) (hQ : Q (some w) T.heap locs) :
    Go p e below (fun s₂ o => s₂.status = .running ∧ Ended s₂ below o ∧ ∃ v L, o = .returned v ∧ Q v s₂.heap L ∧ ReturnedEndW s o s₂ L K N) (T.setTop (mkF m pc ls (w :: st))) := by
  obtain ⟨fs, hr, hrun, hended, r1, r2, r3, r4⟩ := X.leaveW hS hk (v := some w) (fun h => by rw [hret] at h; cases h) hlocks
  exact ⟨_, _, retOut X hx hret hn hi (hb hby hd) hr, hrun, hended, _, _, rfl, hQ, r1, r2, r3, r4.mono hK hN⟩
theorem own_ret0W {Q : Option Value → Heap → List Loc → Prop} {K N : Nat} {vm0 : Vm} (X : Stand p l e R (s.setVm vm0) m args below meth c T locs cells slots) (hx : p.tables.exec = Jvm.exec) (hby : c.code = bytes) (hret : meth.sig.returnType = none) (hlocks : meth.locks = false) {k0 : Nat} (hS : s.Since vm0 k0) (hk : k0 ≤ T.heap.size)
    (hd : decode bytes pc = .ok (.return_, 1)) (hK : cells ≤ K) (hN : slots ≤ N) (hQ : Q none T.heap locs) :
    Go p e below (fun s₂ o => s₂.status = .running ∧ Ended s₂ below o ∧ ∃ v L, o = .returned v ∧ Q v s₂.heap L ∧ ReturnedEndW s o s₂ L K N) (T.setTop (mkF m pc ls [])) := by
  obtain ⟨fs, hr, hrun, hended, r1, r2, r3, r4⟩ := X.leaveW hS hk (v := none) (fun _ => rfl) hlocks
  exact ⟨_, _, X.returnOut hx hret (hb hby hd) hr, hrun, hended, _, _, rfl, hQ, r1, r2, r3, r4.mono hK hN⟩
end Own2
/-! small facts on ints -/
theorem own_mask_nn (x : Int32) : 0 ≤ (x &&& 2147483647).toInt := by
  have h : (x &&& 2147483647).toInt = x.toInt % 2 ^ 31 := Jvm.Kit.i32_mask x 2147483647 (k := 31) (by decide) (by decide)
  omega
theorem own_mod_toInt (x y : Int32) (hy : 0 < y.toInt) (hx : 0 ≤ x.toInt) : (x % y).toInt = x.toInt % y.toInt := Jvm.Kit.i32_rem_nonneg hx
theorem own_and_toInt1 (x : Int32) : (x &&& 1).toInt = x.toInt % 2 := Jvm.Kit.i32_mask x 1 (k := 1) (by decide) (by decide)
theorem own_and_toInt3 (x : Int32) : (x &&& 3).toInt = x.toInt % 4 := Jvm.Kit.i32_mask x 3 (k := 2) (by decide) (by decide)
theorem own_and_toInt7 (x : Int32) : (x &&& 7).toInt = x.toInt % 8 := Jvm.Kit.i32_mask x 7 (k := 3) (by decide) (by decide)
theorem own_mkI (x m : Int32) (k : Nat) (hk : k < 32) (hm : m.toBitVec.toNat = 2 ^ k - 1) : 0 ≤ (x &&& m).toInt ∧ (x &&& m).toInt ≤ m.toInt := by
  have h1 := Jvm.Kit.i32_mask x m hk hm
  have h2 : m.toInt = 2 ^ k - 1 := by
    have h3 : m.toInt = (m.toBitVec).toInt := rfl
    have h4 : (2 : Nat) ^ k ≤ 2 ^ 31 := Nat.pow_le_pow_right (by decide) (by omega)
    rw [h3, BitVec.toInt_eq_toNat_cond, hm]
    have h5 : 0 < (2 : Nat) ^ k := Nat.pow_pos (by decide)
    have h6 : ((2 ^ k - 1 : Nat) : Int) = (2 : Int) ^ k - 1 := by
      rw [Int.natCast_sub h5]; simp
    split
    · exact h6
    · omega
  have h7 : (0 : Int) < 2 ^ k := Int.pow_pos (by decide)
  have h8 := Int.emod_nonneg x.toInt (Int.ne_of_gt h7)
  have h9 := Int.emod_lt_of_pos x.toInt h7
  omega
theorem own_mkJ (x m : Int64) (k : Nat) (hk : k < 64) (hm : m.toBitVec.toNat = 2 ^ k - 1) : 0 ≤ (x &&& m).toInt ∧ (x &&& m).toInt ≤ m.toInt := by
  have h1 := Jvm.Kit.i64_mask x m hk hm
  have h2 : m.toInt = 2 ^ k - 1 := by
    have h3 : m.toInt = (m.toBitVec).toInt := rfl
    have h4 : (2 : Nat) ^ k ≤ 2 ^ 63 := Nat.pow_le_pow_right (by decide) (by omega)
    rw [h3, BitVec.toInt_eq_toNat_cond, hm]
    have h5 : 0 < (2 : Nat) ^ k := Nat.pow_pos (by decide)
    have h6 : ((2 ^ k - 1 : Nat) : Int) = (2 : Int) ^ k - 1 := by
      rw [Int.natCast_sub h5]; simp
    split
    · exact h6
    · omega
  have h7 : (0 : Int) < 2 ^ k := Int.pow_pos (by decide)
  have h8 := Int.emod_nonneg x.toInt (Int.ne_of_gt h7)
  have h9 := Int.emod_lt_of_pos x.toInt h7
  omega
theorem own_rngI (x : Int32) : -2 ^ 31 ≤ x.toInt ∧ x.toInt < 2 ^ 31 := ⟨Int32.le_toInt x, Int32.toInt_lt x⟩
theorem own_rngJ (x : Int64) : -2 ^ 63 ≤ x.toInt ∧ x.toInt < 2 ^ 63 := ⟨Int64.le_toInt x, Int64.toInt_lt x⟩
theorem own_rmI {x : Int32} (hx : 0 ≤ x.toInt) (y : Int32) (hy : 0 < y.toInt) : 0 ≤ (x % y).toInt ∧ (x % y).toInt ≤ y.toInt - 1 := by
  rw [Jvm.Kit.i32_rem_nonneg hx]
  have h8 := Int.emod_nonneg x.toInt (Int.ne_of_gt hy)
  have h9 := Int.emod_lt_of_pos x.toInt hy
  omega
theorem own_rmJ (x y : Int64) (hy : 0 < y.toInt) : -(y.toInt - 1) ≤ (x - (x / y) * y).toInt ∧ (x - (x / y) * y).toInt ≤ y.toInt - 1 := by
  rw [Jvm.Kit.i64_rem]
  have h1 := Int.tmod_lt_of_pos x.toInt hy
  have h2 := Int.lt_tmod_of_pos x.toInt hy
  omega
theorem own_dvI {x : Int32} (hx : 0 ≤ x.toInt) (y : Int32) (hy : 0 < y.toInt) : (x / y).toInt = x.toInt / y.toInt := by
  rw [Jvm.Kit.i32_div (by omega), Int.tdiv_eq_ediv_of_nonneg hx]
theorem own_bdI {x a b : Int32} (h1 : ¬ (x < a)) (h2 : ¬ (b < x)) : a.toInt ≤ x.toInt ∧ x.toInt ≤ b.toInt := by
  rw [Int32.lt_iff_toInt_lt] at h1 h2
  omega
theorem own_bdJ {x a b : Int64} (h1 : ¬ (x < a)) (h2 : ¬ (b < x)) : a.toInt ≤ x.toInt ∧ x.toInt ≤ b.toInt := by
  rw [Int64.lt_iff_toInt_lt] at h1 h2
  omega
theorem own_and1 (x : Int32) : x &&& 1 = 0 ∨ x &&& 1 = 1 := by
  have h1 : (x &&& 1).toInt = x.toInt % 2 := own_and_toInt1 x
  have h3 : ∀ y : Int32, ∀ k : Int32, y.toInt = k.toInt → y = k := fun _ _ q => Int32.toInt_inj.mp q
  have h4 : x.toInt % 2 = 0 ∨ x.toInt % 2 = 1 := by omega
  rcases h4 with h4 | h4
  · exact Or.inl (h3 _ _ (h1.trans h4))
  · exact Or.inr (h3 _ _ (h1.trans h4))
theorem own_mod3 (x : Int32) : (x &&& 2147483647) % 3 = 0 ∨ (x &&& 2147483647) % 3 = 1 ∨ (x &&& 2147483647) % 3 = 2 := by
  have h1 : ((x &&& 2147483647) % 3).toInt = (x &&& 2147483647).toInt % 3 := own_mod_toInt _ 3 (by decide) (own_mask_nn x)
  have h2 := own_mask_nn x
  have h3 : ∀ y : Int32, ∀ k : Int32, y.toInt = k.toInt → y = k := fun _ _ q => Int32.toInt_inj.mp q
  have h4 : (x &&& 2147483647).toInt % 3 = 0 ∨ (x &&& 2147483647).toInt % 3 = 1 ∨ (x &&& 2147483647).toInt % 3 = 2 := by omega
  rcases h4 with h4 | h4 | h4
  · exact Or.inl (h3 _ _ (h1.trans h4))
  · exact Or.inr (Or.inl (h3 _ _ (h1.trans h4)))
  · exact Or.inr (Or.inr (h3 _ _ (h1.trans h4)))
def own_W (Z : State) (w_NONE k_NONE : Addr) : Prop := Sta Z Z.heap "com/example/meter/meter/store/Spans" "NONE" "[J" (.ref w_NONE) ∧ Arv Z Z.heap w_NONE k_NONE .long (0 : Int32) [] (.long (0 : Int64))
theorem d1_0 : decode jdk_29_method_70_code 0 = .ok (.lload_n 0, 1) := by decide +kernel
theorem d1_1 : decode jdk_29_method_70_code 1 = .ok (.lload_n 2, 1) := by decide +kernel
theorem d1_2 : decode jdk_29_method_70_code 2 = .ok (.lcmp, 1) := by decide +kernel
theorem d1_3 : decode jdk_29_method_70_code 3 = .ok (.ifCond .gt 7, 3) := by decide +kernel
theorem d1_10 : decode jdk_29_method_70_code 10 = .ok (.lload_n 2, 1) := by decide +kernel
theorem d1_11 : decode jdk_29_method_70_code 11 = .ok (.lreturn, 1) := by decide +kernel
theorem ef_1 (m : MethodId) (q0 : Int64) (q1 : Int64) : entryFrame m #[(.long q0), (.long q1)] 4 = mkF m 0 #[oJ q0, oS, oJ q1, oS] [] := by first | (simp [entryFrame, mkF, argsToLocals, Value.category]; done) | rfl
theorem d1_6 : decode jdk_29_method_70_code 6 = .ok (.lload_n 0, 1) := by decide +kernel
theorem d1_7 : decode jdk_29_method_70_code 7 = .ok (.goto 4, 3) := by decide +kernel
theorem pd_0 : parseMethodDescriptor "(JJ)J" = some ⟨[.long, .long], some .long⟩ := by decide +kernel
theorem d2_0 : decode jdk_29_method_66_code 0 = .ok (.lload_n 0, 1) := by decide +kernel
theorem d2_1 : decode jdk_29_method_66_code 1 = .ok (.lload_n 2, 1) := by decide +kernel
theorem d2_2 : decode jdk_29_method_66_code 2 = .ok (.lcmp, 1) := by decide +kernel
theorem d2_3 : decode jdk_29_method_66_code 3 = .ok (.ifCond .lt 7, 3) := by decide +kernel
theorem d2_10 : decode jdk_29_method_66_code 10 = .ok (.lload_n 2, 1) := by decide +kernel
theorem d2_11 : decode jdk_29_method_66_code 11 = .ok (.lreturn, 1) := by decide +kernel
theorem ef_2 (m : MethodId) (q0 : Int64) (q1 : Int64) : entryFrame m #[(.long q0), (.long q1)] 4 = mkF m 0 #[oJ q0, oS, oJ q1, oS] [] := by first | (simp [entryFrame, mkF, argsToLocals, Value.category]; done) | rfl
theorem d2_6 : decode jdk_29_method_66_code 6 = .ok (.lload_n 0, 1) := by decide +kernel
theorem d2_7 : decode jdk_29_method_66_code 7 = .ok (.goto 4, 3) := by decide +kernel
theorem d3_0 : decode prog_11_method_1_code 0 = .ok (.aload_n 0, 1) := by decide +kernel
theorem d3_1 : decode prog_11_method_1_code 1 = .ok (.invokespecial 1, 3) := by decide +kernel
theorem d3_4 : decode prog_11_method_1_code 4 = .ok (.aload_n 0, 1) := by decide +kernel
theorem d3_5 : decode prog_11_method_1_code 5 = .ok (.getstatic 7, 3) := by decide +kernel
theorem d3_8 : decode prog_11_method_1_code 8 = .ok (.putfield 13, 3) := by decide +kernel
theorem d3_11 : decode prog_11_method_1_code 11 = .ok (.aload_n 0, 1) := by decide +kernel
theorem d3_12 : decode prog_11_method_1_code 12 = .ok (.getstatic 7, 3) := by decide +kernel
theorem d3_15 : decode prog_11_method_1_code 15 = .ok (.putfield 16, 3) := by decide +kernel
theorem d3_18 : decode prog_11_method_1_code 18 = .ok (.aload_n 0, 1) := by decide +kernel
theorem d3_19 : decode prog_11_method_1_code 19 = .ok (.getstatic 7, 3) := by decide +kernel
theorem d3_22 : decode prog_11_method_1_code 22 = .ok (.putfield 19, 3) := by decide +kernel
theorem d3_25 : decode prog_11_method_1_code 25 = .ok (.return_, 1) := by decide +kernel
theorem ef_3 (m : MethodId) (r0 : Addr) : entryFrame m #[(.ref r0)] 1 = mkF m 0 #[oA r0] [] := by first | (simp [entryFrame, mkF, argsToLocals, Value.category]; done) | rfl
theorem pn_0 : plainName "com/example/meter/meter/store/Spans" = true := by first | (simp [plainName, overriddenIn]; done) | decide +kernel
theorem pd_1 : parseMethodDescriptor "()V" = some ⟨[], none⟩ := by decide +kernel
theorem d5_0 : decode prog_11_method_8_code 0 = .ok (.aload_n 0, 1) := by decide +kernel
theorem d5_1 : decode prog_11_method_8_code 1 = .ok (.getfield 73, 3) := by decide +kernel
theorem d5_4 : decode prog_11_method_8_code 4 = .ok (.aload_n 0, 1) := by decide +kernel
theorem d5_5 : decode prog_11_method_8_code 5 = .ok (.getfield 22, 3) := by decide +kernel
theorem d5_8 : decode prog_11_method_8_code 8 = .ok (.if_icmp .eq 17, 3) := by decide +kernel
theorem d5_25 : decode prog_11_method_8_code 25 = .ok (.iconst 1, 1) := by decide +kernel
theorem d5_26 : decode prog_11_method_8_code 26 = .ok (.goto 4, 3) := by decide +kernel
theorem d5_30 : decode prog_11_method_8_code 30 = .ok (.ireturn, 1) := by decide +kernel
theorem ef_5 (m : MethodId) (r0 : Addr) (q1 : Int64) : entryFrame m #[(.ref r0), (.long q1)] 3 = mkF m 0 #[oA r0, oJ q1, oS] [] := by first | (simp [entryFrame, mkF, argsToLocals, Value.category]; done) | rfl
theorem pd_2 : parseMethodDescriptor "(J)Z" = some ⟨[.long], some .boolean⟩ := by decide +kernel
theorem d11_0 : decode prog_11_method_10_code 0 = .ok (.aload_n 0, 1) := by decide +kernel
theorem d11_1 : decode prog_11_method_10_code 1 = .ok (.getfield 73, 3) := by decide +kernel
theorem d11_4 : decode prog_11_method_10_code 4 = .ok (.aload_n 0, 1) := by decide +kernel
theorem d11_5 : decode prog_11_method_10_code 5 = .ok (.getfield 22, 3) := by decide +kernel
theorem d11_8 : decode prog_11_method_10_code 8 = .ok (.if_icmp .ge 43, 3) := by decide +kernel
theorem d11_51 : decode prog_11_method_10_code 51 = .ok (.return_, 1) := by decide +kernel
theorem ef_11 (m : MethodId) (r0 : Addr) (q1 : Int64) : entryFrame m #[(.ref r0), (.long q1)] 3 = mkF m 0 #[oA r0, oJ q1, oS] [] := by first | (simp [entryFrame, mkF, argsToLocals, Value.category]; done) | rfl
theorem pd_3 : parseMethodDescriptor "(J)V" = some ⟨[.long], none⟩ := by decide +kernel
theorem d6_0 : decode prog_11_method_9_code 0 = .ok (.aload_n 0, 1) := by decide +kernel
theorem d6_1 : decode prog_11_method_9_code 1 = .ok (.getfield 22, 3) := by decide +kernel
theorem d6_4 : decode prog_11_method_9_code 4 = .ok (.aload_n 0, 1) := by decide +kernel
theorem d6_5 : decode prog_11_method_9_code 5 = .ok (.getfield 16, 3) := by decide +kernel
theorem d6_8 : decode prog_11_method_9_code 8 = .ok (.arraylength, 1) := by decide +kernel
theorem d6_9 : decode prog_11_method_9_code 9 = .ok (.if_icmp .ne 7, 3) := by decide +kernel
theorem d6_12 : decode prog_11_method_9_code 12 = .ok (.aload_n 0, 1) := by decide +kernel
theorem d6_13 : decode prog_11_method_9_code 13 = .ok (.invokevirtual 86, 3) := by decide +kernel
theorem d7_0 : decode prog_11_method_15_code 0 = .ok (.aload_n 0, 1) := by decide +kernel
theorem d7_1 : decode prog_11_method_15_code 1 = .ok (.getfield 22, 3) := by decide +kernel
theorem d7_4 : decode prog_11_method_15_code 4 = .ok (.aload_n 0, 1) := by decide +kernel
theorem d7_5 : decode prog_11_method_15_code 5 = .ok (.getfield 73, 3) := by decide +kernel
theorem d7_8 : decode prog_11_method_15_code 8 = .ok (.isub, 1) := by decide +kernel
theorem d7_9 : decode prog_11_method_15_code 9 = .ok (.istore_n 1, 1) := by decide +kernel
theorem d7_10 : decode prog_11_method_15_code 10 = .ok (.aload_n 0, 1) := by decide +kernel
theorem d7_11 : decode prog_11_method_15_code 11 = .ok (.getfield 16, 3) := by decide +kernel
theorem d7_14 : decode prog_11_method_15_code 14 = .ok (.arraylength, 1) := by decide +kernel
theorem d7_15 : decode prog_11_method_15_code 15 = .ok (.iload_n 1, 1) := by decide +kernel
theorem d7_16 : decode prog_11_method_15_code 16 = .ok (.isub, 1) := by decide +kernel
theorem d7_17 : decode prog_11_method_15_code 17 = .ok (.istore_n 2, 1) := by decide +kernel
theorem d7_18 : decode prog_11_method_15_code 18 = .ok (.iload_n 2, 1) := by decide +kernel
theorem d7_19 : decode prog_11_method_15_code 19 = .ok (.aload_n 0, 1) := by decide +kernel
theorem d7_20 : decode prog_11_method_15_code 20 = .ok (.getfield 16, 3) := by decide +kernel
theorem d7_23 : decode prog_11_method_15_code 23 = .ok (.arraylength, 1) := by decide +kernel
theorem d7_24 : decode prog_11_method_15_code 24 = .ok (.bipush 8, 2) := by decide +kernel
theorem d7_26 : decode prog_11_method_15_code 26 = .ok (.idiv, 1) := by decide +kernel
theorem d7_27 : decode prog_11_method_15_code 27 = .ok (.if_icmp .le 11, 3) := by decide +kernel
theorem d7_38 : decode prog_11_method_15_code 38 = .ok (.bipush 16, 2) := by decide +kernel
theorem d7_40 : decode prog_11_method_15_code 40 = .ok (.iconst 2, 1) := by decide +kernel
theorem d7_41 : decode prog_11_method_15_code 41 = .ok (.aload_n 0, 1) := by decide +kernel
theorem d7_42 : decode prog_11_method_15_code 42 = .ok (.getfield 16, 3) := by decide +kernel
theorem d7_45 : decode prog_11_method_15_code 45 = .ok (.arraylength, 1) := by decide +kernel
theorem d7_46 : decode prog_11_method_15_code 46 = .ok (.imul, 1) := by decide +kernel
theorem d7_47 : decode prog_11_method_15_code 47 = .ok (.invokestatic 97, 3) := by decide +kernel
theorem d8_0 : decode jdk_29_method_65_code 0 = .ok (.iload_n 0, 1) := by decide +kernel
theorem d8_1 : decode jdk_29_method_65_code 1 = .ok (.iload_n 1, 1) := by decide +kernel
theorem d8_2 : decode jdk_29_method_65_code 2 = .ok (.if_icmp .lt 7, 3) := by decide +kernel
theorem d8_5 : decode jdk_29_method_65_code 5 = .ok (.iload_n 0, 1) := by decide +kernel
theorem d8_6 : decode jdk_29_method_65_code 6 = .ok (.goto 4, 3) := by decide +kernel
theorem d8_10 : decode jdk_29_method_65_code 10 = .ok (.ireturn, 1) := by decide +kernel
theorem ef_8 (m : MethodId) (x0 : Int32) (x1 : Int32) : entryFrame m #[(.int x0), (.int x1)] 2 = mkF m 0 #[oI x0, oI x1] [] := by first | (simp [entryFrame, mkF, argsToLocals, Value.category]; done) | rfl
theorem pd_4 : parseMethodDescriptor "(II)I" = some ⟨[.int, .int], some .int⟩ := by decide +kernel
theorem d7_50 : decode prog_11_method_15_code 50 = .ok (.istore_n 3, 1) := by decide +kernel
theorem d7_51 : decode prog_11_method_15_code 51 = .ok (.aload_n 0, 1) := by decide +kernel
theorem d7_52 : decode prog_11_method_15_code 52 = .ok (.aload_n 0, 1) := by decide +kernel
theorem d7_53 : decode prog_11_method_15_code 53 = .ok (.aload_n 0, 1) := by decide +kernel
theorem d7_54 : decode prog_11_method_15_code 54 = .ok (.getfield 13, 3) := by decide +kernel
theorem d7_57 : decode prog_11_method_15_code 57 = .ok (.iload_n 3, 1) := by decide +kernel
theorem d7_58 : decode prog_11_method_15_code 58 = .ok (.invokevirtual 101, 3) := by decide +kernel
theorem d9_0 : decode prog_11_method_16_code 0 = .ok (.iload_n 2, 1) := by decide +kernel
theorem d9_1 : decode prog_11_method_16_code 1 = .ok (.aload_n 1, 1) := by decide +kernel
theorem d9_2 : decode prog_11_method_16_code 2 = .ok (.arraylength, 1) := by decide +kernel
theorem d9_3 : decode prog_11_method_16_code 3 = .ok (.if_icmp .ne 7, 3) := by decide +kernel
theorem d9_10 : decode prog_11_method_16_code 10 = .ok (.iload_n 2, 1) := by decide +kernel
theorem d9_11 : decode prog_11_method_16_code 11 = .ok (.newarray .long, 2) := by decide +kernel
theorem d9_13 : decode prog_11_method_16_code 13 = .ok (.astore_n 3, 1) := by decide +kernel
theorem d9_14 : decode prog_11_method_16_code 14 = .ok (.aload_n 1, 1) := by decide +kernel
theorem d9_15 : decode prog_11_method_16_code 15 = .ok (.aload_n 0, 1) := by decide +kernel
theorem d9_16 : decode prog_11_method_16_code 16 = .ok (.getfield 73, 3) := by decide +kernel
theorem d9_19 : decode prog_11_method_16_code 19 = .ok (.aload_n 3, 1) := by decide +kernel
theorem d9_20 : decode prog_11_method_16_code 20 = .ok (.iconst 0, 1) := by decide +kernel
theorem d9_21 : decode prog_11_method_16_code 21 = .ok (.aload_n 0, 1) := by decide +kernel
theorem d9_22 : decode prog_11_method_16_code 22 = .ok (.getfield 22, 3) := by decide +kernel
theorem d9_25 : decode prog_11_method_16_code 25 = .ok (.aload_n 0, 1) := by decide +kernel
theorem d9_26 : decode prog_11_method_16_code 26 = .ok (.getfield 73, 3) := by decide +kernel
theorem d9_29 : decode prog_11_method_16_code 29 = .ok (.isub, 1) := by decide +kernel
theorem d9_30 : decode prog_11_method_16_code 30 = .ok (.invokestatic 105, 3) := by decide +kernel
theorem d9_33 : decode prog_11_method_16_code 33 = .ok (.aload_n 3, 1) := by decide +kernel
theorem d9_34 : decode prog_11_method_16_code 34 = .ok (.areturn, 1) := by decide +kernel
theorem ef_9 (m : MethodId) (r0 : Addr) (r1 : Addr) (x2 : Int32) : entryFrame m #[(.ref r0), (.ref r1), (.int x2)] 4 = mkF m 0 #[oA r0, oA r1, oI x2, oU] [] := by first | (simp [entryFrame, mkF, argsToLocals, Value.category]; done) | rfl
theorem pd_5 : parseMethodDescriptor "([JI)[J" = some ⟨[(.array .long), .int], some (.array .long)⟩ := by decide +kernel
theorem d7_61 : decode prog_11_method_15_code 61 = .ok (.putfield 13, 3) := by decide +kernel
theorem d7_64 : decode prog_11_method_15_code 64 = .ok (.aload_n 0, 1) := by decide +kernel
theorem d7_65 : decode prog_11_method_15_code 65 = .ok (.aload_n 0, 1) := by decide +kernel
theorem d7_66 : decode prog_11_method_15_code 66 = .ok (.aload_n 0, 1) := by decide +kernel
theorem d7_67 : decode prog_11_method_15_code 67 = .ok (.getfield 16, 3) := by decide +kernel
theorem d7_70 : decode prog_11_method_15_code 70 = .ok (.iload_n 3, 1) := by decide +kernel
theorem d7_71 : decode prog_11_method_15_code 71 = .ok (.invokevirtual 101, 3) := by decide +kernel
theorem d7_74 : decode prog_11_method_15_code 74 = .ok (.putfield 16, 3) := by decide +kernel
theorem d7_77 : decode prog_11_method_15_code 77 = .ok (.aload_n 0, 1) := by decide +kernel
theorem d7_78 : decode prog_11_method_15_code 78 = .ok (.aload_n 0, 1) := by decide +kernel
theorem d7_79 : decode prog_11_method_15_code 79 = .ok (.aload_n 0, 1) := by decide +kernel
theorem d7_80 : decode prog_11_method_15_code 80 = .ok (.getfield 19, 3) := by decide +kernel
theorem d7_83 : decode prog_11_method_15_code 83 = .ok (.iload_n 3, 1) := by decide +kernel
theorem d7_84 : decode prog_11_method_15_code 84 = .ok (.invokevirtual 101, 3) := by decide +kernel
theorem d7_87 : decode prog_11_method_15_code 87 = .ok (.putfield 19, 3) := by decide +kernel
theorem d7_90 : decode prog_11_method_15_code 90 = .ok (.aload_n 0, 1) := by decide +kernel
theorem d7_91 : decode prog_11_method_15_code 91 = .ok (.iconst 0, 1) := by decide +kernel
theorem d7_92 : decode prog_11_method_15_code 92 = .ok (.putfield 73, 3) := by decide +kernel
theorem d7_95 : decode prog_11_method_15_code 95 = .ok (.aload_n 0, 1) := by decide +kernel
theorem d7_96 : decode prog_11_method_15_code 96 = .ok (.iload_n 1, 1) := by decide +kernel
theorem d7_97 : decode prog_11_method_15_code 97 = .ok (.putfield 22, 3) := by decide +kernel
theorem d7_100 : decode prog_11_method_15_code 100 = .ok (.return_, 1) := by decide +kernel
theorem ef_7 (m : MethodId) (r0 : Addr) : entryFrame m #[(.ref r0)] 4 = mkF m 0 #[oA r0, oU, oU, oU] [] := by first | (simp [entryFrame, mkF, argsToLocals, Value.category]; done) | rfl
theorem d6_16 : decode prog_11_method_9_code 16 = .ok (.aload_n 0, 1) := by decide +kernel
theorem d6_17 : decode prog_11_method_9_code 17 = .ok (.getfield 13, 3) := by decide +kernel
theorem d6_20 : decode prog_11_method_9_code 20 = .ok (.aload_n 0, 1) := by decide +kernel
theorem d6_21 : decode prog_11_method_9_code 21 = .ok (.getfield 22, 3) := by decide +kernel
theorem d6_24 : decode prog_11_method_9_code 24 = .ok (.lload_n 1, 1) := by decide +kernel
theorem d6_25 : decode prog_11_method_9_code 25 = .ok (.lastore, 1) := by decide +kernel
theorem d6_26 : decode prog_11_method_9_code 26 = .ok (.aload_n 0, 1) := by decide +kernel
theorem d6_27 : decode prog_11_method_9_code 27 = .ok (.getfield 16, 3) := by decide +kernel
theorem d6_30 : decode prog_11_method_9_code 30 = .ok (.aload_n 0, 1) := by decide +kernel
theorem d6_31 : decode prog_11_method_9_code 31 = .ok (.getfield 22, 3) := by decide +kernel
theorem d6_34 : decode prog_11_method_9_code 34 = .ok (.lload_n 1, 1) := by decide +kernel
theorem d6_35 : decode prog_11_method_9_code 35 = .ok (.lastore, 1) := by decide +kernel
theorem d6_36 : decode prog_11_method_9_code 36 = .ok (.aload_n 0, 1) := by decide +kernel
theorem d6_37 : decode prog_11_method_9_code 37 = .ok (.getfield 19, 3) := by decide +kernel
theorem d6_40 : decode prog_11_method_9_code 40 = .ok (.aload_n 0, 1) := by decide +kernel
theorem d6_41 : decode prog_11_method_9_code 41 = .ok (.getfield 22, 3) := by decide +kernel
theorem d6_44 : decode prog_11_method_9_code 44 = .ok (.aload_n 0, 1) := by decide +kernel
theorem d6_45 : decode prog_11_method_9_code 45 = .ok (.aload_n 0, 1) := by decide +kernel
theorem d6_46 : decode prog_11_method_9_code 46 = .ok (.getfield 22, 3) := by decide +kernel
theorem d6_49 : decode prog_11_method_9_code 49 = .ok (.invokevirtual 76, 3) := by decide +kernel
theorem d10_0 : decode prog_11_method_14_code 0 = .ok (.iload_n 1, 1) := by decide +kernel
theorem d10_1 : decode prog_11_method_14_code 1 = .ok (.aload_n 0, 1) := by decide +kernel
theorem d10_2 : decode prog_11_method_14_code 2 = .ok (.getfield 73, 3) := by decide +kernel
theorem d10_5 : decode prog_11_method_14_code 5 = .ok (.if_icmp .ne 10, 3) := by decide +kernel
theorem d10_8 : decode prog_11_method_14_code 8 = .ok (.aload_n 0, 1) := by decide +kernel
theorem d10_9 : decode prog_11_method_14_code 9 = .ok (.getfield 80, 3) := by decide +kernel
theorem d10_12 : decode prog_11_method_14_code 12 = .ok (.goto 11, 3) := by decide +kernel
theorem d10_23 : decode prog_11_method_14_code 23 = .ok (.lreturn, 1) := by decide +kernel
theorem ef_10 (m : MethodId) (r0 : Addr) (x1 : Int32) : entryFrame m #[(.ref r0), (.int x1)] 2 = mkF m 0 #[oA r0, oI x1] [] := by first | (simp [entryFrame, mkF, argsToLocals, Value.category]; done) | rfl
theorem pd_6 : parseMethodDescriptor "(I)J" = some ⟨[.int], some .long⟩ := by decide +kernel
theorem d6_52 : decode prog_11_method_9_code 52 = .ok (.lload_n 3, 1) := by decide +kernel
theorem d6_53 : decode prog_11_method_9_code 53 = .ok (.ladd, 1) := by decide +kernel
theorem d6_54 : decode prog_11_method_9_code 54 = .ok (.lastore, 1) := by decide +kernel
theorem d6_55 : decode prog_11_method_9_code 55 = .ok (.aload_n 0, 1) := by decide +kernel
theorem d6_56 : decode prog_11_method_9_code 56 = .ok (.dup, 1) := by decide +kernel
theorem d6_57 : decode prog_11_method_9_code 57 = .ok (.getfield 22, 3) := by decide +kernel
theorem d6_60 : decode prog_11_method_9_code 60 = .ok (.iconst 1, 1) := by decide +kernel
theorem d6_61 : decode prog_11_method_9_code 61 = .ok (.iadd, 1) := by decide +kernel
theorem d6_62 : decode prog_11_method_9_code 62 = .ok (.putfield 22, 3) := by decide +kernel
theorem d6_65 : decode prog_11_method_9_code 65 = .ok (.return_, 1) := by decide +kernel
theorem ef_6 (m : MethodId) (r0 : Addr) (q1 : Int64) (q2 : Int64) : entryFrame m #[(.ref r0), (.long q1), (.long q2)] 5 = mkF m 0 #[oA r0, oJ q1, oS, oJ q2, oS] [] := by first | (simp [entryFrame, mkF, argsToLocals, Value.category]; done) | rfl
theorem pd_7 : parseMethodDescriptor "(JJ)V" = some ⟨[.long, .long], none⟩ := by decide +kernel
theorem d5_11 : decode prog_11_method_8_code 11 = .ok (.aload_n 0, 1) := by decide +kernel
theorem d5_12 : decode prog_11_method_8_code 12 = .ok (.getfield 16, 3) := by decide +kernel
theorem d5_15 : decode prog_11_method_8_code 15 = .ok (.aload_n 0, 1) := by decide +kernel
theorem d5_16 : decode prog_11_method_8_code 16 = .ok (.getfield 73, 3) := by decide +kernel
theorem d5_19 : decode prog_11_method_8_code 19 = .ok (.laload, 1) := by decide +kernel
theorem d5_20 : decode prog_11_method_8_code 20 = .ok (.lload_n 1, 1) := by decide +kernel
theorem d5_21 : decode prog_11_method_8_code 21 = .ok (.lcmp, 1) := by decide +kernel
theorem d5_22 : decode prog_11_method_8_code 22 = .ok (.ifCond .le 7, 3) := by decide +kernel
theorem d5_29 : decode prog_11_method_8_code 29 = .ok (.iconst 0, 1) := by decide +kernel
theorem d11_11 : decode prog_11_method_10_code 11 = .ok (.aload_n 0, 1) := by decide +kernel
theorem d11_12 : decode prog_11_method_10_code 12 = .ok (.getfield 16, 3) := by decide +kernel
theorem d11_15 : decode prog_11_method_10_code 15 = .ok (.aload_n 0, 1) := by decide +kernel
theorem d11_16 : decode prog_11_method_10_code 16 = .ok (.getfield 73, 3) := by decide +kernel
theorem d11_19 : decode prog_11_method_10_code 19 = .ok (.laload, 1) := by decide +kernel
theorem d11_20 : decode prog_11_method_10_code 20 = .ok (.lload_n 1, 1) := by decide +kernel
theorem d11_21 : decode prog_11_method_10_code 21 = .ok (.lcmp, 1) := by decide +kernel
theorem d11_22 : decode prog_11_method_10_code 22 = .ok (.ifCond .gt 29, 3) := by decide +kernel
theorem d11_25 : decode prog_11_method_10_code 25 = .ok (.aload_n 0, 1) := by decide +kernel
theorem d11_26 : decode prog_11_method_10_code 26 = .ok (.aload_n 0, 1) := by decide +kernel
theorem d11_27 : decode prog_11_method_10_code 27 = .ok (.getfield 19, 3) := by decide +kernel
theorem d11_30 : decode prog_11_method_10_code 30 = .ok (.aload_n 0, 1) := by decide +kernel
theorem d11_31 : decode prog_11_method_10_code 31 = .ok (.getfield 73, 3) := by decide +kernel
theorem d11_34 : decode prog_11_method_10_code 34 = .ok (.laload, 1) := by decide +kernel
theorem d11_35 : decode prog_11_method_10_code 35 = .ok (.putfield 80, 3) := by decide +kernel
theorem d11_38 : decode prog_11_method_10_code 38 = .ok (.aload_n 0, 1) := by decide +kernel
theorem d11_39 : decode prog_11_method_10_code 39 = .ok (.dup, 1) := by decide +kernel
theorem d11_40 : decode prog_11_method_10_code 40 = .ok (.getfield 73, 3) := by decide +kernel
theorem d11_43 : decode prog_11_method_10_code 43 = .ok (.iconst 1, 1) := by decide +kernel
theorem d11_44 : decode prog_11_method_10_code 44 = .ok (.iadd, 1) := by decide +kernel
theorem d11_45 : decode prog_11_method_10_code 45 = .ok (.putfield 73, 3) := by decide +kernel
theorem d11_48 : decode prog_11_method_10_code 48 = .ok (.goto (-48), 3) := by decide +kernel
theorem d10_15 : decode prog_11_method_14_code 15 = .ok (.aload_n 0, 1) := by decide +kernel
theorem d10_16 : decode prog_11_method_14_code 16 = .ok (.getfield 19, 3) := by decide +kernel
theorem d10_19 : decode prog_11_method_14_code 19 = .ok (.iload_n 1, 1) := by decide +kernel
theorem d10_20 : decode prog_11_method_14_code 20 = .ok (.iconst 1, 1) := by decide +kernel
theorem d10_21 : decode prog_11_method_14_code 21 = .ok (.isub, 1) := by decide +kernel
theorem d10_22 : decode prog_11_method_14_code 22 = .ok (.laload, 1) := by decide +kernel
theorem ef_0 (m : MethodId) (q0 : Int64) (q1 : Int64) (q2 : Int64) (q3 : Int64) (x4 : Int32) : entryFrame m #[(.long q0), (.long q1), (.long q2), (.long q3), (.int x4)] maxLocals = mkF m 0 #[oJ q0, oS, oJ q1, oS, oJ q2, oS, oJ q3, oS, oI x4, oU, oU, oU, oU, oU, oU, oU, oU, oU, oU, oU, oU] [] := by first | (simp [entryFrame, mkF, argsToLocals, Value.category, maxLocals]; done) | rfl
theorem pn_1 : plainName "com/example/meter/meter/store/SpansEndsAfterPinLaw" = true := by first | (simp [plainName, overriddenIn]; done) | decide +kernel
set_option maxRecDepth 65536 in
set_option maxHeartbeats 40000000 in
theorem rm1_1 (l : Launch) (Z : State) (a0 : Array Value) (hw : ∀ d ∈ tables_1, d.before a0 Z = true) (ws : List Jvm.Cond) (w_NONE k_NONE : Addr) (W : own_W Z w_NONE k_NONE) (y0 : Int64) (y1 : Int64) (h0 : Heap) (n0 : Nat) (O0 : Old Z n0 h0) (hc1 : y1 < y0) :
    MetFree l (⟨"java/lang/Math", "min", "(JJ)J"⟩ : MethodName) (head1 (Jvm.Cond.code (⟨"java/lang/Math", "min", "(JJ)J"⟩ : MethodName) jdk_29_method_70_code 4 (some .long) :: ws) ({ frames := 0, cells := 0, slots := 0, locals := 0 } : Room)) (fun a U => a = #[(.long y0), (.long y1)] ∧ Z.Warmed39 U.vm ∧ U.heap = h0) (fun _ _ _ _ _ => True) (fun _ U o U' => ∃ v L, o = .returned v ∧ own_Q (some (.long y1)) n0 h0 v U'.heap L ∧ FrameEnd U o U' L ({ frames := 0, cells := 0, slots := 0, locals := 0 } : Room).cells ({ frames := 0, cells := 0, slots := 0, locals := 0 } : Room).slots) := by
  refine MetFree.of_bodySF (Jvm.Free.JP.mathPlain rfl (by decide +kernel)) hisR ?_
  intro p e s m args below meth c s₁ Bd hml0 hP hK
  obtain ⟨rfl, hZ, hh⟩ := hP
  have hx := Bd.exec
  have hby := Bd.bytes
  have hml : c.maxLocals = 4 := hml0
  have hlk := BodyLoose.notSynchronized Bd
  have hret := Bd.returns
  have hown : s.vm.findClass "java/lang/Math" = some m.cls := findClass_of_methodNamed Bd.named
  have hnm := (name_of_methodNamed Bd.named Bd.method).1
  have X0 : Stand p l e ({ frames := 0, cells := 0, slots := 0, locals := 0 } : Room) s m #[(.long y0), (.long y1)] below meth c s₁ [] 0 0 := Stand.of_body Bd
  have e0 : s₁.heap = h0 := by rw [← hh, Bd.state]; rfl
  have N0 := Fr.nil n0
  rw [ef_1 m y0 y1]
  show Go p e below _ (s₁.setTop (mkF m 0 #[oJ y0, oS, oJ y1, oS] []))
  refine own_lload_n 1 X0 hx hby d1_0 rfl rfl ?_
  refine own_lload_n 2 X0 hx hby d1_1 rfl rfl ?_
  refine own_lcmp 3 (XT.cmpL y0 y1) X0 hx hby d1_2 rfl rfl ?_
  refine own_ifY 10 X0 hx hby d1_3 (by decide) (by decide) (own_tltL hc1).2.2.1 ?_
  refine own_lload_n 11 X0 hx hby d1_10 rfl rfl ?_
  exact own_ret (Q := own_Q (some (.long y1)) n0 h0) X0 hx hby hret hlk d1_11 rfl (Or.inr (Or.inl ⟨rfl, rfl, _, rfl⟩)) (by decide) (by decide) ⟨rfl, N0, e0⟩
set_option maxRecDepth 65536 in
set_option maxHeartbeats 40000000 in
theorem rm1_2 (l : Launch) (Z : State) (a0 : Array Value) (hw : ∀ d ∈ tables_1, d.before a0 Z = true) (ws : List Jvm.Cond) (w_NONE k_NONE : Addr) (W : own_W Z w_NONE k_NONE) (y0 : Int64) (y1 : Int64) (h0 : Heap) (n0 : Nat) (O0 : Old Z n0 h0) (hc1 : ¬ (y1 < y0)) :
    MetFree l (⟨"java/lang/Math", "min", "(JJ)J"⟩ : MethodName) (head1 (Jvm.Cond.code (⟨"java/lang/Math", "min", "(JJ)J"⟩ : MethodName) jdk_29_method_70_code 4 (some .long) :: ws) ({ frames := 0, cells := 0, slots := 0, locals := 0 } : Room)) (fun a U => a = #[(.long y0), (.long y1)] ∧ Z.Warmed39 U.vm ∧ U.heap = h0) (fun _ _ _ _ _ => True) (fun _ U o U' => ∃ v L, o = .returned v ∧ own_Q (some (.long y0)) n0 h0 v U'.heap L ∧ FrameEnd U o U' L ({ frames := 0, cells := 0, slots := 0, locals := 0 } : Room).cells ({ frames := 0, cells := 0, slots := 0, locals := 0 } : Room).slots) := by
  refine MetFree.of_bodySF (Jvm.Free.JP.mathPlain rfl (by decide +kernel)) hisR ?_
  intro p e s m args below meth c s₁ Bd hml0 hP hK
  obtain ⟨rfl, hZ, hh⟩ := hP
  have hx := Bd.exec
  have hby := Bd.bytes
  have hml : c.maxLocals = 4 := hml0
  have hlk := BodyLoose.notSynchronized Bd
  have hret := Bd.returns
  have hown : s.vm.findClass "java/lang/Math" = some m.cls := findClass_of_methodNamed Bd.named
  have hnm := (name_of_methodNamed Bd.named Bd.method).1
  have X0 : Stand p l e ({ frames := 0, cells := 0, slots := 0, locals := 0 } : Room) s m #[(.long y0), (.long y1)] below meth c s₁ [] 0 0 := Stand.of_body Bd
  have e0 : s₁.heap = h0 := by rw [← hh, Bd.state]; rfl
  have N0 := Fr.nil n0
  rw [ef_1 m y0 y1]
  show Go p e below _ (s₁.setTop (mkF m 0 #[oJ y0, oS, oJ y1, oS] []))
  refine own_lload_n 1 X0 hx hby d1_0 rfl rfl ?_
  refine own_lload_n 2 X0 hx hby d1_1 rfl rfl ?_
  refine own_lcmp 3 (XT.cmpL y0 y1) X0 hx hby d1_2 rfl rfl ?_
  refine own_ifN 6 X0 hx hby d1_3 rfl (own_fltL hc1).2.2.1 ?_
  refine own_lload_n 7 X0 hx hby d1_6 rfl rfl ?_
  refine own_goto 11 X0 hx hby d1_7 (by decide) (by decide) ?_
  exact own_ret (Q := own_Q (some (.long y0)) n0 h0) X0 hx hby hret hlk d1_11 rfl (Or.inr (Or.inl ⟨rfl, rfl, _, rfl⟩)) (by decide) (by decide) ⟨rfl, N0, e0⟩
set_option maxRecDepth 65536 in
set_option maxHeartbeats 40000000 in
theorem rm2_3 (l : Launch) (Z : State) (a0 : Array Value) (hw : ∀ d ∈ tables_1, d.before a0 Z = true) (ws : List Jvm.Cond) (w_NONE k_NONE : Addr) (W : own_W Z w_NONE k_NONE) (y0 : Int64) (y1 : Int64) (h0 : Heap) (n0 : Nat) (O0 : Old Z n0 h0) (hc4 : y0 < y1) :
    MetFree l (⟨"java/lang/Math", "max", "(JJ)J"⟩ : MethodName) (head1 (Jvm.Cond.code (⟨"java/lang/Math", "max", "(JJ)J"⟩ : MethodName) jdk_29_method_66_code 4 (some .long) :: ws) ({ frames := 0, cells := 0, slots := 0, locals := 0 } : Room)) (fun a U => a = #[(.long y0), (.long y1)] ∧ Z.Warmed39 U.vm ∧ U.heap = h0) (fun _ _ _ _ _ => True) (fun _ U o U' => ∃ v L, o = .returned v ∧ own_Q (some (.long y1)) n0 h0 v U'.heap L ∧ FrameEnd U o U' L ({ frames := 0, cells := 0, slots := 0, locals := 0 } : Room).cells ({ frames := 0, cells := 0, slots := 0, locals := 0 } : Room).slots) := by
  refine MetFree.of_bodySF (Jvm.Free.JP.mathPlain rfl (by decide +kernel)) hisR ?_
  intro p e s m args below meth c s₁ Bd hml0 hP hK
  obtain ⟨rfl, hZ, hh⟩ := hP
  have hx := Bd.exec
  have hby := Bd.bytes
  have hml : c.maxLocals = 4 := hml0
  have hlk := BodyLoose.notSynchronized Bd
  have hret := Bd.returns
  have hown : s.vm.findClass "java/lang/Math" = some m.cls := findClass_of_methodNamed Bd.named
  have hnm := (name_of_methodNamed Bd.named Bd.method).1
  have X0 : Stand p l e ({ frames := 0, cells := 0, slots := 0, locals := 0 } : Room) s m #[(.long y0), (.long y1)] below meth c s₁ [] 0 0 := Stand.of_body Bd
  have e0 : s₁.heap = h0 := by rw [← hh, Bd.state]; rfl
  have N0 := Fr.nil n0
  rw [ef_2 m y0 y1]
  show Go p e below _ (s₁.setTop (mkF m 0 #[oJ y0, oS, oJ y1, oS] []))
  refine own_lload_n 1 X0 hx hby d2_0 rfl rfl ?_
  refine own_lload_n 2 X0 hx hby d2_1 rfl rfl ?_
  refine own_lcmp 3 (XT.cmpL y0 y1) X0 hx hby d2_2 rfl rfl ?_
  refine own_ifY 10 X0 hx hby d2_3 (by decide) (by decide) (own_tltL hc4).1 ?_
  refine own_lload_n 11 X0 hx hby d2_10 rfl rfl ?_
  exact own_ret (Q := own_Q (some (.long y1)) n0 h0) X0 hx hby hret hlk d2_11 rfl (Or.inr (Or.inl ⟨rfl, rfl, _, rfl⟩)) (by decide) (by decide) ⟨rfl, N0, e0⟩
set_option maxRecDepth 65536 in
set_option maxHeartbeats 40000000 in
theorem rm2_4 (l : Launch) (Z : State) (a0 : Array Value) (hw : ∀ d ∈ tables_1, d.before a0 Z = true) (ws : List Jvm.Cond) (w_NONE k_NONE : Addr) (W : own_W Z w_NONE k_NONE) (y0 : Int64) (y1 : Int64) (h0 : Heap) (n0 : Nat) (O0 : Old Z n0 h0) (hc4 : ¬ (y0 < y1)) :
    MetFree l (⟨"java/lang/Math", "max", "(JJ)J"⟩ : MethodName) (head1 (Jvm.Cond.code (⟨"java/lang/Math", "max", "(JJ)J"⟩ : MethodName) jdk_29_method_66_code 4 (some .long) :: ws) ({ frames := 0, cells := 0, slots := 0, locals := 0 } : Room)) (fun a U => a = #[(.long y0), (.long y1)] ∧ Z.Warmed39 U.vm ∧ U.heap = h0) (fun _ _ _ _ _ => True) (fun _ U o U' => ∃ v L, o = .returned v ∧ own_Q (some (.long y0)) n0 h0 v U'.heap L ∧ FrameEnd U o U' L ({ frames := 0, cells := 0, slots := 0, locals := 0 } : Room).cells ({ frames := 0, cells := 0, slots := 0, locals := 0 } : Room).slots) := by
  refine MetFree.of_bodySF (Jvm.Free.JP.mathPlain rfl (by decide +kernel)) hisR ?_
  intro p e s m args below meth c s₁ Bd hml0 hP hK
  obtain ⟨rfl, hZ, hh⟩ := hP
  have hx := Bd.exec
  have hby := Bd.bytes
  have hml : c.maxLocals = 4 := hml0
  have hlk := BodyLoose.notSynchronized Bd
  have hret := Bd.returns
  have hown : s.vm.findClass "java/lang/Math" = some m.cls := findClass_of_methodNamed Bd.named
  have hnm := (name_of_methodNamed Bd.named Bd.method).1
  have X0 : Stand p l e ({ frames := 0, cells := 0, slots := 0, locals := 0 } : Room) s m #[(.long y0), (.long y1)] below meth c s₁ [] 0 0 := Stand.of_body Bd
  have e0 : s₁.heap = h0 := by rw [← hh, Bd.state]; rfl
  have N0 := Fr.nil n0
  rw [ef_2 m y0 y1]
  show Go p e below _ (s₁.setTop (mkF m 0 #[oJ y0, oS, oJ y1, oS] []))
  refine own_lload_n 1 X0 hx hby d2_0 rfl rfl ?_
  refine own_lload_n 2 X0 hx hby d2_1 rfl rfl ?_
  refine own_lcmp 3 (XT.cmpL y0 y1) X0 hx hby d2_2 rfl rfl ?_
  refine own_ifN 6 X0 hx hby d2_3 rfl (own_fltL hc4).1 ?_
  refine own_lload_n 7 X0 hx hby d2_6 rfl rfl ?_
  refine own_goto 11 X0 hx hby d2_7 (by decide) (by decide) ?_
  exact own_ret (Q := own_Q (some (.long y0)) n0 h0) X0 hx hby hret hlk d2_11 rfl (Or.inr (Or.inl ⟨rfl, rfl, _, rfl⟩)) (by decide) (by decide) ⟨rfl, N0, e0⟩
def Q_rm3_5 (Z : State) (w_NONE k_NONE : Addr) (c0 : Addr) (h0 : Heap) (n0 : Nat) (v : Option Value) (h : Heap) (L : List Loc) : Prop := v = none ∧ Fr n0 L ∧ Keep h0 h [c0] ∧ Exa Z h c0 "com/example/meter/meter/store/Spans" ∧ Fld Z h c0 "com/example/meter/meter/store/Spans" "droppedTotal" "J" (.long (0 : Int64)) ∧ Fld Z h c0 "com/example/meter/meter/store/Spans" "end" "I" (.int (0 : Int32)) ∧ Fld Z h c0 "com/example/meter/meter/store/Spans" "firsts" "[J" (.ref w_NONE) ∧ Fld Z h c0 "com/example/meter/meter/store/Spans" "head" "I" (.int (0 : Int32)) ∧ Fld Z h c0 "com/example/meter/meter/store/Spans" "lasts" "[J" (.ref w_NONE) ∧ Fld Z h c0 "com/example/meter/meter/store/Spans" "totals" "[J" (.ref w_NONE)
set_option maxRecDepth 65536 in
set_option maxHeartbeats 40000000 in
theorem rm3_5 (l : Launch) (Z : State) (a0 : Array Value) (hw : ∀ d ∈ tables_1, d.before a0 Z = true) (ws : List Jvm.Cond) (w_NONE k_NONE : Addr) (W : own_W Z w_NONE k_NONE) (c0 : Addr) (h0 : Heap) (n0 : Nat) (O0 : Old Z n0 h0) (E_c0 : Exa Z h0 c0 "com/example/meter/meter/store/Spans") (F_c0_droppedTotal : Fld Z h0 c0 "com/example/meter/meter/store/Spans" "droppedTotal" "J" (.long (0 : Int64))) (F_c0_end : Fld Z h0 c0 "com/example/meter/meter/store/Spans" "end" "I" (.int (0 : Int32))) (F_c0_firsts : Fld Z h0 c0 "com/example/meter/meter/store/Spans" "firsts" "[J" .null) (F_c0_head : Fld Z h0 c0 "com/example/meter/meter/store/Spans" "head" "I" (.int (0 : Int32))) (F_c0_lasts : Fld Z h0 c0 "com/example/meter/meter/store/Spans" "lasts" "[J" .null) (F_c0_totals : Fld Z h0 c0 "com/example/meter/meter/store/Spans" "totals" "[J" .null) (n_c0 : n0 ≤ c0) :
    MetFree l (⟨"com/example/meter/meter/store/Spans", "<init>", "()V"⟩ : MethodName) (head1 (Jvm.Cond.code (⟨"com/example/meter/meter/store/Spans", "<init>", "()V"⟩ : MethodName) prog_11_method_1_code 1 none :: ws) ({ frames := 1, cells := 0, slots := 0, locals := 12 } : Room)) (fun a U => a = #[(.ref c0)] ∧ Z.Warmed39 U.vm ∧ U.heap = h0) (fun _ _ _ _ _ => True) (fun _ U o U' => ∃ v L, o = .returned v ∧ Q_rm3_5 Z w_NONE k_NONE c0 h0 n0 v U'.heap L ∧ FrameEnd U o U' L ({ frames := 1, cells := 0, slots := 0, locals := 12 } : Room).cells ({ frames := 1, cells := 0, slots := 0, locals := 12 } : Room).slots) := by
  refine MetFree.of_bodySF (plainFor_of_name pn_0) hisR ?_
  intro p e s m args below meth c s₁ Bd hml0 hP hK
  obtain ⟨rfl, hZ, hh⟩ := hP
  have hx := Bd.exec
  have hby := Bd.bytes
  have hml : c.maxLocals = 1 := hml0
  have hlk := BodyLoose.notSynchronized Bd
  have hret := Bd.returns
  have hown : s.vm.findClass "com/example/meter/meter/store/Spans" = some m.cls := findClass_of_methodNamed Bd.named
  have hnm := (name_of_methodNamed Bd.named Bd.method).1
  have X0 : Stand p l e ({ frames := 1, cells := 0, slots := 0, locals := 12 } : Room) s m #[(.ref c0)] below meth c s₁ [] 0 0 := Stand.of_body Bd
  have e0 : s₁.heap = h0 := by rw [← hh, Bd.state]; rfl
  have N0 := Fr.nil n0
  rw [ef_3 m c0]
  show Go p e below _ (s₁.setTop (mkF m 0 #[oA c0] []))
  refine own_aload_n 1 X0 hx hby d3_0 rfl rfl rfl ?_
  refine own_initO 4 0 X0 hx hby hZ hown (own_w hw 14 rfl) (own_w hw 15 rfl) (own_w hw 16 rfl) (by rw [hml]; rfl) d3_1 rfl e0 rfl (by decide) (by decide) ?_
  intro T10 X10 e10
  refine own_aload_n 5 X10 hx hby d3_4 rfl rfl rfl ?_
  refine own_getS 8 X10 hx hby hZ hown (own_w hw 17 rfl) e10 (W.1.ext O0.2) d3_5 rfl ?_
  intro T11 X11 e11
  refine own_putF 11 X11 hx hby hZ (.array .long) hown (own_w hw 19 rfl) e11 F_c0_firsts E_c0 (Or.inl (own_w hw 20 rfl)) (own_w hw 9 rfl) (by decide) rfl rfl d3_8 rfl ?_
  intro T12 h12 X12 e12 W12
  have E_c0_12 := E_c0.wr W12
  have F_c0_droppedTotal_12 := F_c0_droppedTotal.other W12 (Or.inr (slot_ne (Or.inl (own_w hw 60 rfl)) (Or.inl (own_w hw 20 rfl)) (by decide) (t := .long) (t' := (.array .long)) (by decide) (by decide)))
  have F_c0_end_12 := F_c0_end.other W12 (Or.inr (slot_ne (Or.inl (own_w hw 33 rfl)) (Or.inl (own_w hw 20 rfl)) (by decide) (t := .int) (t' := (.array .long)) (by decide) (by decide)))
  have F_c0_firsts_12 := F_c0_firsts.same W12
  have F_c0_head_12 := F_c0_head.other W12 (Or.inr (slot_ne (Or.inl (own_w hw 31 rfl)) (Or.inl (own_w hw 20 rfl)) (by decide) (t := .int) (t' := (.array .long)) (by decide) (by decide)))
  have F_c0_lasts_12 := F_c0_lasts.other W12 (Or.inr (slot_ne (Or.inl (own_w hw 22 rfl)) (Or.inl (own_w hw 20 rfl)) (by decide) (t := (.array .long)) (t' := (.array .long)) (by decide) (by decide)))
  have F_c0_totals_12 := F_c0_totals.other W12 (Or.inr (slot_ne (Or.inl (own_w hw 24 rfl)) (Or.inl (own_w hw 20 rfl)) (by decide) (t := (.array .long)) (t' := (.array .long)) (by decide) (by decide)))
  have K12 : Keep h0 h12 [c0] := (Keep.refl h0 [c0]).wr W12 (Or.inl (List.mem_of_getElem? (i := 0) rfl))
  have O12 := O0.wr W12 n_c0
  have N12 := Fr.snoc X12 N0 n_c0
  refine own_aload_n 12 X12 hx hby d3_11 rfl rfl rfl ?_
  refine own_getS 15 X12 hx hby hZ hown (own_w hw 17 rfl) e12 (W.1.ext O12.2) d3_12 rfl ?_
  intro T13 X13 e13
  refine own_putF 18 X13 hx hby hZ (.array .long) hown (own_w hw 21 rfl) e13 F_c0_lasts_12 E_c0_12 (Or.inl (own_w hw 22 rfl)) (own_w hw 9 rfl) (by decide) rfl rfl d3_15 rfl ?_
  intro T14 h14 X14 e14 W14
  have E_c0_14 := E_c0_12.wr W14
  have F_c0_droppedTotal_14 := F_c0_droppedTotal_12.other W14 (Or.inr (slot_ne (Or.inl (own_w hw 60 rfl)) (Or.inl (own_w hw 22 rfl)) (by decide) (t := .long) (t' := (.array .long)) (by decide) (by decide)))
  have F_c0_end_14 := F_c0_end_12.other W14 (Or.inr (slot_ne (Or.inl (own_w hw 33 rfl)) (Or.inl (own_w hw 22 rfl)) (by decide) (t := .int) (t' := (.array .long)) (by decide) (by decide)))
  have F_c0_firsts_14 := F_c0_firsts_12.other W14 (Or.inr (slot_ne (Or.inl (own_w hw 20 rfl)) (Or.inl (own_w hw 22 rfl)) (by decide) (t := (.array .long)) (t' := (.array .long)) (by decide) (by decide)))
  have F_c0_head_14 := F_c0_head_12.other W14 (Or.inr (slot_ne (Or.inl (own_w hw 31 rfl)) (Or.inl (own_w hw 22 rfl)) (by decide) (t := .int) (t' := (.array .long)) (by decide) (by decide)))
  have F_c0_lasts_14 := F_c0_lasts_12.same W14
  have F_c0_totals_14 := F_c0_totals_12.other W14 (Or.inr (slot_ne (Or.inl (own_w hw 24 rfl)) (Or.inl (own_w hw 22 rfl)) (by decide) (t := (.array .long)) (t' := (.array .long)) (by decide) (by decide)))
  have K14 : Keep h0 h14 [c0] := K12.wr W14 (Or.inl (List.mem_of_getElem? (i := 0) rfl))
  have O14 := O12.wr W14 n_c0
  have N14 := Fr.snoc X14 N12 n_c0
  refine own_aload_n 19 X14 hx hby d3_18 rfl rfl rfl ?_
  refine own_getS 22 X14 hx hby hZ hown (own_w hw 17 rfl) e14 (W.1.ext O14.2) d3_19 rfl ?_
  intro T15 X15 e15
  refine own_putF 25 X15 hx hby hZ (.array .long) hown (own_w hw 23 rfl) e15 F_c0_totals_14 E_c0_14 (Or.inl (own_w hw 24 rfl)) (own_w hw 9 rfl) (by decide) rfl rfl d3_22 rfl ?_
  intro T16 h16 X16 e16 W16
  have E_c0_16 := E_c0_14.wr W16
  have F_c0_droppedTotal_16 := F_c0_droppedTotal_14.other W16 (Or.inr (slot_ne (Or.inl (own_w hw 60 rfl)) (Or.inl (own_w hw 24 rfl)) (by decide) (t := .long) (t' := (.array .long)) (by decide) (by decide)))
  have F_c0_end_16 := F_c0_end_14.other W16 (Or.inr (slot_ne (Or.inl (own_w hw 33 rfl)) (Or.inl (own_w hw 24 rfl)) (by decide) (t := .int) (t' := (.array .long)) (by decide) (by decide)))
  have F_c0_firsts_16 := F_c0_firsts_14.other W16 (Or.inr (slot_ne (Or.inl (own_w hw 20 rfl)) (Or.inl (own_w hw 24 rfl)) (by decide) (t := (.array .long)) (t' := (.array .long)) (by decide) (by decide)))
  have F_c0_head_16 := F_c0_head_14.other W16 (Or.inr (slot_ne (Or.inl (own_w hw 31 rfl)) (Or.inl (own_w hw 24 rfl)) (by decide) (t := .int) (t' := (.array .long)) (by decide) (by decide)))
  have F_c0_lasts_16 := F_c0_lasts_14.other W16 (Or.inr (slot_ne (Or.inl (own_w hw 22 rfl)) (Or.inl (own_w hw 24 rfl)) (by decide) (t := (.array .long)) (t' := (.array .long)) (by decide) (by decide)))
  have F_c0_totals_16 := F_c0_totals_14.same W16
  have K16 : Keep h0 h16 [c0] := K14.wr W16 (Or.inl (List.mem_of_getElem? (i := 0) rfl))
  have O16 := O14.wr W16 n_c0
  have N16 := Fr.snoc X16 N14 n_c0
  exact own_ret0 (Q := Q_rm3_5 Z w_NONE k_NONE c0 h0 n0) X16 hx hby hret hlk d3_25 (by decide) (by decide) (by rw [e16]; exact ⟨rfl, N16, K16, E_c0_16, F_c0_droppedTotal_16, F_c0_end_16, F_c0_firsts_16, F_c0_head_16, F_c0_lasts_16, F_c0_totals_16⟩)
set_option maxRecDepth 65536 in
set_option maxHeartbeats 40000000 in
theorem rm5_6 (l : Launch) (Z : State) (a0 : Array Value) (hw : ∀ d ∈ tables_1, d.before a0 Z = true) (ws : List Jvm.Cond) (w_NONE k_NONE : Addr) (W : own_W Z w_NONE k_NONE) (c0 : Addr) (y0 : Int64) (h0 : Heap) (n0 : Nat) (O0 : Old Z n0 h0) (E_c0 : Exa Z h0 c0 "com/example/meter/meter/store/Spans") (F_c0_droppedTotal : Fld Z h0 c0 "com/example/meter/meter/store/Spans" "droppedTotal" "J" (.long (0 : Int64))) (F_c0_end : Fld Z h0 c0 "com/example/meter/meter/store/Spans" "end" "I" (.int (0 : Int32))) (F_c0_firsts : Fld Z h0 c0 "com/example/meter/meter/store/Spans" "firsts" "[J" (.ref w_NONE)) (F_c0_head : Fld Z h0 c0 "com/example/meter/meter/store/Spans" "head" "I" (.int (0 : Int32))) (F_c0_lasts : Fld Z h0 c0 "com/example/meter/meter/store/Spans" "lasts" "[J" (.ref w_NONE)) (F_c0_totals : Fld Z h0 c0 "com/example/meter/meter/store/Spans" "totals" "[J" (.ref w_NONE)) (n_c0 : n0 ≤ c0) :
    MetFree l (⟨"com/example/meter/meter/store/Spans", "endsAfter", "(J)Z"⟩ : MethodName) (head1 (Jvm.Cond.code (⟨"com/example/meter/meter/store/Spans", "endsAfter", "(J)Z"⟩ : MethodName) prog_11_method_8_code 3 (some .boolean) :: ws) ({ frames := 0, cells := 0, slots := 0, locals := 0 } : Room)) (fun a U => a = #[(.ref c0), (.long y0)] ∧ Z.Warmed39 U.vm ∧ U.heap = h0) (fun _ _ _ _ _ => True) (fun _ U o U' => ∃ v L, o = .returned v ∧ own_Q (some (.int (1 : Int32))) n0 h0 v U'.heap L ∧ FrameEnd U o U' L ({ frames := 0, cells := 0, slots := 0, locals := 0 } : Room).cells ({ frames := 0, cells := 0, slots := 0, locals := 0 } : Room).slots) := by
  refine MetFree.of_bodySF (plainFor_of_name pn_0) hisR ?_
  intro p e s m args below meth c s₁ Bd hml0 hP hK
  obtain ⟨rfl, hZ, hh⟩ := hP
  have hx := Bd.exec
  have hby := Bd.bytes
  have hml : c.maxLocals = 3 := hml0
  have hlk := BodyLoose.notSynchronized Bd
  have hret := Bd.returns
  have hown : s.vm.findClass "com/example/meter/meter/store/Spans" = some m.cls := findClass_of_methodNamed Bd.named
  have hnm := (name_of_methodNamed Bd.named Bd.method).1
  have X0 : Stand p l e ({ frames := 0, cells := 0, slots := 0, locals := 0 } : Room) s m #[(.ref c0), (.long y0)] below meth c s₁ [] 0 0 := Stand.of_body Bd
  have e0 : s₁.heap = h0 := by rw [← hh, Bd.state]; rfl
  have N0 := Fr.nil n0
  rw [ef_5 m c0 y0]
  show Go p e below _ (s₁.setTop (mkF m 0 #[oA c0, oJ y0, oS] []))
  refine own_aload_n 1 X0 hx hby d5_0 rfl rfl rfl ?_
  refine own_getF 4 X0 hx hby hZ hown (own_w hw 30 rfl) e0 F_c0_head d5_1 rfl ?_
  intro T18 X18 e18
  refine own_aload_n 5 X18 hx hby d5_4 rfl rfl rfl ?_
  refine own_getF 8 X18 hx hby hZ hown (own_w hw 32 rfl) e18 F_c0_end d5_5 rfl ?_
  intro T19 X19 e19
  refine own_icY 25 X19 hx hby d5_8 (by decide) (by decide) (by decide) ?_
  refine own_iconst 26 (1 : Int32) X19 hx hby d5_25 rfl (by decide) ?_
  refine own_goto 30 X19 hx hby d5_26 (by decide) (by decide) ?_
  exact own_ret (Q := own_Q (some (.int (1 : Int32))) n0 h0) X19 hx hby hret hlk d5_30 rfl (Or.inl ⟨rfl, by simp, _, rfl⟩) (by decide) (by decide) ⟨rfl, N0, e19⟩
set_option maxRecDepth 65536 in
set_option maxHeartbeats 40000000 in
theorem rm11_7 (l : Launch) (Z : State) (a0 : Array Value) (hw : ∀ d ∈ tables_1, d.before a0 Z = true) (ws : List Jvm.Cond) (w_NONE k_NONE : Addr) (W : own_W Z w_NONE k_NONE) (c0 : Addr) (y0 : Int64) (h0 : Heap) (n0 : Nat) (O0 : Old Z n0 h0) (E_c0 : Exa Z h0 c0 "com/example/meter/meter/store/Spans") (F_c0_droppedTotal : Fld Z h0 c0 "com/example/meter/meter/store/Spans" "droppedTotal" "J" (.long (0 : Int64))) (F_c0_end : Fld Z h0 c0 "com/example/meter/meter/store/Spans" "end" "I" (.int (0 : Int32))) (F_c0_firsts : Fld Z h0 c0 "com/example/meter/meter/store/Spans" "firsts" "[J" (.ref w_NONE)) (F_c0_head : Fld Z h0 c0 "com/example/meter/meter/store/Spans" "head" "I" (.int (0 : Int32))) (F_c0_lasts : Fld Z h0 c0 "com/example/meter/meter/store/Spans" "lasts" "[J" (.ref w_NONE)) (F_c0_totals : Fld Z h0 c0 "com/example/meter/meter/store/Spans" "totals" "[J" (.ref w_NONE)) (n_c0 : n0 ≤ c0) :
    MetFree l (⟨"com/example/meter/meter/store/Spans", "dropThrough", "(J)V"⟩ : MethodName) (head1 (Jvm.Cond.code (⟨"com/example/meter/meter/store/Spans", "dropThrough", "(J)V"⟩ : MethodName) prog_11_method_10_code 3 none :: ws) ({ frames := 0, cells := 0, slots := 0, locals := 0 } : Room)) (fun a U => a = #[(.ref c0), (.long y0)] ∧ Z.Warmed39 U.vm ∧ U.heap = h0) (fun _ _ _ _ _ => True) (fun _ U o U' => ∃ v L, o = .returned v ∧ own_Q none n0 h0 v U'.heap L ∧ FrameEnd U o U' L ({ frames := 0, cells := 0, slots := 0, locals := 0 } : Room).cells ({ frames := 0, cells := 0, slots := 0, locals := 0 } : Room).slots) := by
  refine MetFree.of_bodySF (plainFor_of_name pn_0) hisR ?_
  intro p e s m args below meth c s₁ Bd hml0 hP hK
  obtain ⟨rfl, hZ, hh⟩ := hP
  have hx := Bd.exec
  have hby := Bd.bytes
  have hml : c.maxLocals = 3 := hml0
  have hlk := BodyLoose.notSynchronized Bd
  have hret := Bd.returns
  have hown : s.vm.findClass "com/example/meter/meter/store/Spans" = some m.cls := findClass_of_methodNamed Bd.named
  have hnm := (name_of_methodNamed Bd.named Bd.method).1
  have X0 : Stand p l e ({ frames := 0, cells := 0, slots := 0, locals := 0 } : Room) s m #[(.ref c0), (.long y0)] below meth c s₁ [] 0 0 := Stand.of_body Bd
  have e0 : s₁.heap = h0 := by rw [← hh, Bd.state]; rfl
  have N0 := Fr.nil n0
  rw [ef_11 m c0 y0]
  show Go p e below _ (s₁.setTop (mkF m 0 #[oA c0, oJ y0, oS] []))
  refine own_aload_n 1 X0 hx hby d11_0 rfl rfl rfl ?_
  refine own_getF 4 X0 hx hby hZ hown (own_w hw 30 rfl) e0 F_c0_head d11_1 rfl ?_
  intro T23 X23 e23
  refine own_aload_n 5 X23 hx hby d11_4 rfl rfl rfl ?_
  refine own_getF 8 X23 hx hby hZ hown (own_w hw 32 rfl) e23 F_c0_end d11_5 rfl ?_
  intro T24 X24 e24
  refine own_icY 51 X24 hx hby d11_8 (by decide) (by decide) (by decide) ?_
  exact own_ret0 (Q := own_Q none n0 h0) X24 hx hby hret hlk d11_51 (by decide) (by decide) ⟨rfl, N0, e24⟩
set_option maxRecDepth 65536 in
set_option maxHeartbeats 40000000 in
theorem rm8_8 (l : Launch) (Z : State) (a0 : Array Value) (hw : ∀ d ∈ tables_1, d.before a0 Z = true) (ws : List Jvm.Cond) (w_NONE k_NONE : Addr) (W : own_W Z w_NONE k_NONE)  (h0 : Heap) (n0 : Nat) (O0 : Old Z n0 h0)  :
    MetFree l (⟨"java/lang/Math", "max", "(II)I"⟩ : MethodName) (head1 (Jvm.Cond.code (⟨"java/lang/Math", "max", "(II)I"⟩ : MethodName) jdk_29_method_65_code 2 (some .int) :: ws) ({ frames := 0, cells := 0, slots := 0, locals := 0 } : Room)) (fun a U => a = #[(.int (16 : Int32)), (.int (0 : Int32))] ∧ Z.Warmed39 U.vm ∧ U.heap = h0) (fun _ _ _ _ _ => True) (fun _ U o U' => ∃ v L, o = .returned v ∧ own_Q (some (.int (16 : Int32))) n0 h0 v U'.heap L ∧ FrameEnd U o U' L ({ frames := 0, cells := 0, slots := 0, locals := 0 } : Room).cells ({ frames := 0, cells := 0, slots := 0, locals := 0 } : Room).slots) := by
  refine MetFree.of_bodySF (Jvm.Free.JP.mathPlain rfl (by decide +kernel)) hisR ?_
  intro p e s m args below meth c s₁ Bd hml0 hP hK
  obtain ⟨rfl, hZ, hh⟩ := hP
  have hx := Bd.exec
  have hby := Bd.bytes
  have hml : c.maxLocals = 2 := hml0
  have hlk := BodyLoose.notSynchronized Bd
  have hret := Bd.returns
  have hown : s.vm.findClass "java/lang/Math" = some m.cls := findClass_of_methodNamed Bd.named
  have hnm := (name_of_methodNamed Bd.named Bd.method).1
  have X0 : Stand p l e ({ frames := 0, cells := 0, slots := 0, locals := 0 } : Room) s m #[(.int (16 : Int32)), (.int (0 : Int32))] below meth c s₁ [] 0 0 := Stand.of_body Bd
  have e0 : s₁.heap = h0 := by rw [← hh, Bd.state]; rfl
  have N0 := Fr.nil n0
  rw [ef_8 m (16 : Int32) (0 : Int32)]
  show Go p e below _ (s₁.setTop (mkF m 0 #[oI (16 : Int32), oI (0 : Int32)] []))
  refine own_iload_n 1 X0 hx hby d8_0 rfl rfl ?_
  refine own_iload_n 2 X0 hx hby d8_1 rfl rfl ?_
  refine own_icN 5 X0 hx hby d8_2 rfl (by decide) ?_
  refine own_iload_n 6 X0 hx hby d8_5 rfl rfl ?_
  refine own_goto 10 X0 hx hby d8_6 (by decide) (by decide) ?_
  exact own_ret (Q := own_Q (some (.int (16 : Int32))) n0 h0) X0 hx hby hret hlk d8_10 rfl (Or.inl ⟨rfl, by simp, _, rfl⟩) (by decide) (by decide) ⟨rfl, N0, e0⟩
def Q_rm9_9 (Z : State) (w_NONE k_NONE : Addr) (c0 : Addr) (h0 : Heap) (n0 : Nat) (v : Option Value) (h : Heap) (L : List Loc) : Prop := ∃ b40 : Addr, ∃ k40 : ClassId, v = (some (.ref b40)) ∧ Fr n0 L ∧ Keep h0 h [] ∧ n0 ≤ b40 ∧ h0.size ≤ b40 ∧ Exa Z h c0 "com/example/meter/meter/store/Spans" ∧ Fld Z h c0 "com/example/meter/meter/store/Spans" "droppedTotal" "J" (.long (0 : Int64)) ∧ Fld Z h c0 "com/example/meter/meter/store/Spans" "end" "I" (.int (0 : Int32)) ∧ Fld Z h c0 "com/example/meter/meter/store/Spans" "firsts" "[J" (.ref w_NONE) ∧ Fld Z h c0 "com/example/meter/meter/store/Spans" "head" "I" (.int (0 : Int32)) ∧ Fld Z h c0 "com/example/meter/meter/store/Spans" "lasts" "[J" (.ref w_NONE) ∧ Fld Z h c0 "com/example/meter/meter/store/Spans" "totals" "[J" (.ref w_NONE) ∧ Arv Z h b40 k40 .long (16 : Int32) [(.long (0 : Int64)), (.long (0 : Int64)), (.long (0 : Int64)), (.long (0 : Int64))] (.long (0 : Int64))
set_option maxRecDepth 65536 in
set_option maxHeartbeats 40000000 in
theorem rm9_9 (l : Launch) (Z : State) (a0 : Array Value) (hw : ∀ d ∈ tables_1, d.before a0 Z = true) (ws : List Jvm.Cond) (w_NONE k_NONE : Addr) (W : own_W Z w_NONE k_NONE) (c0 : Addr) (h0 : Heap) (n0 : Nat) (O0 : Old Z n0 h0) (E_c0 : Exa Z h0 c0 "com/example/meter/meter/store/Spans") (F_c0_droppedTotal : Fld Z h0 c0 "com/example/meter/meter/store/Spans" "droppedTotal" "J" (.long (0 : Int64))) (F_c0_end : Fld Z h0 c0 "com/example/meter/meter/store/Spans" "end" "I" (.int (0 : Int32))) (F_c0_firsts : Fld Z h0 c0 "com/example/meter/meter/store/Spans" "firsts" "[J" (.ref w_NONE)) (F_c0_head : Fld Z h0 c0 "com/example/meter/meter/store/Spans" "head" "I" (.int (0 : Int32))) (F_c0_lasts : Fld Z h0 c0 "com/example/meter/meter/store/Spans" "lasts" "[J" (.ref w_NONE)) (F_c0_totals : Fld Z h0 c0 "com/example/meter/meter/store/Spans" "totals" "[J" (.ref w_NONE)) (n_c0 : n0 ≤ c0) :
    MetFree l (⟨"com/example/meter/meter/store/Spans", "movedDown", "([JI)[J"⟩ : MethodName) (head1 (Jvm.Cond.code (⟨"com/example/meter/meter/store/Spans", "movedDown", "([JI)[J"⟩ : MethodName) prog_11_method_16_code 4 (some (.array .long)) :: ws) ({ frames := 1, cells := 1, slots := 16, locals := 36 } : Room)) (fun a U => a = #[(.ref c0), (.ref w_NONE), (.int (16 : Int32))] ∧ Z.Warmed39 U.vm ∧ U.heap = h0) (fun _ _ _ _ _ => True) (fun _ U o U' => ∃ v L, o = .returned v ∧ Q_rm9_9 Z w_NONE k_NONE c0 h0 n0 v U'.heap L ∧ FrameEnd U o U' L ({ frames := 1, cells := 1, slots := 16, locals := 36 } : Room).cells ({ frames := 1, cells := 1, slots := 16, locals := 36 } : Room).slots) := by
  refine MetFree.of_bodySF (plainFor_of_name pn_0) hisR ?_
  intro p e s m args below meth c s₁ Bd hml0 hP hK
  obtain ⟨rfl, hZ, hh⟩ := hP
  have hx := Bd.exec
  have hby := Bd.bytes
  have hml : c.maxLocals = 4 := hml0
  have hlk := BodyLoose.notSynchronized Bd
  have hret := Bd.returns
  have hown : s.vm.findClass "com/example/meter/meter/store/Spans" = some m.cls := findClass_of_methodNamed Bd.named
  have hnm := (name_of_methodNamed Bd.named Bd.method).1
  have X0 : Stand p l e ({ frames := 1, cells := 1, slots := 16, locals := 36 } : Room) s m #[(.ref c0), (.ref w_NONE), (.int (16 : Int32))] below meth c s₁ [] 0 0 := Stand.of_body Bd
  have e0 : s₁.heap = h0 := by rw [← hh, Bd.state]; rfl
  have N0 := Fr.nil n0
  rw [ef_9 m c0 w_NONE (16 : Int32)]
  show Go p e below _ (s₁.setTop (mkF m 0 #[oA c0, oA w_NONE, oI (16 : Int32), oU] []))
  refine own_iload_n 1 X0 hx hby d9_0 rfl rfl ?_
  refine own_aload_n 2 X0 hx hby d9_1 rfl rfl rfl ?_
  refine own_len 3 X0 hx hby hZ e0 (W.2.ext O0.2) d9_2 rfl ?_
  refine own_icY 10 X0 hx hby d9_3 (by decide) (by decide) (by decide) ?_
  refine own_iload_n 11 X0 hx hby d9_10 rfl rfl ?_
  refine own_newP 13 16 X0 hx hby hZ (own_w hw 50 rfl) e0 d9_11 rfl (by decide) (by decide) (by decide) (by decide) (by decide) ?_
  intro T40 h40 k40 b40 X40 e40 E40 g40 V40
  have ne_c0_b40 : c0 ≠ b40 := Nat.ne_of_lt (Nat.lt_of_lt_of_le E_c0.lt (Nat.le_of_eq g40.symm))
  have n_b40 : n0 ≤ b40 := Nat.le_trans (own_n0 O0) (Nat.le_of_eq g40.symm)
  have sz_b40 : h0.size ≤ b40 := Nat.le_trans (Keep.refl h0 []).1 (Nat.le_of_eq g40.symm)
  have E_c0_40 := E_c0.ext E40
  have F_c0_droppedTotal_40 := F_c0_droppedTotal.ext E40
  have F_c0_end_40 := F_c0_end.ext E40
  have F_c0_firsts_40 := F_c0_firsts.ext E40
  have F_c0_head_40 := F_c0_head.ext E40
  have F_c0_lasts_40 := F_c0_lasts.ext E40
  have F_c0_totals_40 := F_c0_totals.ext E40
  have K40 : Keep h0 h40 [] := (Keep.refl h0 []).ext E40
  have O40 := O0.ext E40
  have V40 : Arv Z h40 b40 k40 .long (16 : Int32) [(.long (0 : Int64)), (.long (0 : Int64)), (.long (0 : Int64)), (.long (0 : Int64))] (.long (0 : Int64)) := own_shrink 4 V40
  show Go p e below _ (T40.setTop (mkF m 13 _ [(.ref b40)]))
  refine own_astore_n 14 #[oA c0, oA w_NONE, oI (16 : Int32), oA b40] X40 hx hby d9_13 rfl rfl rfl ?_
  refine own_aload_n 15 X40 hx hby d9_14 rfl rfl rfl ?_
  refine own_aload_n 16 X40 hx hby d9_15 rfl rfl rfl ?_
  refine own_getF 19 X40 hx hby hZ hown (own_w hw 30 rfl) e40 F_c0_head_40 d9_16 rfl ?_
  intro T41 X41 e41
  refine own_aload_n 20 X41 hx hby d9_19 rfl rfl rfl ?_
  refine own_iconst 21 (0 : Int32) X41 hx hby d9_20 rfl (by decide) ?_
  refine own_aload_n 22 X41 hx hby d9_21 rfl rfl rfl ?_
  refine own_getF 25 X41 hx hby hZ hown (own_w hw 32 rfl) e41 F_c0_end_40 d9_22 rfl ?_
  intro T42 X42 e42
  refine own_aload_n 26 X42 hx hby d9_25 rfl rfl rfl ?_
  refine own_getF 29 X42 hx hby hZ hown (own_w hw 30 rfl) e42 F_c0_head_40 d9_26 rfl ?_
  intro T43 X43 e43
  refine own_isub 30 (0 : Int32) X43 hx hby d9_29 rfl (by decide) ?_
  refine own_cp0 33 0 X43 hx hby hZ hown (own_w hw 51 rfl) (own_w hw 54 rfl) (own_w hw 52 rfl) (own_w hw 53 rfl) e43 (W.2.ext O40.2) V40 N0 n_b40 (by rw [hml]; rfl) d9_30 rfl rfl (by decide) (by decide) ?_
  intro T44 h44 L44 X44 e44 N44 Kc44 V44
  have E_c0_44 := E_c0_40.keep Kc44
  have F_c0_droppedTotal_44 := F_c0_droppedTotal_40.keep Kc44 (ninS ne_c0_b40 nin0)
  have F_c0_end_44 := F_c0_end_40.keep Kc44 (ninS ne_c0_b40 nin0)
  have F_c0_firsts_44 := F_c0_firsts_40.keep Kc44 (ninS ne_c0_b40 nin0)
  have F_c0_head_44 := F_c0_head_40.keep Kc44 (ninS ne_c0_b40 nin0)
  have F_c0_lasts_44 := F_c0_lasts_40.keep Kc44 (ninS ne_c0_b40 nin0)
  have F_c0_totals_44 := F_c0_totals_40.keep Kc44 (ninS ne_c0_b40 nin0)
  have K44 : Keep h0 h44 [] := K40.trans Kc44 (allS (Or.inr sz_b40) all0)
  have O44 := O40.keep Kc44 (allS n_b40 all0)
  refine own_aload_n 34 X44 hx hby d9_33 rfl rfl rfl ?_
  exact own_ret (Q := Q_rm9_9 Z w_NONE k_NONE c0 h0 n0) X44 hx hby hret hlk d9_34 rfl (Or.inr (Or.inr (Or.inr (Or.inr ⟨rfl, rfl, rfl⟩)))) (by decide) (by decide) (by rw [e44]; exact ⟨b40, k40, rfl, N44, K44, n_b40, sz_b40, E_c0_44, F_c0_droppedTotal_44, F_c0_end_44, F_c0_firsts_44, F_c0_head_44, F_c0_lasts_44, F_c0_totals_44, V44⟩)
def Q_rm9_10 (Z : State) (w_NONE k_NONE : Addr) (c0 : Addr) (c1 : Addr) (k_c1 : ClassId) (h0 : Heap) (n0 : Nat) (v : Option Value) (h : Heap) (L : List Loc) : Prop := ∃ b48 : Addr, ∃ k48 : ClassId, v = (some (.ref b48)) ∧ Fr n0 L ∧ Keep h0 h [] ∧ n0 ≤ b48 ∧ h0.size ≤ b48 ∧ Exa Z h c0 "com/example/meter/meter/store/Spans" ∧ Fld Z h c0 "com/example/meter/meter/store/Spans" "droppedTotal" "J" (.long (0 : Int64)) ∧ Fld Z h c0 "com/example/meter/meter/store/Spans" "end" "I" (.int (0 : Int32)) ∧ Fld Z h c0 "com/example/meter/meter/store/Spans" "firsts" "[J" (.ref c1) ∧ Fld Z h c0 "com/example/meter/meter/store/Spans" "head" "I" (.int (0 : Int32)) ∧ Fld Z h c0 "com/example/meter/meter/store/Spans" "lasts" "[J" (.ref w_NONE) ∧ Fld Z h c0 "com/example/meter/meter/store/Spans" "totals" "[J" (.ref w_NONE) ∧ Arv Z h c1 k_c1 .long (16 : Int32) [(.long (0 : Int64)), (.long (0 : Int64)), (.long (0 : Int64)), (.long (0 : Int64))] (.long (0 : Int64)) ∧ Arv Z h b48 k48 .long (16 : Int32) [(.long (0 : Int64)), (.long (0 : Int64)), (.long (0 : Int64)), (.long (0 : Int64))] (.long (0 : Int64))
set_option maxRecDepth 65536 in
set_option maxHeartbeats 40000000 in
theorem rm9_10 (l : Launch) (Z : State) (a0 : Array Value) (hw : ∀ d ∈ tables_1, d.before a0 Z = true) (ws : List Jvm.Cond) (w_NONE k_NONE : Addr) (W : own_W Z w_NONE k_NONE) (c0 : Addr) (c1 : Addr) (k_c1 : ClassId) (h0 : Heap) (n0 : Nat) (O0 : Old Z n0 h0) (E_c0 : Exa Z h0 c0 "com/example/meter/meter/store/Spans") (F_c0_droppedTotal : Fld Z h0 c0 "com/example/meter/meter/store/Spans" "droppedTotal" "J" (.long (0 : Int64))) (F_c0_end : Fld Z h0 c0 "com/example/meter/meter/store/Spans" "end" "I" (.int (0 : Int32))) (F_c0_firsts : Fld Z h0 c0 "com/example/meter/meter/store/Spans" "firsts" "[J" (.ref c1)) (F_c0_head : Fld Z h0 c0 "com/example/meter/meter/store/Spans" "head" "I" (.int (0 : Int32))) (F_c0_lasts : Fld Z h0 c0 "com/example/meter/meter/store/Spans" "lasts" "[J" (.ref w_NONE)) (F_c0_totals : Fld Z h0 c0 "com/example/meter/meter/store/Spans" "totals" "[J" (.ref w_NONE)) (n_c0 : n0 ≤ c0) (V_c1 : Arv Z h0 c1 k_c1 .long (16 : Int32) [(.long (0 : Int64)), (.long (0 : Int64)), (.long (0 : Int64)), (.long (0 : Int64))] (.long (0 : Int64))) (n_c1 : n0 ≤ c1) (ne_c0_c1 : c0 ≠ c1) :
    MetFree l (⟨"com/example/meter/meter/store/Spans", "movedDown", "([JI)[J"⟩ : MethodName) (head1 (Jvm.Cond.code (⟨"com/example/meter/meter/store/Spans", "movedDown", "([JI)[J"⟩ : MethodName) prog_11_method_16_code 4 (some (.array .long)) :: ws) ({ frames := 1, cells := 1, slots := 16, locals := 36 } : Room)) (fun a U => a = #[(.ref c0), (.ref w_NONE), (.int (16 : Int32))] ∧ Z.Warmed39 U.vm ∧ U.heap = h0) (fun _ _ _ _ _ => True) (fun _ U o U' => ∃ v L, o = .returned v ∧ Q_rm9_10 Z w_NONE k_NONE c0 c1 k_c1 h0 n0 v U'.heap L ∧ FrameEnd U o U' L ({ frames := 1, cells := 1, slots := 16, locals := 36 } : Room).cells ({ frames := 1, cells := 1, slots := 16, locals := 36 } : Room).slots) := by
  refine MetFree.of_bodySF (plainFor_of_name pn_0) hisR ?_
  intro p e s m args below meth c s₁ Bd hml0 hP hK
  obtain ⟨rfl, hZ, hh⟩ := hP
  have hx := Bd.exec
  have hby := Bd.bytes
  have hml : c.maxLocals = 4 := hml0
  have hlk := BodyLoose.notSynchronized Bd
  have hret := Bd.returns
  have hown : s.vm.findClass "com/example/meter/meter/store/Spans" = some m.cls := findClass_of_methodNamed Bd.named
  have hnm := (name_of_methodNamed Bd.named Bd.method).1
  have X0 : Stand p l e ({ frames := 1, cells := 1, slots := 16, locals := 36 } : Room) s m #[(.ref c0), (.ref w_NONE), (.int (16 : Int32))] below meth c s₁ [] 0 0 := Stand.of_body Bd
  have e0 : s₁.heap = h0 := by rw [← hh, Bd.state]; rfl
  have N0 := Fr.nil n0
  rw [ef_9 m c0 w_NONE (16 : Int32)]
  show Go p e below _ (s₁.setTop (mkF m 0 #[oA c0, oA w_NONE, oI (16 : Int32), oU] []))
  refine own_iload_n 1 X0 hx hby d9_0 rfl rfl ?_
  refine own_aload_n 2 X0 hx hby d9_1 rfl rfl rfl ?_
  refine own_len 3 X0 hx hby hZ e0 (W.2.ext O0.2) d9_2 rfl ?_
  refine own_icY 10 X0 hx hby d9_3 (by decide) (by decide) (by decide) ?_
  refine own_iload_n 11 X0 hx hby d9_10 rfl rfl ?_
  refine own_newP 13 16 X0 hx hby hZ (own_w hw 50 rfl) e0 d9_11 rfl (by decide) (by decide) (by decide) (by decide) (by decide) ?_
  intro T48 h48 k48 b48 X48 e48 E48 g48 V48
  have ne_c0_b48 : c0 ≠ b48 := Nat.ne_of_lt (Nat.lt_of_lt_of_le E_c0.lt (Nat.le_of_eq g48.symm))
  have ne_c1_b48 : c1 ≠ b48 := Nat.ne_of_lt (Nat.lt_of_lt_of_le V_c1.lt (Nat.le_of_eq g48.symm))
  have n_b48 : n0 ≤ b48 := Nat.le_trans (own_n0 O0) (Nat.le_of_eq g48.symm)
  have sz_b48 : h0.size ≤ b48 := Nat.le_trans (Keep.refl h0 []).1 (Nat.le_of_eq g48.symm)
  have E_c0_48 := E_c0.ext E48
  have F_c0_droppedTotal_48 := F_c0_droppedTotal.ext E48
  have F_c0_end_48 := F_c0_end.ext E48
  have F_c0_firsts_48 := F_c0_firsts.ext E48
  have F_c0_head_48 := F_c0_head.ext E48
  have F_c0_lasts_48 := F_c0_lasts.ext E48
  have F_c0_totals_48 := F_c0_totals.ext E48
  have V_c1_48 := V_c1.ext E48
  have K48 : Keep h0 h48 [] := (Keep.refl h0 []).ext E48
  have O48 := O0.ext E48
  have V48 : Arv Z h48 b48 k48 .long (16 : Int32) [(.long (0 : Int64)), (.long (0 : Int64)), (.long (0 : Int64)), (.long (0 : Int64))] (.long (0 : Int64)) := own_shrink 4 V48
  show Go p e below _ (T48.setTop (mkF m 13 _ [(.ref b48)]))
  refine own_astore_n 14 #[oA c0, oA w_NONE, oI (16 : Int32), oA b48] X48 hx hby d9_13 rfl rfl rfl ?_
  refine own_aload_n 15 X48 hx hby d9_14 rfl rfl rfl ?_
  refine own_aload_n 16 X48 hx hby d9_15 rfl rfl rfl ?_
  refine own_getF 19 X48 hx hby hZ hown (own_w hw 30 rfl) e48 F_c0_head_48 d9_16 rfl ?_
  intro T49 X49 e49
  refine own_aload_n 20 X49 hx hby d9_19 rfl rfl rfl ?_
  refine own_iconst 21 (0 : Int32) X49 hx hby d9_20 rfl (by decide) ?_
  refine own_aload_n 22 X49 hx hby d9_21 rfl rfl rfl ?_
  refine own_getF 25 X49 hx hby hZ hown (own_w hw 32 rfl) e49 F_c0_end_48 d9_22 rfl ?_
  intro T50 X50 e50
  refine own_aload_n 26 X50 hx hby d9_25 rfl rfl rfl ?_
  refine own_getF 29 X50 hx hby hZ hown (own_w hw 30 rfl) e50 F_c0_head_48 d9_26 rfl ?_
  intro T51 X51 e51
  refine own_isub 30 (0 : Int32) X51 hx hby d9_29 rfl (by decide) ?_
  refine own_cp0 33 0 X51 hx hby hZ hown (own_w hw 51 rfl) (own_w hw 54 rfl) (own_w hw 52 rfl) (own_w hw 53 rfl) e51 (W.2.ext O48.2) V48 N0 n_b48 (by rw [hml]; rfl) d9_30 rfl rfl (by decide) (by decide) ?_
  intro T52 h52 L52 X52 e52 N52 Kc52 V52
  have E_c0_52 := E_c0_48.keep Kc52
  have F_c0_droppedTotal_52 := F_c0_droppedTotal_48.keep Kc52 (ninS ne_c0_b48 nin0)
  have F_c0_end_52 := F_c0_end_48.keep Kc52 (ninS ne_c0_b48 nin0)
  have F_c0_firsts_52 := F_c0_firsts_48.keep Kc52 (ninS ne_c0_b48 nin0)
  have F_c0_head_52 := F_c0_head_48.keep Kc52 (ninS ne_c0_b48 nin0)
  have F_c0_lasts_52 := F_c0_lasts_48.keep Kc52 (ninS ne_c0_b48 nin0)
  have F_c0_totals_52 := F_c0_totals_48.keep Kc52 (ninS ne_c0_b48 nin0)
  have V_c1_52 := V_c1_48.keep Kc52 (ninS ne_c1_b48 nin0)
  have K52 : Keep h0 h52 [] := K48.trans Kc52 (allS (Or.inr sz_b48) all0)
  have O52 := O48.keep Kc52 (allS n_b48 all0)
  refine own_aload_n 34 X52 hx hby d9_33 rfl rfl rfl ?_
  exact own_ret (Q := Q_rm9_10 Z w_NONE k_NONE c0 c1 k_c1 h0 n0) X52 hx hby hret hlk d9_34 rfl (Or.inr (Or.inr (Or.inr (Or.inr ⟨rfl, rfl, rfl⟩)))) (by decide) (by decide) (by rw [e52]; exact ⟨b48, k48, rfl, N52, K52, n_b48, sz_b48, E_c0_52, F_c0_droppedTotal_52, F_c0_end_52, F_c0_firsts_52, F_c0_head_52, F_c0_lasts_52, F_c0_totals_52, V_c1_52, V52⟩)
def Q_rm9_11 (Z : State) (w_NONE k_NONE : Addr) (c0 : Addr) (c1 : Addr) (k_c1 : ClassId) (c2 : Addr) (k_c2 : ClassId) (h0 : Heap) (n0 : Nat) (v : Option Value) (h : Heap) (L : List Loc) : Prop := ∃ b56 : Addr, ∃ k56 : ClassId, v = (some (.ref b56)) ∧ Fr n0 L ∧ Keep h0 h [] ∧ n0 ≤ b56 ∧ h0.size ≤ b56 ∧ Exa Z h c0 "com/example/meter/meter/store/Spans" ∧ Fld Z h c0 "com/example/meter/meter/store/Spans" "droppedTotal" "J" (.long (0 : Int64)) ∧ Fld Z h c0 "com/example/meter/meter/store/Spans" "end" "I" (.int (0 : Int32)) ∧ Fld Z h c0 "com/example/meter/meter/store/Spans" "firsts" "[J" (.ref c1) ∧ Fld Z h c0 "com/example/meter/meter/store/Spans" "head" "I" (.int (0 : Int32)) ∧ Fld Z h c0 "com/example/meter/meter/store/Spans" "lasts" "[J" (.ref c2) ∧ Fld Z h c0 "com/example/meter/meter/store/Spans" "totals" "[J" (.ref w_NONE) ∧ Arv Z h c1 k_c1 .long (16 : Int32) [(.long (0 : Int64)), (.long (0 : Int64)), (.long (0 : Int64)), (.long (0 : Int64))] (.long (0 : Int64)) ∧ Arv Z h c2 k_c2 .long (16 : Int32) [(.long (0 : Int64)), (.long (0 : Int64)), (.long (0 : Int64)), (.long (0 : Int64))] (.long (0 : Int64)) ∧ Arv Z h b56 k56 .long (16 : Int32) [(.long (0 : Int64)), (.long (0 : Int64)), (.long (0 : Int64)), (.long (0 : Int64))] (.long (0 : Int64))
set_option maxRecDepth 65536 in
set_option maxHeartbeats 40000000 in
theorem rm9_11 (l : Launch) (Z : State) (a0 : Array Value) (hw : ∀ d ∈ tables_1, d.before a0 Z = true) (ws : List Jvm.Cond) (w_NONE k_NONE : Addr) (W : own_W Z w_NONE k_NONE) (c0 : Addr) (c1 : Addr) (k_c1 : ClassId) (c2 : Addr) (k_c2 : ClassId) (h0 : Heap) (n0 : Nat) (O0 : Old Z n0 h0) (E_c0 : Exa Z h0 c0 "com/example/meter/meter/store/Spans") (F_c0_droppedTotal : Fld Z h0 c0 "com/example/meter/meter/store/Spans" "droppedTotal" "J" (.long (0 : Int64))) (F_c0_end : Fld Z h0 c0 "com/example/meter/meter/store/Spans" "end" "I" (.int (0 : Int32))) (F_c0_firsts : Fld Z h0 c0 "com/example/meter/meter/store/Spans" "firsts" "[J" (.ref c1)) (F_c0_head : Fld Z h0 c0 "com/example/meter/meter/store/Spans" "head" "I" (.int (0 : Int32))) (F_c0_lasts : Fld Z h0 c0 "com/example/meter/meter/store/Spans" "lasts" "[J" (.ref c2)) (F_c0_totals : Fld Z h0 c0 "com/example/meter/meter/store/Spans" "totals" "[J" (.ref w_NONE)) (n_c0 : n0 ≤ c0) (V_c1 : Arv Z h0 c1 k_c1 .long (16 : Int32) [(.long (0 : Int64)), (.long (0 : Int64)), (.long (0 : Int64)), (.long (0 : Int64))] (.long (0 : Int64))) (n_c1 : n0 ≤ c1) (V_c2 : Arv Z h0 c2 k_c2 .long (16 : Int32) [(.long (0 : Int64)), (.long (0 : Int64)), (.long (0 : Int64)), (.long (0 : Int64))] (.long (0 : Int64))) (n_c2 : n0 ≤ c2) (ne_c0_c1 : c0 ≠ c1) (ne_c0_c2 : c0 ≠ c2) (ne_c1_c2 : c1 ≠ c2) :
    MetFree l (⟨"com/example/meter/meter/store/Spans", "movedDown", "([JI)[J"⟩ : MethodName) (head1 (Jvm.Cond.code (⟨"com/example/meter/meter/store/Spans", "movedDown", "([JI)[J"⟩ : MethodName) prog_11_method_16_code 4 (some (.array .long)) :: ws) ({ frames := 1, cells := 1, slots := 16, locals := 36 } : Room)) (fun a U => a = #[(.ref c0), (.ref w_NONE), (.int (16 : Int32))] ∧ Z.Warmed39 U.vm ∧ U.heap = h0) (fun _ _ _ _ _ => True) (fun _ U o U' => ∃ v L, o = .returned v ∧ Q_rm9_11 Z w_NONE k_NONE c0 c1 k_c1 c2 k_c2 h0 n0 v U'.heap L ∧ FrameEnd U o U' L ({ frames := 1, cells := 1, slots := 16, locals := 36 } : Room).cells ({ frames := 1, cells := 1, slots := 16, locals := 36 } : Room).slots) := by
  refine MetFree.of_bodySF (plainFor_of_name pn_0) hisR ?_
  intro p e s m args below meth c s₁ Bd hml0 hP hK
  obtain ⟨rfl, hZ, hh⟩ := hP
  have hx := Bd.exec
  have hby := Bd.bytes
  have hml : c.maxLocals = 4 := hml0
  have hlk := BodyLoose.notSynchronized Bd
  have hret := Bd.returns
  have hown : s.vm.findClass "com/example/meter/meter/store/Spans" = some m.cls := findClass_of_methodNamed Bd.named
  have hnm := (name_of_methodNamed Bd.named Bd.method).1
  have X0 : Stand p l e ({ frames := 1, cells := 1, slots := 16, locals := 36 } : Room) s m #[(.ref c0), (.ref w_NONE), (.int (16 : Int32))] below meth c s₁ [] 0 0 := Stand.of_body Bd
  have e0 : s₁.heap = h0 := by rw [← hh, Bd.state]; rfl
  have N0 := Fr.nil n0
  rw [ef_9 m c0 w_NONE (16 : Int32)]
  show Go p e below _ (s₁.setTop (mkF m 0 #[oA c0, oA w_NONE, oI (16 : Int32), oU] []))
  refine own_iload_n 1 X0 hx hby d9_0 rfl rfl ?_
  refine own_aload_n 2 X0 hx hby d9_1 rfl rfl rfl ?_
  refine own_len 3 X0 hx hby hZ e0 (W.2.ext O0.2) d9_2 rfl ?_
  refine own_icY 10 X0 hx hby d9_3 (by decide) (by decide) (by decide) ?_
  refine own_iload_n 11 X0 hx hby d9_10 rfl rfl ?_
  refine own_newP 13 16 X0 hx hby hZ (own_w hw 50 rfl) e0 d9_11 rfl (by decide) (by decide) (by decide) (by decide) (by decide) ?_
  intro T56 h56 k56 b56 X56 e56 E56 g56 V56
  have ne_c0_b56 : c0 ≠ b56 := Nat.ne_of_lt (Nat.lt_of_lt_of_le E_c0.lt (Nat.le_of_eq g56.symm))
  have ne_c1_b56 : c1 ≠ b56 := Nat.ne_of_lt (Nat.lt_of_lt_of_le V_c1.lt (Nat.le_of_eq g56.symm))
  have ne_c2_b56 : c2 ≠ b56 := Nat.ne_of_lt (Nat.lt_of_lt_of_le V_c2.lt (Nat.le_of_eq g56.symm))
  have n_b56 : n0 ≤ b56 := Nat.le_trans (own_n0 O0) (Nat.le_of_eq g56.symm)
  have sz_b56 : h0.size ≤ b56 := Nat.le_trans (Keep.refl h0 []).1 (Nat.le_of_eq g56.symm)
  have E_c0_56 := E_c0.ext E56
  have F_c0_droppedTotal_56 := F_c0_droppedTotal.ext E56
  have F_c0_end_56 := F_c0_end.ext E56
  have F_c0_firsts_56 := F_c0_firsts.ext E56
  have F_c0_head_56 := F_c0_head.ext E56
  have F_c0_lasts_56 := F_c0_lasts.ext E56
  have F_c0_totals_56 := F_c0_totals.ext E56
  have V_c1_56 := V_c1.ext E56
  have V_c2_56 := V_c2.ext E56
  have K56 : Keep h0 h56 [] := (Keep.refl h0 []).ext E56
  have O56 := O0.ext E56
  have V56 : Arv Z h56 b56 k56 .long (16 : Int32) [(.long (0 : Int64)), (.long (0 : Int64)), (.long (0 : Int64)), (.long (0 : Int64))] (.long (0 : Int64)) := own_shrink 4 V56
  show Go p e below _ (T56.setTop (mkF m 13 _ [(.ref b56)]))
  refine own_astore_n 14 #[oA c0, oA w_NONE, oI (16 : Int32), oA b56] X56 hx hby d9_13 rfl rfl rfl ?_
  refine own_aload_n 15 X56 hx hby d9_14 rfl rfl rfl ?_
  refine own_aload_n 16 X56 hx hby d9_15 rfl rfl rfl ?_
  refine own_getF 19 X56 hx hby hZ hown (own_w hw 30 rfl) e56 F_c0_head_56 d9_16 rfl ?_
  intro T57 X57 e57
  refine own_aload_n 20 X57 hx hby d9_19 rfl rfl rfl ?_
  refine own_iconst 21 (0 : Int32) X57 hx hby d9_20 rfl (by decide) ?_
  refine own_aload_n 22 X57 hx hby d9_21 rfl rfl rfl ?_
  refine own_getF 25 X57 hx hby hZ hown (own_w hw 32 rfl) e57 F_c0_end_56 d9_22 rfl ?_
  intro T58 X58 e58
  refine own_aload_n 26 X58 hx hby d9_25 rfl rfl rfl ?_
  refine own_getF 29 X58 hx hby hZ hown (own_w hw 30 rfl) e58 F_c0_head_56 d9_26 rfl ?_
  intro T59 X59 e59
  refine own_isub 30 (0 : Int32) X59 hx hby d9_29 rfl (by decide) ?_
  refine own_cp0 33 0 X59 hx hby hZ hown (own_w hw 51 rfl) (own_w hw 54 rfl) (own_w hw 52 rfl) (own_w hw 53 rfl) e59 (W.2.ext O56.2) V56 N0 n_b56 (by rw [hml]; rfl) d9_30 rfl rfl (by decide) (by decide) ?_
  intro T60 h60 L60 X60 e60 N60 Kc60 V60
  have E_c0_60 := E_c0_56.keep Kc60
  have F_c0_droppedTotal_60 := F_c0_droppedTotal_56.keep Kc60 (ninS ne_c0_b56 nin0)
  have F_c0_end_60 := F_c0_end_56.keep Kc60 (ninS ne_c0_b56 nin0)
  have F_c0_firsts_60 := F_c0_firsts_56.keep Kc60 (ninS ne_c0_b56 nin0)
  have F_c0_head_60 := F_c0_head_56.keep Kc60 (ninS ne_c0_b56 nin0)
  have F_c0_lasts_60 := F_c0_lasts_56.keep Kc60 (ninS ne_c0_b56 nin0)
  have F_c0_totals_60 := F_c0_totals_56.keep Kc60 (ninS ne_c0_b56 nin0)
  have V_c1_60 := V_c1_56.keep Kc60 (ninS ne_c1_b56 nin0)
  have V_c2_60 := V_c2_56.keep Kc60 (ninS ne_c2_b56 nin0)
  have K60 : Keep h0 h60 [] := K56.trans Kc60 (allS (Or.inr sz_b56) all0)
  have O60 := O56.keep Kc60 (allS n_b56 all0)
  refine own_aload_n 34 X60 hx hby d9_33 rfl rfl rfl ?_
  exact own_ret (Q := Q_rm9_11 Z w_NONE k_NONE c0 c1 k_c1 c2 k_c2 h0 n0) X60 hx hby hret hlk d9_34 rfl (Or.inr (Or.inr (Or.inr (Or.inr ⟨rfl, rfl, rfl⟩)))) (by decide) (by decide) (by rw [e60]; exact ⟨b56, k56, rfl, N60, K60, n_b56, sz_b56, E_c0_60, F_c0_droppedTotal_60, F_c0_end_60, F_c0_firsts_60, F_c0_head_60, F_c0_lasts_60, F_c0_totals_60, V_c1_60, V_c2_60, V60⟩)
def Q_rm7_12 (Z : State) (w_NONE k_NONE : Addr) (c0 : Addr) (h0 : Heap) (n0 : Nat) (v : Option Value) (h : Heap) (L : List Loc) : Prop := ∃ b45_0 : Addr, ∃ b53_0 : Addr, ∃ b61_0 : Addr, ∃ k45_0 : ClassId, ∃ k53_0 : ClassId, ∃ k61_0 : ClassId, v = none ∧ Fr n0 L ∧ Keep h0 h [c0] ∧ n0 ≤ b45_0 ∧ h0.size ≤ b45_0 ∧ n0 ≤ b53_0 ∧ h0.size ≤ b53_0 ∧ n0 ≤ b61_0 ∧ h0.size ≤ b61_0 ∧ b45_0 ≠ b53_0 ∧ b45_0 ≠ b61_0 ∧ b53_0 ≠ b61_0 ∧ Exa Z h c0 "com/example/meter/meter/store/Spans" ∧ Fld Z h c0 "com/example/meter/meter/store/Spans" "droppedTotal" "J" (.long (0 : Int64)) ∧ Fld Z h c0 "com/example/meter/meter/store/Spans" "end" "I" (.int (0 : Int32)) ∧ Fld Z h c0 "com/example/meter/meter/store/Spans" "firsts" "[J" (.ref b45_0) ∧ Fld Z h c0 "com/example/meter/meter/store/Spans" "head" "I" (.int (0 : Int32)) ∧ Fld Z h c0 "com/example/meter/meter/store/Spans" "lasts" "[J" (.ref b53_0) ∧ Fld Z h c0 "com/example/meter/meter/store/Spans" "totals" "[J" (.ref b61_0) ∧ Arv Z h b45_0 k45_0 .long (16 : Int32) [(.long (0 : Int64)), (.long (0 : Int64)), (.long (0 : Int64)), (.long (0 : Int64))] (.long (0 : Int64)) ∧ Arv Z h b53_0 k53_0 .long (16 : Int32) [(.long (0 : Int64)), (.long (0 : Int64)), (.long (0 : Int64)), (.long (0 : Int64))] (.long (0 : Int64)) ∧ Arv Z h b61_0 k61_0 .long (16 : Int32) [(.long (0 : Int64)), (.long (0 : Int64)), (.long (0 : Int64)), (.long (0 : Int64))] (.long (0 : Int64))
set_option maxRecDepth 65536 in
set_option maxHeartbeats 40000000 in
theorem rm7_12 (l : Launch) (Z : State) (a0 : Array Value) (hw : ∀ d ∈ tables_1, d.before a0 Z = true) (ws : List Jvm.Cond) (w_NONE k_NONE : Addr) (W : own_W Z w_NONE k_NONE) (c0 : Addr) (h0 : Heap) (n0 : Nat) (O0 : Old Z n0 h0) (E_c0 : Exa Z h0 c0 "com/example/meter/meter/store/Spans") (F_c0_droppedTotal : Fld Z h0 c0 "com/example/meter/meter/store/Spans" "droppedTotal" "J" (.long (0 : Int64))) (F_c0_end : Fld Z h0 c0 "com/example/meter/meter/store/Spans" "end" "I" (.int (0 : Int32))) (F_c0_firsts : Fld Z h0 c0 "com/example/meter/meter/store/Spans" "firsts" "[J" (.ref w_NONE)) (F_c0_head : Fld Z h0 c0 "com/example/meter/meter/store/Spans" "head" "I" (.int (0 : Int32))) (F_c0_lasts : Fld Z h0 c0 "com/example/meter/meter/store/Spans" "lasts" "[J" (.ref w_NONE)) (F_c0_totals : Fld Z h0 c0 "com/example/meter/meter/store/Spans" "totals" "[J" (.ref w_NONE)) (n_c0 : n0 ≤ c0) :
    MetFree l (⟨"com/example/meter/meter/store/Spans", "makeRoom", "()V"⟩ : MethodName) (head1 (Jvm.Cond.code (⟨"com/example/meter/meter/store/Spans", "makeRoom", "()V"⟩ : MethodName) prog_11_method_15_code 4 none :: ws) ({ frames := 2, cells := 3, slots := 48, locals := 52 } : Room)) (fun a U => a = #[(.ref c0)] ∧ Z.Warmed39 U.vm ∧ U.heap = h0) (fun _ _ _ _ _ => True) (fun _ U o U' => ∃ v L, o = .returned v ∧ Q_rm7_12 Z w_NONE k_NONE c0 h0 n0 v U'.heap L ∧ FrameEnd U o U' L ({ frames := 2, cells := 3, slots := 48, locals := 52 } : Room).cells ({ frames := 2, cells := 3, slots := 48, locals := 52 } : Room).slots) := by
  refine MetFree.of_bodySF (plainFor_of_name pn_0) hisR ?_
  intro p e s m args below meth c s₁ Bd hml0 hP hK
  obtain ⟨rfl, hZ, hh⟩ := hP
  have hx := Bd.exec
  have hby := Bd.bytes
  have hml : c.maxLocals = 4 := hml0
  have hlk := BodyLoose.notSynchronized Bd
  have hret := Bd.returns
  have hown : s.vm.findClass "com/example/meter/meter/store/Spans" = some m.cls := findClass_of_methodNamed Bd.named
  have hnm := (name_of_methodNamed Bd.named Bd.method).1
  have X0 : Stand p l e ({ frames := 2, cells := 3, slots := 48, locals := 52 } : Room) s m #[(.ref c0)] below meth c s₁ [] 0 0 := Stand.of_body Bd
  have e0 : s₁.heap = h0 := by rw [← hh, Bd.state]; rfl
  have N0 := Fr.nil n0
  rw [ef_7 m c0]
  show Go p e below _ (s₁.setTop (mkF m 0 #[oA c0, oU, oU, oU] []))
  refine own_aload_n 1 X0 hx hby d7_0 rfl rfl rfl ?_
  refine own_getF 4 X0 hx hby hZ hown (own_w hw 32 rfl) e0 F_c0_end d7_1 rfl ?_
  intro T33 X33 e33
  refine own_aload_n 5 X33 hx hby d7_4 rfl rfl rfl ?_
  refine own_getF 8 X33 hx hby hZ hown (own_w hw 30 rfl) e33 F_c0_head d7_5 rfl ?_
  intro T34 X34 e34
  refine own_isub 9 (0 : Int32) X34 hx hby d7_8 rfl (by decide) ?_
  refine own_istore_n 10 #[oA c0, oI (0 : Int32), oU, oU] X34 hx hby d7_9 rfl rfl ?_
  refine own_aload_n 11 X34 hx hby d7_10 rfl rfl rfl ?_
  refine own_getF 14 X34 hx hby hZ hown (own_w hw 21 rfl) e34 F_c0_lasts d7_11 rfl ?_
  intro T35 X35 e35
  refine own_len 15 X35 hx hby hZ e35 (W.2.ext O0.2) d7_14 rfl ?_
  refine own_iload_n 16 X35 hx hby d7_15 rfl rfl ?_
  refine own_isub 17 (0 : Int32) X35 hx hby d7_16 rfl (by decide) ?_
  refine own_istore_n 18 #[oA c0, oI (0 : Int32), oI (0 : Int32), oU] X35 hx hby d7_17 rfl rfl ?_
  refine own_iload_n 19 X35 hx hby d7_18 rfl rfl ?_
  refine own_aload_n 20 X35 hx hby d7_19 rfl rfl rfl ?_
  refine own_getF 23 X35 hx hby hZ hown (own_w hw 21 rfl) e35 F_c0_lasts d7_20 rfl ?_
  intro T36 X36 e36
  refine own_len 24 X36 hx hby hZ e36 (W.2.ext O0.2) d7_23 rfl ?_
  refine own_bipush 26 (8 : Int32) X36 hx hby d7_24 rfl (by decide) ?_
  refine own_idiv 27 (0 : Int32) X36 hx hby d7_26 rfl (by decide) (by decide) ?_
  refine own_icY 38 X36 hx hby d7_27 (by decide) (by decide) (by decide) ?_
  refine own_bipush 40 (16 : Int32) X36 hx hby d7_38 rfl (by decide) ?_
  refine own_iconst 41 (2 : Int32) X36 hx hby d7_40 rfl (by decide) ?_
  refine own_aload_n 42 X36 hx hby d7_41 rfl rfl rfl ?_
  refine own_getF 45 X36 hx hby hZ hown (own_w hw 21 rfl) e36 F_c0_lasts d7_42 rfl ?_
  intro T37 X37 e37
  refine own_len 46 X37 hx hby hZ e37 (W.2.ext O0.2) d7_45 rfl ?_
  refine own_imul 47 (0 : Int32) X37 hx hby d7_46 rfl (by decide) ?_
  refine own_callS (W := 0) 50 (rm8_8 l Z a0 hw [] w_NONE k_NONE W  h0 n0 O0) X37 hx hby hZ hown (own_w hw 43 rfl) (own_w hw 44 rfl) (own_w hw 2 rfl) (own_w hw 45 rfl) (by decide) (by rw [hml]; rfl) [(.int (16 : Int32)), (.int (0 : Int32))] [] pd_4 rfl d7_47 rfl e37 rfl rfl rfl (by decide) (by decide) (by decide) (by decide) ?_
  rintro _ T38 L38 X38 ⟨rfl, N38, e38⟩
  have N38 := Fr.app N0 N38
  show Go p e below _ (T38.setTop (mkF m 50 _ [(.int (16 : Int32))]))
  refine own_istore_n 51 #[oA c0, oI (0 : Int32), oI (0 : Int32), oI (16 : Int32)] X38 hx hby d7_50 rfl rfl ?_
  refine own_aload_n 52 X38 hx hby d7_51 rfl rfl rfl ?_
  refine own_aload_n 53 X38 hx hby d7_52 rfl rfl rfl ?_
  refine own_aload_n 54 X38 hx hby d7_53 rfl rfl rfl ?_
  refine own_getF 57 X38 hx hby hZ hown (own_w hw 19 rfl) e38 F_c0_firsts d7_54 rfl ?_
  intro T39 X39 e39
  refine own_iload_n 58 X39 hx hby d7_57 rfl rfl ?_
  refine own_priv (W := 1) 61 (rm9_9 l Z a0 hw [] w_NONE k_NONE W c0 h0 n0 O0 E_c0 F_c0_droppedTotal F_c0_end F_c0_firsts F_c0_head F_c0_lasts F_c0_totals n_c0) X39 hx hby hZ hown (own_w hw 46 rfl) (own_w hw 47 rfl) (own_w hw 48 rfl) (own_w hw 28 rfl) (own_w hw 10 rfl) (own_w hw 49 rfl) rfl (by decide) (by rw [hml]; rfl) c0 [(.ref w_NONE), (.int (16 : Int32))] [(.ref c0)] pd_5 rfl d7_58 rfl e39 E_c0 rfl rfl rfl (by decide) (by decide) (by decide) (by decide) ?_
  rintro _ T45 L45 X45 ⟨b45_0, k45_0, rfl, N45, Kc45, n_b45_0, sz_b45_0, E_c0_45, F_c0_droppedTotal_45, F_c0_end_45, F_c0_firsts_45, F_c0_head_45, F_c0_lasts_45, F_c0_totals_45, V_b45_0_45⟩
  have N45 := Fr.app N38 N45
  have ne_c0_b45_0 : c0 ≠ b45_0 := Nat.ne_of_lt (Nat.lt_of_lt_of_le E_c0.lt sz_b45_0)
  have sz_b45_0 : h0.size ≤ b45_0 := Nat.le_trans (Keep.refl h0 [c0]).1 sz_b45_0
  have K45 : Keep h0 T45.heap [c0] := (Keep.refl h0 [c0]).trans Kc45 all0
  have O45 := O0.keep Kc45 all0
  show Go p e below _ (T45.setTop (mkF m 61 _ [(.ref b45_0), (.ref c0)]))
  refine own_putF 64 X45 hx hby hZ (.array .long) hown (own_w hw 19 rfl) rfl F_c0_firsts_45 E_c0_45 (Or.inl (own_w hw 20 rfl)) (own_w hw 9 rfl) (by decide) rfl rfl d7_61 rfl ?_
  intro T46 h46 X46 e46 W46
  have E_c0_46 := E_c0_45.wr W46
  have F_c0_droppedTotal_46 := F_c0_droppedTotal_45.other W46 (Or.inr (slot_ne (Or.inl (own_w hw 60 rfl)) (Or.inl (own_w hw 20 rfl)) (by decide) (t := .long) (t' := (.array .long)) (by decide) (by decide)))
  have F_c0_end_46 := F_c0_end_45.other W46 (Or.inr (slot_ne (Or.inl (own_w hw 33 rfl)) (Or.inl (own_w hw 20 rfl)) (by decide) (t := .int) (t' := (.array .long)) (by decide) (by decide)))
  have F_c0_firsts_46 := F_c0_firsts_45.same W46
  have F_c0_head_46 := F_c0_head_45.other W46 (Or.inr (slot_ne (Or.inl (own_w hw 31 rfl)) (Or.inl (own_w hw 20 rfl)) (by decide) (t := .int) (t' := (.array .long)) (by decide) (by decide)))
  have F_c0_lasts_46 := F_c0_lasts_45.other W46 (Or.inr (slot_ne (Or.inl (own_w hw 22 rfl)) (Or.inl (own_w hw 20 rfl)) (by decide) (t := (.array .long)) (t' := (.array .long)) (by decide) (by decide)))
  have F_c0_totals_46 := F_c0_totals_45.other W46 (Or.inr (slot_ne (Or.inl (own_w hw 24 rfl)) (Or.inl (own_w hw 20 rfl)) (by decide) (t := (.array .long)) (t' := (.array .long)) (by decide) (by decide)))
  have V_b45_0_46 := V_b45_0_45.other W46 (Ne.symm ne_c0_b45_0)
  have K46 : Keep h0 h46 [c0] := K45.wr W46 (Or.inl (List.mem_of_getElem? (i := 0) rfl))
  have O46 := O45.wr W46 n_c0
  have N46 := Fr.snoc X46 N45 n_c0
  refine own_aload_n 65 X46 hx hby d7_64 rfl rfl rfl ?_
  refine own_aload_n 66 X46 hx hby d7_65 rfl rfl rfl ?_
  refine own_aload_n 67 X46 hx hby d7_66 rfl rfl rfl ?_
  refine own_getF 70 X46 hx hby hZ hown (own_w hw 21 rfl) e46 F_c0_lasts_46 d7_67 rfl ?_
  intro T47 X47 e47
  refine own_iload_n 71 X47 hx hby d7_70 rfl rfl ?_
  refine own_priv (W := 1) 74 (rm9_10 l Z a0 hw [] w_NONE k_NONE W c0 b45_0 k45_0 h46 n0 O46 E_c0_46 F_c0_droppedTotal_46 F_c0_end_46 F_c0_firsts_46 F_c0_head_46 F_c0_lasts_46 F_c0_totals_46 n_c0 V_b45_0_46 n_b45_0 ne_c0_b45_0) X47 hx hby hZ hown (own_w hw 46 rfl) (own_w hw 47 rfl) (own_w hw 48 rfl) (own_w hw 28 rfl) (own_w hw 10 rfl) (own_w hw 49 rfl) rfl (by decide) (by rw [hml]; rfl) c0 [(.ref w_NONE), (.int (16 : Int32))] [(.ref c0)] pd_5 rfl d7_71 rfl e47 E_c0_46 rfl rfl rfl (by decide) (by decide) (by decide) (by decide) ?_
  rintro _ T53 L53 X53 ⟨b53_0, k53_0, rfl, N53, Kc53, n_b53_0, sz_b53_0, E_c0_53, F_c0_droppedTotal_53, F_c0_end_53, F_c0_firsts_53, F_c0_head_53, F_c0_lasts_53, F_c0_totals_53, V_b45_0_53, V_b53_0_53⟩
  have N53 := Fr.app N46 N53
  have ne_c0_b53_0 : c0 ≠ b53_0 := Nat.ne_of_lt (Nat.lt_of_lt_of_le E_c0_46.lt sz_b53_0)
  have ne_b45_0_b53_0 : b45_0 ≠ b53_0 := Nat.ne_of_lt (Nat.lt_of_lt_of_le V_b45_0_46.lt sz_b53_0)
  have sz_b53_0 : h0.size ≤ b53_0 := Nat.le_trans K46.1 sz_b53_0
  have K53 : Keep h0 T53.heap [c0] := K46.trans Kc53 all0
  have O53 := O46.keep Kc53 all0
  show Go p e below _ (T53.setTop (mkF m 74 _ [(.ref b53_0), (.ref c0)]))
  refine own_putF 77 X53 hx hby hZ (.array .long) hown (own_w hw 21 rfl) rfl F_c0_lasts_53 E_c0_53 (Or.inl (own_w hw 22 rfl)) (own_w hw 9 rfl) (by decide) rfl rfl d7_74 rfl ?_
  intro T54 h54 X54 e54 W54
  have E_c0_54 := E_c0_53.wr W54
  have F_c0_droppedTotal_54 := F_c0_droppedTotal_53.other W54 (Or.inr (slot_ne (Or.inl (own_w hw 60 rfl)) (Or.inl (own_w hw 22 rfl)) (by decide) (t := .long) (t' := (.array .long)) (by decide) (by decide)))
  have F_c0_end_54 := F_c0_end_53.other W54 (Or.inr (slot_ne (Or.inl (own_w hw 33 rfl)) (Or.inl (own_w hw 22 rfl)) (by decide) (t := .int) (t' := (.array .long)) (by decide) (by decide)))
  have F_c0_firsts_54 := F_c0_firsts_53.other W54 (Or.inr (slot_ne (Or.inl (own_w hw 20 rfl)) (Or.inl (own_w hw 22 rfl)) (by decide) (t := (.array .long)) (t' := (.array .long)) (by decide) (by decide)))
  have F_c0_head_54 := F_c0_head_53.other W54 (Or.inr (slot_ne (Or.inl (own_w hw 31 rfl)) (Or.inl (own_w hw 22 rfl)) (by decide) (t := .int) (t' := (.array .long)) (by decide) (by decide)))
  have F_c0_lasts_54 := F_c0_lasts_53.same W54
  have F_c0_totals_54 := F_c0_totals_53.other W54 (Or.inr (slot_ne (Or.inl (own_w hw 24 rfl)) (Or.inl (own_w hw 22 rfl)) (by decide) (t := (.array .long)) (t' := (.array .long)) (by decide) (by decide)))
  have V_b45_0_54 := V_b45_0_53.other W54 (Ne.symm ne_c0_b45_0)
  have V_b53_0_54 := V_b53_0_53.other W54 (Ne.symm ne_c0_b53_0)
  have K54 : Keep h0 h54 [c0] := K53.wr W54 (Or.inl (List.mem_of_getElem? (i := 0) rfl))
  have O54 := O53.wr W54 n_c0
  have N54 := Fr.snoc X54 N53 n_c0
  refine own_aload_n 78 X54 hx hby d7_77 rfl rfl rfl ?_
  refine own_aload_n 79 X54 hx hby d7_78 rfl rfl rfl ?_
  refine own_aload_n 80 X54 hx hby d7_79 rfl rfl rfl ?_
  refine own_getF 83 X54 hx hby hZ hown (own_w hw 23 rfl) e54 F_c0_totals_54 d7_80 rfl ?_
  intro T55 X55 e55
  refine own_iload_n 84 X55 hx hby d7_83 rfl rfl ?_
  refine own_priv (W := 1) 87 (rm9_11 l Z a0 hw [] w_NONE k_NONE W c0 b45_0 k45_0 b53_0 k53_0 h54 n0 O54 E_c0_54 F_c0_droppedTotal_54 F_c0_end_54 F_c0_firsts_54 F_c0_head_54 F_c0_lasts_54 F_c0_totals_54 n_c0 V_b45_0_54 n_b45_0 V_b53_0_54 n_b53_0 ne_c0_b45_0 ne_c0_b53_0 ne_b45_0_b53_0) X55 hx hby hZ hown (own_w hw 46 rfl) (own_w hw 47 rfl) (own_w hw 48 rfl) (own_w hw 28 rfl) (own_w hw 10 rfl) (own_w hw 49 rfl) rfl (by decide) (by rw [hml]; rfl) c0 [(.ref w_NONE), (.int (16 : Int32))] [(.ref c0)] pd_5 rfl d7_84 rfl e55 E_c0_54 rfl rfl rfl (by decide) (by decide) (by decide) (by decide) ?_
  rintro _ T61 L61 X61 ⟨b61_0, k61_0, rfl, N61, Kc61, n_b61_0, sz_b61_0, E_c0_61, F_c0_droppedTotal_61, F_c0_end_61, F_c0_firsts_61, F_c0_head_61, F_c0_lasts_61, F_c0_totals_61, V_b45_0_61, V_b53_0_61, V_b61_0_61⟩
  have N61 := Fr.app N54 N61
  have ne_c0_b61_0 : c0 ≠ b61_0 := Nat.ne_of_lt (Nat.lt_of_lt_of_le E_c0_54.lt sz_b61_0)
  have ne_b45_0_b61_0 : b45_0 ≠ b61_0 := Nat.ne_of_lt (Nat.lt_of_lt_of_le V_b45_0_54.lt sz_b61_0)
  have ne_b53_0_b61_0 : b53_0 ≠ b61_0 := Nat.ne_of_lt (Nat.lt_of_lt_of_le V_b53_0_54.lt sz_b61_0)
  have sz_b61_0 : h0.size ≤ b61_0 := Nat.le_trans K54.1 sz_b61_0
  have K61 : Keep h0 T61.heap [c0] := K54.trans Kc61 all0
  have O61 := O54.keep Kc61 all0
  show Go p e below _ (T61.setTop (mkF m 87 _ [(.ref b61_0), (.ref c0)]))
  refine own_putF 90 X61 hx hby hZ (.array .long) hown (own_w hw 23 rfl) rfl F_c0_totals_61 E_c0_61 (Or.inl (own_w hw 24 rfl)) (own_w hw 9 rfl) (by decide) rfl rfl d7_87 rfl ?_
  intro T62 h62 X62 e62 W62
  have E_c0_62 := E_c0_61.wr W62
  have F_c0_droppedTotal_62 := F_c0_droppedTotal_61.other W62 (Or.inr (slot_ne (Or.inl (own_w hw 60 rfl)) (Or.inl (own_w hw 24 rfl)) (by decide) (t := .long) (t' := (.array .long)) (by decide) (by decide)))
  have F_c0_end_62 := F_c0_end_61.other W62 (Or.inr (slot_ne (Or.inl (own_w hw 33 rfl)) (Or.inl (own_w hw 24 rfl)) (by decide) (t := .int) (t' := (.array .long)) (by decide) (by decide)))
  have F_c0_firsts_62 := F_c0_firsts_61.other W62 (Or.inr (slot_ne (Or.inl (own_w hw 20 rfl)) (Or.inl (own_w hw 24 rfl)) (by decide) (t := (.array .long)) (t' := (.array .long)) (by decide) (by decide)))
  have F_c0_head_62 := F_c0_head_61.other W62 (Or.inr (slot_ne (Or.inl (own_w hw 31 rfl)) (Or.inl (own_w hw 24 rfl)) (by decide) (t := .int) (t' := (.array .long)) (by decide) (by decide)))
  have F_c0_lasts_62 := F_c0_lasts_61.other W62 (Or.inr (slot_ne (Or.inl (own_w hw 22 rfl)) (Or.inl (own_w hw 24 rfl)) (by decide) (t := (.array .long)) (t' := (.array .long)) (by decide) (by decide)))
  have F_c0_totals_62 := F_c0_totals_61.same W62
  have V_b45_0_62 := V_b45_0_61.other W62 (Ne.symm ne_c0_b45_0)
  have V_b53_0_62 := V_b53_0_61.other W62 (Ne.symm ne_c0_b53_0)
  have V_b61_0_62 := V_b61_0_61.other W62 (Ne.symm ne_c0_b61_0)
  have K62 : Keep h0 h62 [c0] := K61.wr W62 (Or.inl (List.mem_of_getElem? (i := 0) rfl))
  have O62 := O61.wr W62 n_c0
  have N62 := Fr.snoc X62 N61 n_c0
  refine own_aload_n 91 X62 hx hby d7_90 rfl rfl rfl ?_
  refine own_iconst 92 (0 : Int32) X62 hx hby d7_91 rfl (by decide) ?_
  refine own_putF 95 X62 hx hby hZ .int hown (own_w hw 30 rfl) e62 F_c0_head_62 E_c0_62 (Or.inl (own_w hw 31 rfl)) (own_w hw 9 rfl) (by decide) rfl rfl d7_92 rfl ?_
  intro T63 h63 X63 e63 W63
  have E_c0_63 := E_c0_62.wr W63
  have F_c0_droppedTotal_63 := F_c0_droppedTotal_62.other W63 (Or.inr (slot_ne (Or.inl (own_w hw 60 rfl)) (Or.inl (own_w hw 31 rfl)) (by decide) (t := .long) (t' := .int) (by decide) (by decide)))
  have F_c0_end_63 := F_c0_end_62.other W63 (Or.inr (slot_ne (Or.inl (own_w hw 33 rfl)) (Or.inl (own_w hw 31 rfl)) (by decide) (t := .int) (t' := .int) (by decide) (by decide)))
  have F_c0_firsts_63 := F_c0_firsts_62.other W63 (Or.inr (slot_ne (Or.inl (own_w hw 20 rfl)) (Or.inl (own_w hw 31 rfl)) (by decide) (t := (.array .long)) (t' := .int) (by decide) (by decide)))
  have F_c0_head_63 := F_c0_head_62.same W63
  have F_c0_lasts_63 := F_c0_lasts_62.other W63 (Or.inr (slot_ne (Or.inl (own_w hw 22 rfl)) (Or.inl (own_w hw 31 rfl)) (by decide) (t := (.array .long)) (t' := .int) (by decide) (by decide)))
  have F_c0_totals_63 := F_c0_totals_62.other W63 (Or.inr (slot_ne (Or.inl (own_w hw 24 rfl)) (Or.inl (own_w hw 31 rfl)) (by decide) (t := (.array .long)) (t' := .int) (by decide) (by decide)))
  have V_b45_0_63 := V_b45_0_62.other W63 (Ne.symm ne_c0_b45_0)
  have V_b53_0_63 := V_b53_0_62.other W63 (Ne.symm ne_c0_b53_0)
  have V_b61_0_63 := V_b61_0_62.other W63 (Ne.symm ne_c0_b61_0)
  have K63 : Keep h0 h63 [c0] := K62.wr W63 (Or.inl (List.mem_of_getElem? (i := 0) rfl))
  have O63 := O62.wr W63 n_c0
  have N63 := Fr.snoc X63 N62 n_c0
  refine own_aload_n 96 X63 hx hby d7_95 rfl rfl rfl ?_
  refine own_iload_n 97 X63 hx hby d7_96 rfl rfl ?_
  refine own_putF 100 X63 hx hby hZ .int hown (own_w hw 32 rfl) e63 F_c0_end_63 E_c0_63 (Or.inl (own_w hw 33 rfl)) (own_w hw 9 rfl) (by decide) rfl rfl d7_97 rfl ?_
  intro T64 h64 X64 e64 W64
  have E_c0_64 := E_c0_63.wr W64
  have F_c0_droppedTotal_64 := F_c0_droppedTotal_63.other W64 (Or.inr (slot_ne (Or.inl (own_w hw 60 rfl)) (Or.inl (own_w hw 33 rfl)) (by decide) (t := .long) (t' := .int) (by decide) (by decide)))
  have F_c0_end_64 := F_c0_end_63.same W64
  have F_c0_firsts_64 := F_c0_firsts_63.other W64 (Or.inr (slot_ne (Or.inl (own_w hw 20 rfl)) (Or.inl (own_w hw 33 rfl)) (by decide) (t := (.array .long)) (t' := .int) (by decide) (by decide)))
  have F_c0_head_64 := F_c0_head_63.other W64 (Or.inr (slot_ne (Or.inl (own_w hw 31 rfl)) (Or.inl (own_w hw 33 rfl)) (by decide) (t := .int) (t' := .int) (by decide) (by decide)))
  have F_c0_lasts_64 := F_c0_lasts_63.other W64 (Or.inr (slot_ne (Or.inl (own_w hw 22 rfl)) (Or.inl (own_w hw 33 rfl)) (by decide) (t := (.array .long)) (t' := .int) (by decide) (by decide)))
  have F_c0_totals_64 := F_c0_totals_63.other W64 (Or.inr (slot_ne (Or.inl (own_w hw 24 rfl)) (Or.inl (own_w hw 33 rfl)) (by decide) (t := (.array .long)) (t' := .int) (by decide) (by decide)))
  have V_b45_0_64 := V_b45_0_63.other W64 (Ne.symm ne_c0_b45_0)
  have V_b53_0_64 := V_b53_0_63.other W64 (Ne.symm ne_c0_b53_0)
  have V_b61_0_64 := V_b61_0_63.other W64 (Ne.symm ne_c0_b61_0)
  have K64 : Keep h0 h64 [c0] := K63.wr W64 (Or.inl (List.mem_of_getElem? (i := 0) rfl))
  have O64 := O63.wr W64 n_c0
  have N64 := Fr.snoc X64 N63 n_c0
  exact own_ret0 (Q := Q_rm7_12 Z w_NONE k_NONE c0 h0 n0) X64 hx hby hret hlk d7_100 (by decide) (by decide) (by rw [e64]; exact ⟨b45_0, b53_0, b61_0, k45_0, k53_0, k61_0, rfl, N64, K64, n_b45_0, sz_b45_0, n_b53_0, sz_b53_0, n_b61_0, sz_b61_0, ne_b45_0_b53_0, ne_b45_0_b61_0, ne_b53_0_b61_0, E_c0_64, F_c0_droppedTotal_64, F_c0_end_64, F_c0_firsts_64, F_c0_head_64, F_c0_lasts_64, F_c0_totals_64, V_b45_0_64, V_b53_0_64, V_b61_0_64⟩)
set_option maxRecDepth 65536 in
set_option maxHeartbeats 40000000 in
theorem rm10_13 (l : Launch) (Z : State) (a0 : Array Value) (hw : ∀ d ∈ tables_1, d.before a0 Z = true) (ws : List Jvm.Cond) (w_NONE k_NONE : Addr) (W : own_W Z w_NONE k_NONE) (c0 : Addr) (c1 : Addr) (k_c1 : ClassId) (c2 : Addr) (k_c2 : ClassId) (c3 : Addr) (k_c3 : ClassId) (y0 : Int64) (h0 : Heap) (n0 : Nat) (O0 : Old Z n0 h0) (E_c0 : Exa Z h0 c0 "com/example/meter/meter/store/Spans") (F_c0_droppedTotal : Fld Z h0 c0 "com/example/meter/meter/store/Spans" "droppedTotal" "J" (.long (0 : Int64))) (F_c0_end : Fld Z h0 c0 "com/example/meter/meter/store/Spans" "end" "I" (.int (0 : Int32))) (F_c0_firsts : Fld Z h0 c0 "com/example/meter/meter/store/Spans" "firsts" "[J" (.ref c1)) (F_c0_head : Fld Z h0 c0 "com/example/meter/meter/store/Spans" "head" "I" (.int (0 : Int32))) (F_c0_lasts : Fld Z h0 c0 "com/example/meter/meter/store/Spans" "lasts" "[J" (.ref c2)) (F_c0_totals : Fld Z h0 c0 "com/example/meter/meter/store/Spans" "totals" "[J" (.ref c3)) (n_c0 : n0 ≤ c0) (V_c1 : Arv Z h0 c1 k_c1 .long (16 : Int32) [(.long y0), (.long (0 : Int64)), (.long (0 : Int64)), (.long (0 : Int64))] (.long (0 : Int64))) (n_c1 : n0 ≤ c1) (V_c2 : Arv Z h0 c2 k_c2 .long (16 : Int32) [(.long y0), (.long (0 : Int64)), (.long (0 : Int64)), (.long (0 : Int64))] (.long (0 : Int64))) (n_c2 : n0 ≤ c2) (V_c3 : Arv Z h0 c3 k_c3 .long (16 : Int32) [(.long (0 : Int64)), (.long (0 : Int64)), (.long (0 : Int64)), (.long (0 : Int64))] (.long (0 : Int64))) (n_c3 : n0 ≤ c3) (ne_c0_c1 : c0 ≠ c1) (ne_c0_c2 : c0 ≠ c2) (ne_c0_c3 : c0 ≠ c3) (ne_c1_c2 : c1 ≠ c2) (ne_c1_c3 : c1 ≠ c3) (ne_c2_c3 : c2 ≠ c3) :
    MetFree l (⟨"com/example/meter/meter/store/Spans", "totalBefore", "(I)J"⟩ : MethodName) (head1 (Jvm.Cond.code (⟨"com/example/meter/meter/store/Spans", "totalBefore", "(I)J"⟩ : MethodName) prog_11_method_14_code 2 (some .long) :: ws) ({ frames := 0, cells := 0, slots := 0, locals := 0 } : Room)) (fun a U => a = #[(.ref c0), (.int (0 : Int32))] ∧ Z.Warmed39 U.vm ∧ U.heap = h0) (fun _ _ _ _ _ => True) (fun _ U o U' => ∃ v L, o = .returned v ∧ own_Q (some (.long (0 : Int64))) n0 h0 v U'.heap L ∧ FrameEnd U o U' L ({ frames := 0, cells := 0, slots := 0, locals := 0 } : Room).cells ({ frames := 0, cells := 0, slots := 0, locals := 0 } : Room).slots) := by
  refine MetFree.of_bodySF (plainFor_of_name pn_0) hisR ?_
  intro p e s m args below meth c s₁ Bd hml0 hP hK
  obtain ⟨rfl, hZ, hh⟩ := hP
  have hx := Bd.exec
  have hby := Bd.bytes
  have hml : c.maxLocals = 2 := hml0
  have hlk := BodyLoose.notSynchronized Bd
  have hret := Bd.returns
  have hown : s.vm.findClass "com/example/meter/meter/store/Spans" = some m.cls := findClass_of_methodNamed Bd.named
  have hnm := (name_of_methodNamed Bd.named Bd.method).1
  have X0 : Stand p l e ({ frames := 0, cells := 0, slots := 0, locals := 0 } : Room) s m #[(.ref c0), (.int (0 : Int32))] below meth c s₁ [] 0 0 := Stand.of_body Bd
  have e0 : s₁.heap = h0 := by rw [← hh, Bd.state]; rfl
  have N0 := Fr.nil n0
  rw [ef_10 m c0 (0 : Int32)]
  show Go p e below _ (s₁.setTop (mkF m 0 #[oA c0, oI (0 : Int32)] []))
  refine own_iload_n 1 X0 hx hby d10_0 rfl rfl ?_
  refine own_aload_n 2 X0 hx hby d10_1 rfl rfl rfl ?_
  refine own_getF 5 X0 hx hby hZ hown (own_w hw 30 rfl) e0 F_c0_head d10_2 rfl ?_
  intro T75 X75 e75
  refine own_icN 8 X75 hx hby d10_5 rfl (by decide) ?_
  refine own_aload_n 9 X75 hx hby d10_8 rfl rfl rfl ?_
  refine own_getF 12 X75 hx hby hZ hown (own_w hw 59 rfl) e75 F_c0_droppedTotal d10_9 rfl ?_
  intro T76 X76 e76
  refine own_goto 23 X76 hx hby d10_12 (by decide) (by decide) ?_
  exact own_ret (Q := own_Q (some (.long (0 : Int64))) n0 h0) X76 hx hby hret hlk d10_23 rfl (Or.inr (Or.inl ⟨rfl, rfl, _, rfl⟩)) (by decide) (by decide) ⟨rfl, N0, e76⟩
def Q_rm6_14 (Z : State) (w_NONE k_NONE : Addr) (c0 : Addr) (y0 : Int64) (h0 : Heap) (n0 : Nat) (v : Option Value) (h : Heap) (L : List Loc) : Prop := ∃ b65_0 : Addr, ∃ b65_1 : Addr, ∃ b65_2 : Addr, ∃ k65_0 : ClassId, ∃ k65_1 : ClassId, ∃ k65_2 : ClassId, v = none ∧ Fr n0 L ∧ Keep h0 h [c0] ∧ n0 ≤ b65_0 ∧ h0.size ≤ b65_0 ∧ n0 ≤ b65_1 ∧ h0.size ≤ b65_1 ∧ n0 ≤ b65_2 ∧ h0.size ≤ b65_2 ∧ b65_0 ≠ b65_1 ∧ b65_0 ≠ b65_2 ∧ b65_1 ≠ b65_2 ∧ Exa Z h c0 "com/example/meter/meter/store/Spans" ∧ Fld Z h c0 "com/example/meter/meter/store/Spans" "droppedTotal" "J" (.long (0 : Int64)) ∧ Fld Z h c0 "com/example/meter/meter/store/Spans" "end" "I" (.int (1 : Int32)) ∧ Fld Z h c0 "com/example/meter/meter/store/Spans" "firsts" "[J" (.ref b65_0) ∧ Fld Z h c0 "com/example/meter/meter/store/Spans" "head" "I" (.int (0 : Int32)) ∧ Fld Z h c0 "com/example/meter/meter/store/Spans" "lasts" "[J" (.ref b65_1) ∧ Fld Z h c0 "com/example/meter/meter/store/Spans" "totals" "[J" (.ref b65_2) ∧ Arv Z h b65_0 k65_0 .long (16 : Int32) [(.long y0), (.long (0 : Int64)), (.long (0 : Int64)), (.long (0 : Int64))] (.long (0 : Int64)) ∧ Arv Z h b65_1 k65_1 .long (16 : Int32) [(.long y0), (.long (0 : Int64)), (.long (0 : Int64)), (.long (0 : Int64))] (.long (0 : Int64)) ∧ Arv Z h b65_2 k65_2 .long (16 : Int32) [(.long (1 : Int64)), (.long (0 : Int64)), (.long (0 : Int64)), (.long (0 : Int64))] (.long (0 : Int64))
set_option maxRecDepth 65536 in
set_option maxHeartbeats 40000000 in
theorem rm6_14 (l : Launch) (Z : State) (a0 : Array Value) (hw : ∀ d ∈ tables_1, d.before a0 Z = true) (ws : List Jvm.Cond) (w_NONE k_NONE : Addr) (W : own_W Z w_NONE k_NONE) (c0 : Addr) (y0 : Int64) (h0 : Heap) (n0 : Nat) (O0 : Old Z n0 h0) (E_c0 : Exa Z h0 c0 "com/example/meter/meter/store/Spans") (F_c0_droppedTotal : Fld Z h0 c0 "com/example/meter/meter/store/Spans" "droppedTotal" "J" (.long (0 : Int64))) (F_c0_end : Fld Z h0 c0 "com/example/meter/meter/store/Spans" "end" "I" (.int (0 : Int32))) (F_c0_firsts : Fld Z h0 c0 "com/example/meter/meter/store/Spans" "firsts" "[J" (.ref w_NONE)) (F_c0_head : Fld Z h0 c0 "com/example/meter/meter/store/Spans" "head" "I" (.int (0 : Int32))) (F_c0_lasts : Fld Z h0 c0 "com/example/meter/meter/store/Spans" "lasts" "[J" (.ref w_NONE)) (F_c0_totals : Fld Z h0 c0 "com/example/meter/meter/store/Spans" "totals" "[J" (.ref w_NONE)) (n_c0 : n0 ≤ c0) :
    MetFree l (⟨"com/example/meter/meter/store/Spans", "append", "(JJ)V"⟩ : MethodName) (head1 (Jvm.Cond.code (⟨"com/example/meter/meter/store/Spans", "append", "(JJ)V"⟩ : MethodName) prog_11_method_9_code 5 none :: ws) ({ frames := 3, cells := 3, slots := 48, locals := 67 } : Room)) (fun a U => a = #[(.ref c0), (.long y0), (.long (1 : Int64))] ∧ Z.Warmed39 U.vm ∧ U.heap = h0) (fun _ _ _ _ _ => True) (fun _ U o U' => ∃ v L, o = .returned v ∧ Q_rm6_14 Z w_NONE k_NONE c0 y0 h0 n0 v U'.heap L ∧ FrameEnd U o U' L ({ frames := 3, cells := 3, slots := 48, locals := 67 } : Room).cells ({ frames := 3, cells := 3, slots := 48, locals := 67 } : Room).slots) := by
  refine MetFree.of_bodySF (plainFor_of_name pn_0) hisR ?_
  intro p e s m args below meth c s₁ Bd hml0 hP hK
  obtain ⟨rfl, hZ, hh⟩ := hP
  have hx := Bd.exec
  have hby := Bd.bytes
  have hml : c.maxLocals = 5 := hml0
  have hlk := BodyLoose.notSynchronized Bd
  have hret := Bd.returns
  have hown : s.vm.findClass "com/example/meter/meter/store/Spans" = some m.cls := findClass_of_methodNamed Bd.named
  have hnm := (name_of_methodNamed Bd.named Bd.method).1
  have X0 : Stand p l e ({ frames := 3, cells := 3, slots := 48, locals := 67 } : Room) s m #[(.ref c0), (.long y0), (.long (1 : Int64))] below meth c s₁ [] 0 0 := Stand.of_body Bd
  have e0 : s₁.heap = h0 := by rw [← hh, Bd.state]; rfl
  have N0 := Fr.nil n0
  rw [ef_6 m c0 y0 (1 : Int64)]
  show Go p e below _ (s₁.setTop (mkF m 0 #[oA c0, oJ y0, oS, oJ (1 : Int64), oS] []))
  refine own_aload_n 1 X0 hx hby d6_0 rfl rfl rfl ?_
  refine own_getF 4 X0 hx hby hZ hown (own_w hw 32 rfl) e0 F_c0_end d6_1 rfl ?_
  intro T31 X31 e31
  refine own_aload_n 5 X31 hx hby d6_4 rfl rfl rfl ?_
  refine own_getF 8 X31 hx hby hZ hown (own_w hw 21 rfl) e31 F_c0_lasts d6_5 rfl ?_
  intro T32 X32 e32
  refine own_len 9 X32 hx hby hZ e32 (W.2.ext O0.2) d6_8 rfl ?_
  refine own_icN 12 X32 hx hby d6_9 rfl (by decide) ?_
  refine own_aload_n 13 X32 hx hby d6_12 rfl rfl rfl ?_
  refine own_priv (W := 0) 16 (rm7_12 l Z a0 hw [] w_NONE k_NONE W c0 h0 n0 O0 E_c0 F_c0_droppedTotal F_c0_end F_c0_firsts F_c0_head F_c0_lasts F_c0_totals n_c0) X32 hx hby hZ hown (own_w hw 39 rfl) (own_w hw 40 rfl) (own_w hw 41 rfl) (own_w hw 28 rfl) (own_w hw 10 rfl) (own_w hw 42 rfl) rfl (by decide) (by rw [hml]; rfl) c0 [] [] pd_1 rfl d6_13 rfl e32 E_c0 rfl rfl rfl (by decide) (by decide) (by decide) (by decide) ?_
  rintro _ T65 L65 X65 ⟨b65_0, b65_1, b65_2, k65_0, k65_1, k65_2, rfl, N65, Kc65, n_b65_0, sz_b65_0, n_b65_1, sz_b65_1, n_b65_2, sz_b65_2, ne_b65_0_b65_1, ne_b65_0_b65_2, ne_b65_1_b65_2, E_c0_65, F_c0_droppedTotal_65, F_c0_end_65, F_c0_firsts_65, F_c0_head_65, F_c0_lasts_65, F_c0_totals_65, V_b65_0_65, V_b65_1_65, V_b65_2_65⟩
  have N65 := Fr.app N0 N65
  have ne_c0_b65_0 : c0 ≠ b65_0 := Nat.ne_of_lt (Nat.lt_of_lt_of_le E_c0.lt sz_b65_0)
  have sz_b65_0 : h0.size ≤ b65_0 := Nat.le_trans (Keep.refl h0 [c0]).1 sz_b65_0
  have ne_c0_b65_1 : c0 ≠ b65_1 := Nat.ne_of_lt (Nat.lt_of_lt_of_le E_c0.lt sz_b65_1)
  have sz_b65_1 : h0.size ≤ b65_1 := Nat.le_trans (Keep.refl h0 [c0]).1 sz_b65_1
  have ne_c0_b65_2 : c0 ≠ b65_2 := Nat.ne_of_lt (Nat.lt_of_lt_of_le E_c0.lt sz_b65_2)
  have sz_b65_2 : h0.size ≤ b65_2 := Nat.le_trans (Keep.refl h0 [c0]).1 sz_b65_2
  have K65 : Keep h0 T65.heap [c0] := (Keep.refl h0 [c0]).trans Kc65 (allS (Or.inl (List.mem_of_getElem? (i := 0) rfl)) all0)
  have O65 := O0.keep Kc65 (allS n_c0 all0)
  show Go p e below _ (T65.setTop (mkF m 16 _ []))
  refine own_aload_n 17 X65 hx hby d6_16 rfl rfl rfl ?_
  refine own_getF 20 X65 hx hby hZ hown (own_w hw 19 rfl) rfl F_c0_firsts_65 d6_17 rfl ?_
  intro T66 X66 e66
  refine own_aload_n 21 X66 hx hby d6_20 rfl rfl rfl ?_
  refine own_getF 24 X66 hx hby hZ hown (own_w hw 32 rfl) e66 F_c0_end_65 d6_21 rfl ?_
  intro T67 X67 e67
  refine own_lload_n 25 X67 hx hby d6_24 rfl rfl ?_
  refine own_stJ 26 0 X67 hx hby hZ e67 V_b65_0_65 d6_25 rfl (by decide) (by decide) (Nat.le_of_ble_eq_true rfl) ?_
  intro T68 h68 X68 e68 W68 V68
  have V68 : Arv Z h68 b65_0 k65_0 .long (16 : Int32) [(.long y0), (.long (0 : Int64)), (.long (0 : Int64)), (.long (0 : Int64))] (.long (0 : Int64)) := V68
  have E_c0_68 := E_c0_65.wr W68
  have F_c0_droppedTotal_68 := F_c0_droppedTotal_65.other W68 (Or.inl ne_c0_b65_0)
  have F_c0_end_68 := F_c0_end_65.other W68 (Or.inl ne_c0_b65_0)
  have F_c0_firsts_68 := F_c0_firsts_65.other W68 (Or.inl ne_c0_b65_0)
  have F_c0_head_68 := F_c0_head_65.other W68 (Or.inl ne_c0_b65_0)
  have F_c0_lasts_68 := F_c0_lasts_65.other W68 (Or.inl ne_c0_b65_0)
  have F_c0_totals_68 := F_c0_totals_65.other W68 (Or.inl ne_c0_b65_0)
  have V_b65_1_68 := V_b65_1_65.other W68 (Ne.symm ne_b65_0_b65_1)
  have V_b65_2_68 := V_b65_2_65.other W68 (Ne.symm ne_b65_0_b65_2)
  have K68 : Keep h0 h68 [c0] := K65.wr W68 (Or.inr sz_b65_0)
  have O68 := O65.wr W68 n_b65_0
  have N68 := Fr.snoc X68 N65 n_b65_0
  refine own_aload_n 27 X68 hx hby d6_26 rfl rfl rfl ?_
  refine own_getF 30 X68 hx hby hZ hown (own_w hw 21 rfl) e68 F_c0_lasts_68 d6_27 rfl ?_
  intro T69 X69 e69
  refine own_aload_n 31 X69 hx hby d6_30 rfl rfl rfl ?_
  refine own_getF 34 X69 hx hby hZ hown (own_w hw 32 rfl) e69 F_c0_end_68 d6_31 rfl ?_
  intro T70 X70 e70
  refine own_lload_n 35 X70 hx hby d6_34 rfl rfl ?_
  refine own_stJ 36 0 X70 hx hby hZ e70 V_b65_1_68 d6_35 rfl (by decide) (by decide) (Nat.le_of_ble_eq_true rfl) ?_
  intro T71 h71 X71 e71 W71 V71
  have V71 : Arv Z h71 b65_1 k65_1 .long (16 : Int32) [(.long y0), (.long (0 : Int64)), (.long (0 : Int64)), (.long (0 : Int64))] (.long (0 : Int64)) := V71
  have E_c0_71 := E_c0_68.wr W71
  have F_c0_droppedTotal_71 := F_c0_droppedTotal_68.other W71 (Or.inl ne_c0_b65_1)
  have F_c0_end_71 := F_c0_end_68.other W71 (Or.inl ne_c0_b65_1)
  have F_c0_firsts_71 := F_c0_firsts_68.other W71 (Or.inl ne_c0_b65_1)
  have F_c0_head_71 := F_c0_head_68.other W71 (Or.inl ne_c0_b65_1)
  have F_c0_lasts_71 := F_c0_lasts_68.other W71 (Or.inl ne_c0_b65_1)
  have F_c0_totals_71 := F_c0_totals_68.other W71 (Or.inl ne_c0_b65_1)
  have V_b65_0_71 := V68.other W71 ne_b65_0_b65_1
  have V_b65_2_71 := V_b65_2_68.other W71 (Ne.symm ne_b65_1_b65_2)
  have K71 : Keep h0 h71 [c0] := K68.wr W71 (Or.inr sz_b65_1)
  have O71 := O68.wr W71 n_b65_1
  have N71 := Fr.snoc X71 N68 n_b65_1
  refine own_aload_n 37 X71 hx hby d6_36 rfl rfl rfl ?_
  refine own_getF 40 X71 hx hby hZ hown (own_w hw 23 rfl) e71 F_c0_totals_71 d6_37 rfl ?_
  intro T72 X72 e72
  refine own_aload_n 41 X72 hx hby d6_40 rfl rfl rfl ?_
  refine own_getF 44 X72 hx hby hZ hown (own_w hw 32 rfl) e72 F_c0_end_71 d6_41 rfl ?_
  intro T73 X73 e73
  refine own_aload_n 45 X73 hx hby d6_44 rfl rfl rfl ?_
  refine own_aload_n 46 X73 hx hby d6_45 rfl rfl rfl ?_
  refine own_getF 49 X73 hx hby hZ hown (own_w hw 32 rfl) e73 F_c0_end_71 d6_46 rfl ?_
  intro T74 X74 e74
  refine own_priv (W := 2) 52 (rm10_13 l Z a0 hw [] w_NONE k_NONE W c0 b65_0 k65_0 b65_1 k65_1 b65_2 k65_2 y0 h71 n0 O71 E_c0_71 F_c0_droppedTotal_71 F_c0_end_71 F_c0_firsts_71 F_c0_head_71 F_c0_lasts_71 F_c0_totals_71 n_c0 V_b65_0_71 n_b65_0 V71 n_b65_1 V_b65_2_71 n_b65_2 ne_c0_b65_0 ne_c0_b65_1 ne_c0_b65_2 ne_b65_0_b65_1 ne_b65_0_b65_2 ne_b65_1_b65_2) X74 hx hby hZ hown (own_w hw 55 rfl) (own_w hw 56 rfl) (own_w hw 57 rfl) (own_w hw 28 rfl) (own_w hw 10 rfl) (own_w hw 58 rfl) rfl (by decide) (by rw [hml]; rfl) c0 [(.int (0 : Int32))] [(.int (0 : Int32)), (.ref b65_2)] pd_6 rfl d6_49 rfl e74 E_c0_71 rfl rfl rfl (by decide) (by decide) (by decide) (by decide) ?_
  rintro _ T77 L77 X77 ⟨rfl, N77, e77⟩
  have N77 := Fr.app N71 N77
  show Go p e below _ (T77.setTop (mkF m 52 _ [(.long (0 : Int64)), (.int (0 : Int32)), (.ref b65_2)]))
  refine own_lload_n 53 X77 hx hby d6_52 rfl rfl ?_
  refine own_ladd 54 (1 : Int64) X77 hx hby d6_53 rfl (by decide) ?_
  refine own_stJ 55 0 X77 hx hby hZ e77 V_b65_2_71 d6_54 rfl (by decide) (by decide) (Nat.le_of_ble_eq_true rfl) ?_
  intro T78 h78 X78 e78 W78 V78
  have V78 : Arv Z h78 b65_2 k65_2 .long (16 : Int32) [(.long (1 : Int64)), (.long (0 : Int64)), (.long (0 : Int64)), (.long (0 : Int64))] (.long (0 : Int64)) := V78
  have E_c0_78 := E_c0_71.wr W78
  have F_c0_droppedTotal_78 := F_c0_droppedTotal_71.other W78 (Or.inl ne_c0_b65_2)
  have F_c0_end_78 := F_c0_end_71.other W78 (Or.inl ne_c0_b65_2)
  have F_c0_firsts_78 := F_c0_firsts_71.other W78 (Or.inl ne_c0_b65_2)
  have F_c0_head_78 := F_c0_head_71.other W78 (Or.inl ne_c0_b65_2)
  have F_c0_lasts_78 := F_c0_lasts_71.other W78 (Or.inl ne_c0_b65_2)
  have F_c0_totals_78 := F_c0_totals_71.other W78 (Or.inl ne_c0_b65_2)
  have V_b65_0_78 := V_b65_0_71.other W78 ne_b65_0_b65_2
  have V_b65_1_78 := V71.other W78 ne_b65_1_b65_2
  have K78 : Keep h0 h78 [c0] := K71.wr W78 (Or.inr sz_b65_2)
  have O78 := O71.wr W78 n_b65_2
  have N78 := Fr.snoc X78 N77 n_b65_2
  refine own_aload_n 56 X78 hx hby d6_55 rfl rfl rfl ?_
  refine own_dup 57 X78 hx hby d6_56 rfl rfl ?_
  refine own_getF 60 X78 hx hby hZ hown (own_w hw 32 rfl) e78 F_c0_end_78 d6_57 rfl ?_
  intro T79 X79 e79
  refine own_iconst 61 (1 : Int32) X79 hx hby d6_60 rfl (by decide) ?_
  refine own_iadd 62 (1 : Int32) X79 hx hby d6_61 rfl (by decide) ?_
  refine own_putF 65 X79 hx hby hZ .int hown (own_w hw 32 rfl) e79 F_c0_end_78 E_c0_78 (Or.inl (own_w hw 33 rfl)) (own_w hw 9 rfl) (by decide) rfl rfl d6_62 rfl ?_
  intro T80 h80 X80 e80 W80
  have E_c0_80 := E_c0_78.wr W80
  have F_c0_droppedTotal_80 := F_c0_droppedTotal_78.other W80 (Or.inr (slot_ne (Or.inl (own_w hw 60 rfl)) (Or.inl (own_w hw 33 rfl)) (by decide) (t := .long) (t' := .int) (by decide) (by decide)))
  have F_c0_end_80 := F_c0_end_78.same W80
  have F_c0_firsts_80 := F_c0_firsts_78.other W80 (Or.inr (slot_ne (Or.inl (own_w hw 20 rfl)) (Or.inl (own_w hw 33 rfl)) (by decide) (t := (.array .long)) (t' := .int) (by decide) (by decide)))
  have F_c0_head_80 := F_c0_head_78.other W80 (Or.inr (slot_ne (Or.inl (own_w hw 31 rfl)) (Or.inl (own_w hw 33 rfl)) (by decide) (t := .int) (t' := .int) (by decide) (by decide)))
  have F_c0_lasts_80 := F_c0_lasts_78.other W80 (Or.inr (slot_ne (Or.inl (own_w hw 22 rfl)) (Or.inl (own_w hw 33 rfl)) (by decide) (t := (.array .long)) (t' := .int) (by decide) (by decide)))
  have F_c0_totals_80 := F_c0_totals_78.other W80 (Or.inr (slot_ne (Or.inl (own_w hw 24 rfl)) (Or.inl (own_w hw 33 rfl)) (by decide) (t := (.array .long)) (t' := .int) (by decide) (by decide)))
  have V_b65_0_80 := V_b65_0_78.other W80 (Ne.symm ne_c0_b65_0)
  have V_b65_1_80 := V_b65_1_78.other W80 (Ne.symm ne_c0_b65_1)
  have V_b65_2_80 := V78.other W80 (Ne.symm ne_c0_b65_2)
  have K80 : Keep h0 h80 [c0] := K78.wr W80 (Or.inl (List.mem_of_getElem? (i := 0) rfl))
  have O80 := O78.wr W80 n_c0
  have N80 := Fr.snoc X80 N78 n_c0
  exact own_ret0 (Q := Q_rm6_14 Z w_NONE k_NONE c0 y0 h0 n0) X80 hx hby hret hlk d6_65 (by decide) (by decide) (by rw [e80]; exact ⟨b65_0, b65_1, b65_2, k65_0, k65_1, k65_2, rfl, N80, K80, n_b65_0, sz_b65_0, n_b65_1, sz_b65_1, n_b65_2, sz_b65_2, ne_b65_0_b65_1, ne_b65_0_b65_2, ne_b65_1_b65_2, E_c0_80, F_c0_droppedTotal_80, F_c0_end_80, F_c0_firsts_80, F_c0_head_80, F_c0_lasts_80, F_c0_totals_80, V_b65_0_80, V_b65_1_80, V_b65_2_80⟩)
set_option maxRecDepth 65536 in
set_option maxHeartbeats 40000000 in
theorem rm5_15 (l : Launch) (Z : State) (a0 : Array Value) (hw : ∀ d ∈ tables_1, d.before a0 Z = true) (ws : List Jvm.Cond) (w_NONE k_NONE : Addr) (W : own_W Z w_NONE k_NONE) (c0 : Addr) (c1 : Addr) (k_c1 : ClassId) (c2 : Addr) (k_c2 : ClassId) (c3 : Addr) (k_c3 : ClassId) (y0 : Int64) (y1 : Int64) (h0 : Heap) (n0 : Nat) (O0 : Old Z n0 h0) (E_c0 : Exa Z h0 c0 "com/example/meter/meter/store/Spans") (F_c0_droppedTotal : Fld Z h0 c0 "com/example/meter/meter/store/Spans" "droppedTotal" "J" (.long (0 : Int64))) (F_c0_end : Fld Z h0 c0 "com/example/meter/meter/store/Spans" "end" "I" (.int (1 : Int32))) (F_c0_firsts : Fld Z h0 c0 "com/example/meter/meter/store/Spans" "firsts" "[J" (.ref c1)) (F_c0_head : Fld Z h0 c0 "com/example/meter/meter/store/Spans" "head" "I" (.int (0 : Int32))) (F_c0_lasts : Fld Z h0 c0 "com/example/meter/meter/store/Spans" "lasts" "[J" (.ref c2)) (F_c0_totals : Fld Z h0 c0 "com/example/meter/meter/store/Spans" "totals" "[J" (.ref c3)) (n_c0 : n0 ≤ c0) (V_c1 : Arv Z h0 c1 k_c1 .long (16 : Int32) [(.long y1), (.long (0 : Int64)), (.long (0 : Int64)), (.long (0 : Int64))] (.long (0 : Int64))) (n_c1 : n0 ≤ c1) (V_c2 : Arv Z h0 c2 k_c2 .long (16 : Int32) [(.long y1), (.long (0 : Int64)), (.long (0 : Int64)), (.long (0 : Int64))] (.long (0 : Int64))) (n_c2 : n0 ≤ c2) (V_c3 : Arv Z h0 c3 k_c3 .long (16 : Int32) [(.long (1 : Int64)), (.long (0 : Int64)), (.long (0 : Int64)), (.long (0 : Int64))] (.long (0 : Int64))) (n_c3 : n0 ≤ c3) (ne_c0_c1 : c0 ≠ c1) (ne_c0_c2 : c0 ≠ c2) (ne_c0_c3 : c0 ≠ c3) (ne_c1_c2 : c1 ≠ c2) (ne_c1_c3 : c1 ≠ c3) (ne_c2_c3 : c2 ≠ c3) (hc87 : y0 < y1) :
    MetFree l (⟨"com/example/meter/meter/store/Spans", "endsAfter", "(J)Z"⟩ : MethodName) (head1 (Jvm.Cond.code (⟨"com/example/meter/meter/store/Spans", "endsAfter", "(J)Z"⟩ : MethodName) prog_11_method_8_code 3 (some .boolean) :: ws) ({ frames := 0, cells := 0, slots := 0, locals := 0 } : Room)) (fun a U => a = #[(.ref c0), (.long y0)] ∧ Z.Warmed39 U.vm ∧ U.heap = h0) (fun _ _ _ _ _ => True) (fun _ U o U' => ∃ v L, o = .returned v ∧ own_Q (some (.int (1 : Int32))) n0 h0 v U'.heap L ∧ FrameEnd U o U' L ({ frames := 0, cells := 0, slots := 0, locals := 0 } : Room).cells ({ frames := 0, cells := 0, slots := 0, locals := 0 } : Room).slots) := by
  refine MetFree.of_bodySF (plainFor_of_name pn_0) hisR ?_
  intro p e s m args below meth c s₁ Bd hml0 hP hK
  obtain ⟨rfl, hZ, hh⟩ := hP
  have hx := Bd.exec
  have hby := Bd.bytes
  have hml : c.maxLocals = 3 := hml0
  have hlk := BodyLoose.notSynchronized Bd
  have hret := Bd.returns
  have hown : s.vm.findClass "com/example/meter/meter/store/Spans" = some m.cls := findClass_of_methodNamed Bd.named
  have hnm := (name_of_methodNamed Bd.named Bd.method).1
  have X0 : Stand p l e ({ frames := 0, cells := 0, slots := 0, locals := 0 } : Room) s m #[(.ref c0), (.long y0)] below meth c s₁ [] 0 0 := Stand.of_body Bd
  have e0 : s₁.heap = h0 := by rw [← hh, Bd.state]; rfl
  have N0 := Fr.nil n0
  rw [ef_5 m c0 y0]
  show Go p e below _ (s₁.setTop (mkF m 0 #[oA c0, oJ y0, oS] []))
  refine own_aload_n 1 X0 hx hby d5_0 rfl rfl rfl ?_
  refine own_getF 4 X0 hx hby hZ hown (own_w hw 30 rfl) e0 F_c0_head d5_1 rfl ?_
  intro T83 X83 e83
  refine own_aload_n 5 X83 hx hby d5_4 rfl rfl rfl ?_
  refine own_getF 8 X83 hx hby hZ hown (own_w hw 32 rfl) e83 F_c0_end d5_5 rfl ?_
  intro T84 X84 e84
  refine own_icN 11 X84 hx hby d5_8 rfl (by decide) ?_
  refine own_aload_n 12 X84 hx hby d5_11 rfl rfl rfl ?_
  refine own_getF 15 X84 hx hby hZ hown (own_w hw 21 rfl) e84 F_c0_lasts d5_12 rfl ?_
  intro T85 X85 e85
  refine own_aload_n 16 X85 hx hby d5_15 rfl rfl rfl ?_
  refine own_getF 19 X85 hx hby hZ hown (own_w hw 30 rfl) e85 F_c0_head d5_16 rfl ?_
  intro T86 X86 e86
  refine own_laload 20 (.long y1) X86 hx hby hZ e86 V_c2 d5_19 rfl (by decide) rfl ?_
  refine own_lload_n 21 X86 hx hby d5_20 rfl rfl ?_
  refine own_lcmp 22 (XT.cmpL y1 y0) X86 hx hby d5_21 rfl rfl ?_
  refine own_ifN 25 X86 hx hby d5_22 rfl (own_tltL hc87).2.2.2 ?_
  refine own_iconst 26 (1 : Int32) X86 hx hby d5_25 rfl (by decide) ?_
  refine own_goto 30 X86 hx hby d5_26 (by decide) (by decide) ?_
  exact own_ret (Q := own_Q (some (.int (1 : Int32))) n0 h0) X86 hx hby hret hlk d5_30 rfl (Or.inl ⟨rfl, by simp, _, rfl⟩) (by decide) (by decide) ⟨rfl, N0, e86⟩
set_option maxRecDepth 65536 in
set_option maxHeartbeats 40000000 in
theorem rm5_16 (l : Launch) (Z : State) (a0 : Array Value) (hw : ∀ d ∈ tables_1, d.before a0 Z = true) (ws : List Jvm.Cond) (w_NONE k_NONE : Addr) (W : own_W Z w_NONE k_NONE) (c0 : Addr) (c1 : Addr) (k_c1 : ClassId) (c2 : Addr) (k_c2 : ClassId) (c3 : Addr) (k_c3 : ClassId) (y0 : Int64) (y1 : Int64) (h0 : Heap) (n0 : Nat) (O0 : Old Z n0 h0) (E_c0 : Exa Z h0 c0 "com/example/meter/meter/store/Spans") (F_c0_droppedTotal : Fld Z h0 c0 "com/example/meter/meter/store/Spans" "droppedTotal" "J" (.long (0 : Int64))) (F_c0_end : Fld Z h0 c0 "com/example/meter/meter/store/Spans" "end" "I" (.int (1 : Int32))) (F_c0_firsts : Fld Z h0 c0 "com/example/meter/meter/store/Spans" "firsts" "[J" (.ref c1)) (F_c0_head : Fld Z h0 c0 "com/example/meter/meter/store/Spans" "head" "I" (.int (0 : Int32))) (F_c0_lasts : Fld Z h0 c0 "com/example/meter/meter/store/Spans" "lasts" "[J" (.ref c2)) (F_c0_totals : Fld Z h0 c0 "com/example/meter/meter/store/Spans" "totals" "[J" (.ref c3)) (n_c0 : n0 ≤ c0) (V_c1 : Arv Z h0 c1 k_c1 .long (16 : Int32) [(.long y1), (.long (0 : Int64)), (.long (0 : Int64)), (.long (0 : Int64))] (.long (0 : Int64))) (n_c1 : n0 ≤ c1) (V_c2 : Arv Z h0 c2 k_c2 .long (16 : Int32) [(.long y1), (.long (0 : Int64)), (.long (0 : Int64)), (.long (0 : Int64))] (.long (0 : Int64))) (n_c2 : n0 ≤ c2) (V_c3 : Arv Z h0 c3 k_c3 .long (16 : Int32) [(.long (1 : Int64)), (.long (0 : Int64)), (.long (0 : Int64)), (.long (0 : Int64))] (.long (0 : Int64))) (n_c3 : n0 ≤ c3) (ne_c0_c1 : c0 ≠ c1) (ne_c0_c2 : c0 ≠ c2) (ne_c0_c3 : c0 ≠ c3) (ne_c1_c2 : c1 ≠ c2) (ne_c1_c3 : c1 ≠ c3) (ne_c2_c3 : c2 ≠ c3) (hc87 : ¬ (y0 < y1)) :
    MetFree l (⟨"com/example/meter/meter/store/Spans", "endsAfter", "(J)Z"⟩ : MethodName) (head1 (Jvm.Cond.code (⟨"com/example/meter/meter/store/Spans", "endsAfter", "(J)Z"⟩ : MethodName) prog_11_method_8_code 3 (some .boolean) :: ws) ({ frames := 0, cells := 0, slots := 0, locals := 0 } : Room)) (fun a U => a = #[(.ref c0), (.long y0)] ∧ Z.Warmed39 U.vm ∧ U.heap = h0) (fun _ _ _ _ _ => True) (fun _ U o U' => ∃ v L, o = .returned v ∧ own_Q (some (.int (0 : Int32))) n0 h0 v U'.heap L ∧ FrameEnd U o U' L ({ frames := 0, cells := 0, slots := 0, locals := 0 } : Room).cells ({ frames := 0, cells := 0, slots := 0, locals := 0 } : Room).slots) := by
  refine MetFree.of_bodySF (plainFor_of_name pn_0) hisR ?_
  intro p e s m args below meth c s₁ Bd hml0 hP hK
  obtain ⟨rfl, hZ, hh⟩ := hP
  have hx := Bd.exec
  have hby := Bd.bytes
  have hml : c.maxLocals = 3 := hml0
  have hlk := BodyLoose.notSynchronized Bd
  have hret := Bd.returns
  have hown : s.vm.findClass "com/example/meter/meter/store/Spans" = some m.cls := findClass_of_methodNamed Bd.named
  have hnm := (name_of_methodNamed Bd.named Bd.method).1
  have X0 : Stand p l e ({ frames := 0, cells := 0, slots := 0, locals := 0 } : Room) s m #[(.ref c0), (.long y0)] below meth c s₁ [] 0 0 := Stand.of_body Bd
  have e0 : s₁.heap = h0 := by rw [← hh, Bd.state]; rfl
  have N0 := Fr.nil n0
  rw [ef_5 m c0 y0]
  show Go p e below _ (s₁.setTop (mkF m 0 #[oA c0, oJ y0, oS] []))
  refine own_aload_n 1 X0 hx hby d5_0 rfl rfl rfl ?_
  refine own_getF 4 X0 hx hby hZ hown (own_w hw 30 rfl) e0 F_c0_head d5_1 rfl ?_
  intro T83 X83 e83
  refine own_aload_n 5 X83 hx hby d5_4 rfl rfl rfl ?_
  refine own_getF 8 X83 hx hby hZ hown (own_w hw 32 rfl) e83 F_c0_end d5_5 rfl ?_
  intro T84 X84 e84
  refine own_icN 11 X84 hx hby d5_8 rfl (by decide) ?_
  refine own_aload_n 12 X84 hx hby d5_11 rfl rfl rfl ?_
  refine own_getF 15 X84 hx hby hZ hown (own_w hw 21 rfl) e84 F_c0_lasts d5_12 rfl ?_
  intro T85 X85 e85
  refine own_aload_n 16 X85 hx hby d5_15 rfl rfl rfl ?_
  refine own_getF 19 X85 hx hby hZ hown (own_w hw 30 rfl) e85 F_c0_head d5_16 rfl ?_
  intro T86 X86 e86
  refine own_laload 20 (.long y1) X86 hx hby hZ e86 V_c2 d5_19 rfl (by decide) rfl ?_
  refine own_lload_n 21 X86 hx hby d5_20 rfl rfl ?_
  refine own_lcmp 22 (XT.cmpL y1 y0) X86 hx hby d5_21 rfl rfl ?_
  refine own_ifY 29 X86 hx hby d5_22 (by decide) (by decide) (own_fltL hc87).2.2.2 ?_
  refine own_iconst 30 (0 : Int32) X86 hx hby d5_29 rfl (by decide) ?_
  exact own_ret (Q := own_Q (some (.int (0 : Int32))) n0 h0) X86 hx hby hret hlk d5_30 rfl (Or.inl ⟨rfl, by simp, _, rfl⟩) (by decide) (by decide) ⟨rfl, N0, e86⟩
set_option maxRecDepth 65536 in
set_option maxHeartbeats 40000000 in
theorem rm11_17 (l : Launch) (Z : State) (a0 : Array Value) (hw : ∀ d ∈ tables_1, d.before a0 Z = true) (ws : List Jvm.Cond) (w_NONE k_NONE : Addr) (W : own_W Z w_NONE k_NONE) (c0 : Addr) (c1 : Addr) (k_c1 : ClassId) (c2 : Addr) (k_c2 : ClassId) (c3 : Addr) (k_c3 : ClassId) (y0 : Int64) (y1 : Int64) (h0 : Heap) (n0 : Nat) (O0 : Old Z n0 h0) (E_c0 : Exa Z h0 c0 "com/example/meter/meter/store/Spans") (F_c0_droppedTotal : Fld Z h0 c0 "com/example/meter/meter/store/Spans" "droppedTotal" "J" (.long (0 : Int64))) (F_c0_end : Fld Z h0 c0 "com/example/meter/meter/store/Spans" "end" "I" (.int (1 : Int32))) (F_c0_firsts : Fld Z h0 c0 "com/example/meter/meter/store/Spans" "firsts" "[J" (.ref c1)) (F_c0_head : Fld Z h0 c0 "com/example/meter/meter/store/Spans" "head" "I" (.int (0 : Int32))) (F_c0_lasts : Fld Z h0 c0 "com/example/meter/meter/store/Spans" "lasts" "[J" (.ref c2)) (F_c0_totals : Fld Z h0 c0 "com/example/meter/meter/store/Spans" "totals" "[J" (.ref c3)) (n_c0 : n0 ≤ c0) (V_c1 : Arv Z h0 c1 k_c1 .long (16 : Int32) [(.long y1), (.long (0 : Int64)), (.long (0 : Int64)), (.long (0 : Int64))] (.long (0 : Int64))) (n_c1 : n0 ≤ c1) (V_c2 : Arv Z h0 c2 k_c2 .long (16 : Int32) [(.long y1), (.long (0 : Int64)), (.long (0 : Int64)), (.long (0 : Int64))] (.long (0 : Int64))) (n_c2 : n0 ≤ c2) (V_c3 : Arv Z h0 c3 k_c3 .long (16 : Int32) [(.long (1 : Int64)), (.long (0 : Int64)), (.long (0 : Int64)), (.long (0 : Int64))] (.long (0 : Int64))) (n_c3 : n0 ≤ c3) (ne_c0_c1 : c0 ≠ c1) (ne_c0_c2 : c0 ≠ c2) (ne_c0_c3 : c0 ≠ c3) (ne_c1_c2 : c1 ≠ c2) (ne_c1_c3 : c1 ≠ c3) (ne_c2_c3 : c2 ≠ c3) (hc97 : y0 < y1) :
    MetFree l (⟨"com/example/meter/meter/store/Spans", "dropThrough", "(J)V"⟩ : MethodName) (head1 (Jvm.Cond.code (⟨"com/example/meter/meter/store/Spans", "dropThrough", "(J)V"⟩ : MethodName) prog_11_method_10_code 3 none :: ws) ({ frames := 0, cells := 0, slots := 0, locals := 0 } : Room)) (fun a U => a = #[(.ref c0), (.long y0)] ∧ Z.Warmed39 U.vm ∧ U.heap = h0) (fun _ _ _ _ _ => True) (fun _ U o U' => ∃ v L, o = .returned v ∧ own_Q none n0 h0 v U'.heap L ∧ FrameEnd U o U' L ({ frames := 0, cells := 0, slots := 0, locals := 0 } : Room).cells ({ frames := 0, cells := 0, slots := 0, locals := 0 } : Room).slots) := by
  refine MetFree.of_bodySF (plainFor_of_name pn_0) hisR ?_
  intro p e s m args below meth c s₁ Bd hml0 hP hK
  obtain ⟨rfl, hZ, hh⟩ := hP
  have hx := Bd.exec
  have hby := Bd.bytes
  have hml : c.maxLocals = 3 := hml0
  have hlk := BodyLoose.notSynchronized Bd
  have hret := Bd.returns
  have hown : s.vm.findClass "com/example/meter/meter/store/Spans" = some m.cls := findClass_of_methodNamed Bd.named
  have hnm := (name_of_methodNamed Bd.named Bd.method).1
  have X0 : Stand p l e ({ frames := 0, cells := 0, slots := 0, locals := 0 } : Room) s m #[(.ref c0), (.long y0)] below meth c s₁ [] 0 0 := Stand.of_body Bd
  have e0 : s₁.heap = h0 := by rw [← hh, Bd.state]; rfl
  have N0 := Fr.nil n0
  rw [ef_11 m c0 y0]
  show Go p e below _ (s₁.setTop (mkF m 0 #[oA c0, oJ y0, oS] []))
  refine own_aload_n 1 X0 hx hby d11_0 rfl rfl rfl ?_
  refine own_getF 4 X0 hx hby hZ hown (own_w hw 30 rfl) e0 F_c0_head d11_1 rfl ?_
  intro T93 X93 e93
  refine own_aload_n 5 X93 hx hby d11_4 rfl rfl rfl ?_
  refine own_getF 8 X93 hx hby hZ hown (own_w hw 32 rfl) e93 F_c0_end d11_5 rfl ?_
  intro T94 X94 e94
  refine own_icN 11 X94 hx hby d11_8 rfl (by decide) ?_
  refine own_aload_n 12 X94 hx hby d11_11 rfl rfl rfl ?_
  refine own_getF 15 X94 hx hby hZ hown (own_w hw 21 rfl) e94 F_c0_lasts d11_12 rfl ?_
  intro T95 X95 e95
  refine own_aload_n 16 X95 hx hby d11_15 rfl rfl rfl ?_
  refine own_getF 19 X95 hx hby hZ hown (own_w hw 30 rfl) e95 F_c0_head d11_16 rfl ?_
  intro T96 X96 e96
  refine own_laload 20 (.long y1) X96 hx hby hZ e96 V_c2 d11_19 rfl (by decide) rfl ?_
  refine own_lload_n 21 X96 hx hby d11_20 rfl rfl ?_
  refine own_lcmp 22 (XT.cmpL y1 y0) X96 hx hby d11_21 rfl rfl ?_
  refine own_ifY 51 X96 hx hby d11_22 (by decide) (by decide) (own_tltL hc97).2.2.1 ?_
  exact own_ret0 (Q := own_Q none n0 h0) X96 hx hby hret hlk d11_51 (by decide) (by decide) ⟨rfl, N0, e96⟩
def Q_rm11_18 (Z : State) (w_NONE k_NONE : Addr) (c0 : Addr) (c1 : Addr) (k_c1 : ClassId) (c2 : Addr) (k_c2 : ClassId) (c3 : Addr) (k_c3 : ClassId) (y0 : Int64) (y1 : Int64) (h0 : Heap) (n0 : Nat) (v : Option Value) (h : Heap) (L : List Loc) : Prop := v = none ∧ Fr n0 L ∧ Keep h0 h [c0] ∧ Exa Z h c0 "com/example/meter/meter/store/Spans" ∧ Fld Z h c0 "com/example/meter/meter/store/Spans" "droppedTotal" "J" (.long (1 : Int64)) ∧ Fld Z h c0 "com/example/meter/meter/store/Spans" "end" "I" (.int (1 : Int32)) ∧ Fld Z h c0 "com/example/meter/meter/store/Spans" "firsts" "[J" (.ref c1) ∧ Fld Z h c0 "com/example/meter/meter/store/Spans" "head" "I" (.int (1 : Int32)) ∧ Fld Z h c0 "com/example/meter/meter/store/Spans" "lasts" "[J" (.ref c2) ∧ Fld Z h c0 "com/example/meter/meter/store/Spans" "totals" "[J" (.ref c3) ∧ Arv Z h c1 k_c1 .long (16 : Int32) [(.long y1), (.long (0 : Int64)), (.long (0 : Int64)), (.long (0 : Int64))] (.long (0 : Int64)) ∧ Arv Z h c2 k_c2 .long (16 : Int32) [(.long y1), (.long (0 : Int64)), (.long (0 : Int64)), (.long (0 : Int64))] (.long (0 : Int64)) ∧ Arv Z h c3 k_c3 .long (16 : Int32) [(.long (1 : Int64)), (.long (0 : Int64)), (.long (0 : Int64)), (.long (0 : Int64))] (.long (0 : Int64))
set_option maxRecDepth 65536 in
set_option maxHeartbeats 40000000 in
theorem rm11_18 (l : Launch) (Z : State) (a0 : Array Value) (hw : ∀ d ∈ tables_1, d.before a0 Z = true) (ws : List Jvm.Cond) (w_NONE k_NONE : Addr) (W : own_W Z w_NONE k_NONE) (c0 : Addr) (c1 : Addr) (k_c1 : ClassId) (c2 : Addr) (k_c2 : ClassId) (c3 : Addr) (k_c3 : ClassId) (y0 : Int64) (y1 : Int64) (h0 : Heap) (n0 : Nat) (O0 : Old Z n0 h0) (E_c0 : Exa Z h0 c0 "com/example/meter/meter/store/Spans") (F_c0_droppedTotal : Fld Z h0 c0 "com/example/meter/meter/store/Spans" "droppedTotal" "J" (.long (0 : Int64))) (F_c0_end : Fld Z h0 c0 "com/example/meter/meter/store/Spans" "end" "I" (.int (1 : Int32))) (F_c0_firsts : Fld Z h0 c0 "com/example/meter/meter/store/Spans" "firsts" "[J" (.ref c1)) (F_c0_head : Fld Z h0 c0 "com/example/meter/meter/store/Spans" "head" "I" (.int (0 : Int32))) (F_c0_lasts : Fld Z h0 c0 "com/example/meter/meter/store/Spans" "lasts" "[J" (.ref c2)) (F_c0_totals : Fld Z h0 c0 "com/example/meter/meter/store/Spans" "totals" "[J" (.ref c3)) (n_c0 : n0 ≤ c0) (V_c1 : Arv Z h0 c1 k_c1 .long (16 : Int32) [(.long y1), (.long (0 : Int64)), (.long (0 : Int64)), (.long (0 : Int64))] (.long (0 : Int64))) (n_c1 : n0 ≤ c1) (V_c2 : Arv Z h0 c2 k_c2 .long (16 : Int32) [(.long y1), (.long (0 : Int64)), (.long (0 : Int64)), (.long (0 : Int64))] (.long (0 : Int64))) (n_c2 : n0 ≤ c2) (V_c3 : Arv Z h0 c3 k_c3 .long (16 : Int32) [(.long (1 : Int64)), (.long (0 : Int64)), (.long (0 : Int64)), (.long (0 : Int64))] (.long (0 : Int64))) (n_c3 : n0 ≤ c3) (ne_c0_c1 : c0 ≠ c1) (ne_c0_c2 : c0 ≠ c2) (ne_c0_c3 : c0 ≠ c3) (ne_c1_c2 : c1 ≠ c2) (ne_c1_c3 : c1 ≠ c3) (ne_c2_c3 : c2 ≠ c3) (hc97 : ¬ (y0 < y1)) :
    MetFree l (⟨"com/example/meter/meter/store/Spans", "dropThrough", "(J)V"⟩ : MethodName) (head1 (Jvm.Cond.code (⟨"com/example/meter/meter/store/Spans", "dropThrough", "(J)V"⟩ : MethodName) prog_11_method_10_code 3 none :: ws) ({ frames := 0, cells := 0, slots := 0, locals := 0 } : Room)) (fun a U => a = #[(.ref c0), (.long y0)] ∧ Z.Warmed39 U.vm ∧ U.heap = h0) (fun _ _ _ _ _ => True) (fun _ U o U' => ∃ v L, o = .returned v ∧ Q_rm11_18 Z w_NONE k_NONE c0 c1 k_c1 c2 k_c2 c3 k_c3 y0 y1 h0 n0 v U'.heap L ∧ FrameEnd U o U' L ({ frames := 0, cells := 0, slots := 0, locals := 0 } : Room).cells ({ frames := 0, cells := 0, slots := 0, locals := 0 } : Room).slots) := by
  refine MetFree.of_bodySF (plainFor_of_name pn_0) hisR ?_
  intro p e s m args below meth c s₁ Bd hml0 hP hK
  obtain ⟨rfl, hZ, hh⟩ := hP
  have hx := Bd.exec
  have hby := Bd.bytes
  have hml : c.maxLocals = 3 := hml0
  have hlk := BodyLoose.notSynchronized Bd
  have hret := Bd.returns
  have hown : s.vm.findClass "com/example/meter/meter/store/Spans" = some m.cls := findClass_of_methodNamed Bd.named
  have hnm := (name_of_methodNamed Bd.named Bd.method).1
  have X0 : Stand p l e ({ frames := 0, cells := 0, slots := 0, locals := 0 } : Room) s m #[(.ref c0), (.long y0)] below meth c s₁ [] 0 0 := Stand.of_body Bd
  have e0 : s₁.heap = h0 := by rw [← hh, Bd.state]; rfl
  have N0 := Fr.nil n0
  rw [ef_11 m c0 y0]
  show Go p e below _ (s₁.setTop (mkF m 0 #[oA c0, oJ y0, oS] []))
  refine own_aload_n 1 X0 hx hby d11_0 rfl rfl rfl ?_
  refine own_getF 4 X0 hx hby hZ hown (own_w hw 30 rfl) e0 F_c0_head d11_1 rfl ?_
  intro T93 X93 e93
  refine own_aload_n 5 X93 hx hby d11_4 rfl rfl rfl ?_
  refine own_getF 8 X93 hx hby hZ hown (own_w hw 32 rfl) e93 F_c0_end d11_5 rfl ?_
  intro T94 X94 e94
  refine own_icN 11 X94 hx hby d11_8 rfl (by decide) ?_
  refine own_aload_n 12 X94 hx hby d11_11 rfl rfl rfl ?_
  refine own_getF 15 X94 hx hby hZ hown (own_w hw 21 rfl) e94 F_c0_lasts d11_12 rfl ?_
  intro T95 X95 e95
  refine own_aload_n 16 X95 hx hby d11_15 rfl rfl rfl ?_
  refine own_getF 19 X95 hx hby hZ hown (own_w hw 30 rfl) e95 F_c0_head d11_16 rfl ?_
  intro T96 X96 e96
  refine own_laload 20 (.long y1) X96 hx hby hZ e96 V_c2 d11_19 rfl (by decide) rfl ?_
  refine own_lload_n 21 X96 hx hby d11_20 rfl rfl ?_
  refine own_lcmp 22 (XT.cmpL y1 y0) X96 hx hby d11_21 rfl rfl ?_
  refine own_ifN 25 X96 hx hby d11_22 rfl (own_fltL hc97).2.2.1 ?_
  refine own_aload_n 26 X96 hx hby d11_25 rfl rfl rfl ?_
  refine own_aload_n 27 X96 hx hby d11_26 rfl rfl rfl ?_
  refine own_getF 30 X96 hx hby hZ hown (own_w hw 23 rfl) e96 F_c0_totals d11_27 rfl ?_
  intro T98 X98 e98
  refine own_aload_n 31 X98 hx hby d11_30 rfl rfl rfl ?_
  refine own_getF 34 X98 hx hby hZ hown (own_w hw 30 rfl) e98 F_c0_head d11_31 rfl ?_
  intro T99 X99 e99
  refine own_laload 35 (.long (1 : Int64)) X99 hx hby hZ e99 V_c3 d11_34 rfl (by decide) rfl ?_
  refine own_putF 38 X99 hx hby hZ .long hown (own_w hw 59 rfl) e99 F_c0_droppedTotal E_c0 (Or.inl (own_w hw 60 rfl)) (own_w hw 9 rfl) (by decide) rfl rfl d11_35 rfl ?_
  intro T100 h100 X100 e100 W100
  have E_c0_100 := E_c0.wr W100
  have F_c0_droppedTotal_100 := F_c0_droppedTotal.same W100
  have F_c0_end_100 := F_c0_end.other W100 (Or.inr (slot_ne (Or.inl (own_w hw 33 rfl)) (Or.inl (own_w hw 60 rfl)) (by decide) (t := .int) (t' := .long) (by decide) (by decide)))
  have F_c0_firsts_100 := F_c0_firsts.other W100 (Or.inr (slot_ne (Or.inl (own_w hw 20 rfl)) (Or.inl (own_w hw 60 rfl)) (by decide) (t := (.array .long)) (t' := .long) (by decide) (by decide)))
  have F_c0_head_100 := F_c0_head.other W100 (Or.inr (slot_ne (Or.inl (own_w hw 31 rfl)) (Or.inl (own_w hw 60 rfl)) (by decide) (t := .int) (t' := .long) (by decide) (by decide)))
  have F_c0_lasts_100 := F_c0_lasts.other W100 (Or.inr (slot_ne (Or.inl (own_w hw 22 rfl)) (Or.inl (own_w hw 60 rfl)) (by decide) (t := (.array .long)) (t' := .long) (by decide) (by decide)))
  have F_c0_totals_100 := F_c0_totals.other W100 (Or.inr (slot_ne (Or.inl (own_w hw 24 rfl)) (Or.inl (own_w hw 60 rfl)) (by decide) (t := (.array .long)) (t' := .long) (by decide) (by decide)))
  have V_c1_100 := V_c1.other W100 (Ne.symm ne_c0_c1)
  have V_c2_100 := V_c2.other W100 (Ne.symm ne_c0_c2)
  have V_c3_100 := V_c3.other W100 (Ne.symm ne_c0_c3)
  have K100 : Keep h0 h100 [c0] := (Keep.refl h0 [c0]).wr W100 (Or.inl (List.mem_of_getElem? (i := 0) rfl))
  have O100 := O0.wr W100 n_c0
  have N100 := Fr.snoc X100 N0 n_c0
  refine own_aload_n 39 X100 hx hby d11_38 rfl rfl rfl ?_
  refine own_dup 40 X100 hx hby d11_39 rfl rfl ?_
  refine own_getF 43 X100 hx hby hZ hown (own_w hw 30 rfl) e100 F_c0_head_100 d11_40 rfl ?_
  intro T101 X101 e101
  refine own_iconst 44 (1 : Int32) X101 hx hby d11_43 rfl (by decide) ?_
  refine own_iadd 45 (1 : Int32) X101 hx hby d11_44 rfl (by decide) ?_
  refine own_putF 48 X101 hx hby hZ .int hown (own_w hw 30 rfl) e101 F_c0_head_100 E_c0_100 (Or.inl (own_w hw 31 rfl)) (own_w hw 9 rfl) (by decide) rfl rfl d11_45 rfl ?_
  intro T102 h102 X102 e102 W102
  have E_c0_102 := E_c0_100.wr W102
  have F_c0_droppedTotal_102 := F_c0_droppedTotal_100.other W102 (Or.inr (slot_ne (Or.inl (own_w hw 60 rfl)) (Or.inl (own_w hw 31 rfl)) (by decide) (t := .long) (t' := .int) (by decide) (by decide)))
  have F_c0_end_102 := F_c0_end_100.other W102 (Or.inr (slot_ne (Or.inl (own_w hw 33 rfl)) (Or.inl (own_w hw 31 rfl)) (by decide) (t := .int) (t' := .int) (by decide) (by decide)))
  have F_c0_firsts_102 := F_c0_firsts_100.other W102 (Or.inr (slot_ne (Or.inl (own_w hw 20 rfl)) (Or.inl (own_w hw 31 rfl)) (by decide) (t := (.array .long)) (t' := .int) (by decide) (by decide)))
  have F_c0_head_102 := F_c0_head_100.same W102
  have F_c0_lasts_102 := F_c0_lasts_100.other W102 (Or.inr (slot_ne (Or.inl (own_w hw 22 rfl)) (Or.inl (own_w hw 31 rfl)) (by decide) (t := (.array .long)) (t' := .int) (by decide) (by decide)))
  have F_c0_totals_102 := F_c0_totals_100.other W102 (Or.inr (slot_ne (Or.inl (own_w hw 24 rfl)) (Or.inl (own_w hw 31 rfl)) (by decide) (t := (.array .long)) (t' := .int) (by decide) (by decide)))
  have V_c1_102 := V_c1_100.other W102 (Ne.symm ne_c0_c1)
  have V_c2_102 := V_c2_100.other W102 (Ne.symm ne_c0_c2)
  have V_c3_102 := V_c3_100.other W102 (Ne.symm ne_c0_c3)
  have K102 : Keep h0 h102 [c0] := K100.wr W102 (Or.inl (List.mem_of_getElem? (i := 0) rfl))
  have O102 := O100.wr W102 n_c0
  have N102 := Fr.snoc X102 N100 n_c0
  refine own_goto 0 X102 hx hby d11_48 (by decide) (by decide) ?_
  refine own_aload_n 1 X102 hx hby d11_0 rfl rfl rfl ?_
  refine own_getF 4 X102 hx hby hZ hown (own_w hw 30 rfl) e102 F_c0_head_102 d11_1 rfl ?_
  intro T103 X103 e103
  refine own_aload_n 5 X103 hx hby d11_4 rfl rfl rfl ?_
  refine own_getF 8 X103 hx hby hZ hown (own_w hw 32 rfl) e103 F_c0_end_102 d11_5 rfl ?_
  intro T104 X104 e104
  refine own_icY 51 X104 hx hby d11_8 (by decide) (by decide) (by decide) ?_
  exact own_ret0 (Q := Q_rm11_18 Z w_NONE k_NONE c0 c1 k_c1 c2 k_c2 c3 k_c3 y0 y1 h0 n0) X104 hx hby hret hlk d11_51 (by decide) (by decide) (by rw [e104]; exact ⟨rfl, N102, K102, E_c0_102, F_c0_droppedTotal_102, F_c0_end_102, F_c0_firsts_102, F_c0_head_102, F_c0_lasts_102, F_c0_totals_102, V_c1_102, V_c2_102, V_c3_102⟩)
set_option maxRecDepth 65536 in
set_option maxHeartbeats 40000000 in
theorem rm5_19 (l : Launch) (Z : State) (a0 : Array Value) (hw : ∀ d ∈ tables_1, d.before a0 Z = true) (ws : List Jvm.Cond) (w_NONE k_NONE : Addr) (W : own_W Z w_NONE k_NONE) (c0 : Addr) (c1 : Addr) (k_c1 : ClassId) (c2 : Addr) (k_c2 : ClassId) (c3 : Addr) (k_c3 : ClassId) (y0 : Int64) (y1 : Int64) (h0 : Heap) (n0 : Nat) (O0 : Old Z n0 h0) (E_c0 : Exa Z h0 c0 "com/example/meter/meter/store/Spans") (F_c0_droppedTotal : Fld Z h0 c0 "com/example/meter/meter/store/Spans" "droppedTotal" "J" (.long (1 : Int64))) (F_c0_end : Fld Z h0 c0 "com/example/meter/meter/store/Spans" "end" "I" (.int (1 : Int32))) (F_c0_firsts : Fld Z h0 c0 "com/example/meter/meter/store/Spans" "firsts" "[J" (.ref c1)) (F_c0_head : Fld Z h0 c0 "com/example/meter/meter/store/Spans" "head" "I" (.int (1 : Int32))) (F_c0_lasts : Fld Z h0 c0 "com/example/meter/meter/store/Spans" "lasts" "[J" (.ref c2)) (F_c0_totals : Fld Z h0 c0 "com/example/meter/meter/store/Spans" "totals" "[J" (.ref c3)) (n_c0 : n0 ≤ c0) (V_c1 : Arv Z h0 c1 k_c1 .long (16 : Int32) [(.long y1), (.long (0 : Int64)), (.long (0 : Int64)), (.long (0 : Int64))] (.long (0 : Int64))) (n_c1 : n0 ≤ c1) (V_c2 : Arv Z h0 c2 k_c2 .long (16 : Int32) [(.long y1), (.long (0 : Int64)), (.long (0 : Int64)), (.long (0 : Int64))] (.long (0 : Int64))) (n_c2 : n0 ≤ c2) (V_c3 : Arv Z h0 c3 k_c3 .long (16 : Int32) [(.long (1 : Int64)), (.long (0 : Int64)), (.long (0 : Int64)), (.long (0 : Int64))] (.long (0 : Int64))) (n_c3 : n0 ≤ c3) (ne_c0_c1 : c0 ≠ c1) (ne_c0_c2 : c0 ≠ c2) (ne_c0_c3 : c0 ≠ c3) (ne_c1_c2 : c1 ≠ c2) (ne_c1_c3 : c1 ≠ c3) (ne_c2_c3 : c2 ≠ c3) :
    MetFree l (⟨"com/example/meter/meter/store/Spans", "endsAfter", "(J)Z"⟩ : MethodName) (head1 (Jvm.Cond.code (⟨"com/example/meter/meter/store/Spans", "endsAfter", "(J)Z"⟩ : MethodName) prog_11_method_8_code 3 (some .boolean) :: ws) ({ frames := 0, cells := 0, slots := 0, locals := 0 } : Room)) (fun a U => a = #[(.ref c0), (.long y0)] ∧ Z.Warmed39 U.vm ∧ U.heap = h0) (fun _ _ _ _ _ => True) (fun _ U o U' => ∃ v L, o = .returned v ∧ own_Q (some (.int (1 : Int32))) n0 h0 v U'.heap L ∧ FrameEnd U o U' L ({ frames := 0, cells := 0, slots := 0, locals := 0 } : Room).cells ({ frames := 0, cells := 0, slots := 0, locals := 0 } : Room).slots) := by
  refine MetFree.of_bodySF (plainFor_of_name pn_0) hisR ?_
  intro p e s m args below meth c s₁ Bd hml0 hP hK
  obtain ⟨rfl, hZ, hh⟩ := hP
  have hx := Bd.exec
  have hby := Bd.bytes
  have hml : c.maxLocals = 3 := hml0
  have hlk := BodyLoose.notSynchronized Bd
  have hret := Bd.returns
  have hown : s.vm.findClass "com/example/meter/meter/store/Spans" = some m.cls := findClass_of_methodNamed Bd.named
  have hnm := (name_of_methodNamed Bd.named Bd.method).1
  have X0 : Stand p l e ({ frames := 0, cells := 0, slots := 0, locals := 0 } : Room) s m #[(.ref c0), (.long y0)] below meth c s₁ [] 0 0 := Stand.of_body Bd
  have e0 : s₁.heap = h0 := by rw [← hh, Bd.state]; rfl
  have N0 := Fr.nil n0
  rw [ef_5 m c0 y0]
  show Go p e below _ (s₁.setTop (mkF m 0 #[oA c0, oJ y0, oS] []))
  refine own_aload_n 1 X0 hx hby d5_0 rfl rfl rfl ?_
  refine own_getF 4 X0 hx hby hZ hown (own_w hw 30 rfl) e0 F_c0_head d5_1 rfl ?_
  intro T111 X111 e111
  refine own_aload_n 5 X111 hx hby d5_4 rfl rfl rfl ?_
  refine own_getF 8 X111 hx hby hZ hown (own_w hw 32 rfl) e111 F_c0_end d5_5 rfl ?_
  intro T112 X112 e112
  refine own_icY 25 X112 hx hby d5_8 (by decide) (by decide) (by decide) ?_
  refine own_iconst 26 (1 : Int32) X112 hx hby d5_25 rfl (by decide) ?_
  refine own_goto 30 X112 hx hby d5_26 (by decide) (by decide) ?_
  exact own_ret (Q := own_Q (some (.int (1 : Int32))) n0 h0) X112 hx hby hret hlk d5_30 rfl (Or.inl ⟨rfl, by simp, _, rfl⟩) (by decide) (by decide) ⟨rfl, N0, e112⟩
set_option maxRecDepth 65536 in
set_option maxHeartbeats 40000000 in
theorem rm10_20 (l : Launch) (Z : State) (a0 : Array Value) (hw : ∀ d ∈ tables_1, d.before a0 Z = true) (ws : List Jvm.Cond) (w_NONE k_NONE : Addr) (W : own_W Z w_NONE k_NONE) (c0 : Addr) (c1 : Addr) (k_c1 : ClassId) (c2 : Addr) (k_c2 : ClassId) (c3 : Addr) (k_c3 : ClassId) (y0 : Int64) (y1 : Int64) (h0 : Heap) (n0 : Nat) (O0 : Old Z n0 h0) (E_c0 : Exa Z h0 c0 "com/example/meter/meter/store/Spans") (F_c0_droppedTotal : Fld Z h0 c0 "com/example/meter/meter/store/Spans" "droppedTotal" "J" (.long (0 : Int64))) (F_c0_end : Fld Z h0 c0 "com/example/meter/meter/store/Spans" "end" "I" (.int (1 : Int32))) (F_c0_firsts : Fld Z h0 c0 "com/example/meter/meter/store/Spans" "firsts" "[J" (.ref c1)) (F_c0_head : Fld Z h0 c0 "com/example/meter/meter/store/Spans" "head" "I" (.int (0 : Int32))) (F_c0_lasts : Fld Z h0 c0 "com/example/meter/meter/store/Spans" "lasts" "[J" (.ref c2)) (F_c0_totals : Fld Z h0 c0 "com/example/meter/meter/store/Spans" "totals" "[J" (.ref c3)) (n_c0 : n0 ≤ c0) (V_c1 : Arv Z h0 c1 k_c1 .long (16 : Int32) [(.long y0), (.long y1), (.long (0 : Int64)), (.long (0 : Int64))] (.long (0 : Int64))) (n_c1 : n0 ≤ c1) (V_c2 : Arv Z h0 c2 k_c2 .long (16 : Int32) [(.long y0), (.long y1), (.long (0 : Int64)), (.long (0 : Int64))] (.long (0 : Int64))) (n_c2 : n0 ≤ c2) (V_c3 : Arv Z h0 c3 k_c3 .long (16 : Int32) [(.long (1 : Int64)), (.long (0 : Int64)), (.long (0 : Int64)), (.long (0 : Int64))] (.long (0 : Int64))) (n_c3 : n0 ≤ c3) (ne_c0_c1 : c0 ≠ c1) (ne_c0_c2 : c0 ≠ c2) (ne_c0_c3 : c0 ≠ c3) (ne_c1_c2 : c1 ≠ c2) (ne_c1_c3 : c1 ≠ c3) (ne_c2_c3 : c2 ≠ c3) :
    MetFree l (⟨"com/example/meter/meter/store/Spans", "totalBefore", "(I)J"⟩ : MethodName) (head1 (Jvm.Cond.code (⟨"com/example/meter/meter/store/Spans", "totalBefore", "(I)J"⟩ : MethodName) prog_11_method_14_code 2 (some .long) :: ws) ({ frames := 0, cells := 0, slots := 0, locals := 0 } : Room)) (fun a U => a = #[(.ref c0), (.int (1 : Int32))] ∧ Z.Warmed39 U.vm ∧ U.heap = h0) (fun _ _ _ _ _ => True) (fun _ U o U' => ∃ v L, o = .returned v ∧ own_Q (some (.long (1 : Int64))) n0 h0 v U'.heap L ∧ FrameEnd U o U' L ({ frames := 0, cells := 0, slots := 0, locals := 0 } : Room).cells ({ frames := 0, cells := 0, slots := 0, locals := 0 } : Room).slots) := by
  refine MetFree.of_bodySF (plainFor_of_name pn_0) hisR ?_
  intro p e s m args below meth c s₁ Bd hml0 hP hK
  obtain ⟨rfl, hZ, hh⟩ := hP
  have hx := Bd.exec
  have hby := Bd.bytes
  have hml : c.maxLocals = 2 := hml0
  have hlk := BodyLoose.notSynchronized Bd
  have hret := Bd.returns
  have hown : s.vm.findClass "com/example/meter/meter/store/Spans" = some m.cls := findClass_of_methodNamed Bd.named
  have hnm := (name_of_methodNamed Bd.named Bd.method).1
  have X0 : Stand p l e ({ frames := 0, cells := 0, slots := 0, locals := 0 } : Room) s m #[(.ref c0), (.int (1 : Int32))] below meth c s₁ [] 0 0 := Stand.of_body Bd
  have e0 : s₁.heap = h0 := by rw [← hh, Bd.state]; rfl
  have N0 := Fr.nil n0
  rw [ef_10 m c0 (1 : Int32)]
  show Go p e below _ (s₁.setTop (mkF m 0 #[oA c0, oI (1 : Int32)] []))
  refine own_iload_n 1 X0 hx hby d10_0 rfl rfl ?_
  refine own_aload_n 2 X0 hx hby d10_1 rfl rfl rfl ?_
  refine own_getF 5 X0 hx hby hZ hown (own_w hw 30 rfl) e0 F_c0_head d10_2 rfl ?_
  intro T130 X130 e130
  refine own_icY 15 X130 hx hby d10_5 (by decide) (by decide) (by decide) ?_
  refine own_aload_n 16 X130 hx hby d10_15 rfl rfl rfl ?_
  refine own_getF 19 X130 hx hby hZ hown (own_w hw 23 rfl) e130 F_c0_totals d10_16 rfl ?_
  intro T131 X131 e131
  refine own_iload_n 20 X131 hx hby d10_19 rfl rfl ?_
  refine own_iconst 21 (1 : Int32) X131 hx hby d10_20 rfl (by decide) ?_
  refine own_isub 22 (0 : Int32) X131 hx hby d10_21 rfl (by decide) ?_
  refine own_laload 23 (.long (1 : Int64)) X131 hx hby hZ e131 V_c3 d10_22 rfl (by decide) rfl ?_
  exact own_ret (Q := own_Q (some (.long (1 : Int64))) n0 h0) X131 hx hby hret hlk d10_23 rfl (Or.inr (Or.inl ⟨rfl, rfl, _, rfl⟩)) (by decide) (by decide) ⟨rfl, N0, e131⟩
def Q_rm6_21 (Z : State) (w_NONE k_NONE : Addr) (c0 : Addr) (c1 : Addr) (k_c1 : ClassId) (c2 : Addr) (k_c2 : ClassId) (c3 : Addr) (k_c3 : ClassId) (y0 : Int64) (y1 : Int64) (h0 : Heap) (n0 : Nat) (v : Option Value) (h : Heap) (L : List Loc) : Prop := v = none ∧ Fr n0 L ∧ Keep h0 h [c1, c2, c3, c0] ∧ Exa Z h c0 "com/example/meter/meter/store/Spans" ∧ Fld Z h c0 "com/example/meter/meter/store/Spans" "droppedTotal" "J" (.long (0 : Int64)) ∧ Fld Z h c0 "com/example/meter/meter/store/Spans" "end" "I" (.int (2 : Int32)) ∧ Fld Z h c0 "com/example/meter/meter/store/Spans" "firsts" "[J" (.ref c1) ∧ Fld Z h c0 "com/example/meter/meter/store/Spans" "head" "I" (.int (0 : Int32)) ∧ Fld Z h c0 "com/example/meter/meter/store/Spans" "lasts" "[J" (.ref c2) ∧ Fld Z h c0 "com/example/meter/meter/store/Spans" "totals" "[J" (.ref c3) ∧ Arv Z h c1 k_c1 .long (16 : Int32) [(.long y1), (.long y0), (.long (0 : Int64)), (.long (0 : Int64))] (.long (0 : Int64)) ∧ Arv Z h c2 k_c2 .long (16 : Int32) [(.long y1), (.long y0), (.long (0 : Int64)), (.long (0 : Int64))] (.long (0 : Int64)) ∧ Arv Z h c3 k_c3 .long (16 : Int32) [(.long (1 : Int64)), (.long (2 : Int64)), (.long (0 : Int64)), (.long (0 : Int64))] (.long (0 : Int64))
set_option maxRecDepth 65536 in
set_option maxHeartbeats 40000000 in
theorem rm6_21 (l : Launch) (Z : State) (a0 : Array Value) (hw : ∀ d ∈ tables_1, d.before a0 Z = true) (ws : List Jvm.Cond) (w_NONE k_NONE : Addr) (W : own_W Z w_NONE k_NONE) (c0 : Addr) (c1 : Addr) (k_c1 : ClassId) (c2 : Addr) (k_c2 : ClassId) (c3 : Addr) (k_c3 : ClassId) (y0 : Int64) (y1 : Int64) (h0 : Heap) (n0 : Nat) (O0 : Old Z n0 h0) (E_c0 : Exa Z h0 c0 "com/example/meter/meter/store/Spans") (F_c0_droppedTotal : Fld Z h0 c0 "com/example/meter/meter/store/Spans" "droppedTotal" "J" (.long (0 : Int64))) (F_c0_end : Fld Z h0 c0 "com/example/meter/meter/store/Spans" "end" "I" (.int (1 : Int32))) (F_c0_firsts : Fld Z h0 c0 "com/example/meter/meter/store/Spans" "firsts" "[J" (.ref c1)) (F_c0_head : Fld Z h0 c0 "com/example/meter/meter/store/Spans" "head" "I" (.int (0 : Int32))) (F_c0_lasts : Fld Z h0 c0 "com/example/meter/meter/store/Spans" "lasts" "[J" (.ref c2)) (F_c0_totals : Fld Z h0 c0 "com/example/meter/meter/store/Spans" "totals" "[J" (.ref c3)) (n_c0 : n0 ≤ c0) (V_c1 : Arv Z h0 c1 k_c1 .long (16 : Int32) [(.long y1), (.long (0 : Int64)), (.long (0 : Int64)), (.long (0 : Int64))] (.long (0 : Int64))) (n_c1 : n0 ≤ c1) (V_c2 : Arv Z h0 c2 k_c2 .long (16 : Int32) [(.long y1), (.long (0 : Int64)), (.long (0 : Int64)), (.long (0 : Int64))] (.long (0 : Int64))) (n_c2 : n0 ≤ c2) (V_c3 : Arv Z h0 c3 k_c3 .long (16 : Int32) [(.long (1 : Int64)), (.long (0 : Int64)), (.long (0 : Int64)), (.long (0 : Int64))] (.long (0 : Int64))) (n_c3 : n0 ≤ c3) (ne_c0_c1 : c0 ≠ c1) (ne_c0_c2 : c0 ≠ c2) (ne_c0_c3 : c0 ≠ c3) (ne_c1_c2 : c1 ≠ c2) (ne_c1_c3 : c1 ≠ c3) (ne_c2_c3 : c2 ≠ c3) :
    MetFree l (⟨"com/example/meter/meter/store/Spans", "append", "(JJ)V"⟩ : MethodName) (head1 (Jvm.Cond.code (⟨"com/example/meter/meter/store/Spans", "append", "(JJ)V"⟩ : MethodName) prog_11_method_9_code 5 none :: ws) ({ frames := 1, cells := 0, slots := 0, locals := 15 } : Room)) (fun a U => a = #[(.ref c0), (.long y0), (.long (1 : Int64))] ∧ Z.Warmed39 U.vm ∧ U.heap = h0) (fun _ _ _ _ _ => True) (fun _ U o U' => ∃ v L, o = .returned v ∧ Q_rm6_21 Z w_NONE k_NONE c0 c1 k_c1 c2 k_c2 c3 k_c3 y0 y1 h0 n0 v U'.heap L ∧ FrameEnd U o U' L ({ frames := 1, cells := 0, slots := 0, locals := 15 } : Room).cells ({ frames := 1, cells := 0, slots := 0, locals := 15 } : Room).slots) := by
  refine MetFree.of_bodySF (plainFor_of_name pn_0) hisR ?_
  intro p e s m args below meth c s₁ Bd hml0 hP hK
  obtain ⟨rfl, hZ, hh⟩ := hP
  have hx := Bd.exec
  have hby := Bd.bytes
  have hml : c.maxLocals = 5 := hml0
  have hlk := BodyLoose.notSynchronized Bd
  have hret := Bd.returns
  have hown : s.vm.findClass "com/example/meter/meter/store/Spans" = some m.cls := findClass_of_methodNamed Bd.named
  have hnm := (name_of_methodNamed Bd.named Bd.method).1
  have X0 : Stand p l e ({ frames := 1, cells := 0, slots := 0, locals := 15 } : Room) s m #[(.ref c0), (.long y0), (.long (1 : Int64))] below meth c s₁ [] 0 0 := Stand.of_body Bd
  have e0 : s₁.heap = h0 := by rw [← hh, Bd.state]; rfl
  have N0 := Fr.nil n0
  rw [ef_6 m c0 y0 (1 : Int64)]
  show Go p e below _ (s₁.setTop (mkF m 0 #[oA c0, oJ y0, oS, oJ (1 : Int64), oS] []))
  refine own_aload_n 1 X0 hx hby d6_0 rfl rfl rfl ?_
  refine own_getF 4 X0 hx hby hZ hown (own_w hw 32 rfl) e0 F_c0_end d6_1 rfl ?_
  intro T119 X119 e119
  refine own_aload_n 5 X119 hx hby d6_4 rfl rfl rfl ?_
  refine own_getF 8 X119 hx hby hZ hown (own_w hw 21 rfl) e119 F_c0_lasts d6_5 rfl ?_
  intro T120 X120 e120
  refine own_len 9 X120 hx hby hZ e120 V_c2 d6_8 rfl ?_
  refine own_icY 16 X120 hx hby d6_9 (by decide) (by decide) (by decide) ?_
  refine own_aload_n 17 X120 hx hby d6_16 rfl rfl rfl ?_
  refine own_getF 20 X120 hx hby hZ hown (own_w hw 19 rfl) e120 F_c0_firsts d6_17 rfl ?_
  intro T121 X121 e121
  refine own_aload_n 21 X121 hx hby d6_20 rfl rfl rfl ?_
  refine own_getF 24 X121 hx hby hZ hown (own_w hw 32 rfl) e121 F_c0_end d6_21 rfl ?_
  intro T122 X122 e122
  refine own_lload_n 25 X122 hx hby d6_24 rfl rfl ?_
  refine own_stJ 26 1 X122 hx hby hZ e122 V_c1 d6_25 rfl (by decide) (by decide) (Nat.le_of_ble_eq_true rfl) ?_
  intro T123 h123 X123 e123 W123 V123
  have V123 : Arv Z h123 c1 k_c1 .long (16 : Int32) [(.long y1), (.long y0), (.long (0 : Int64)), (.long (0 : Int64))] (.long (0 : Int64)) := V123
  have E_c0_123 := E_c0.wr W123
  have F_c0_droppedTotal_123 := F_c0_droppedTotal.other W123 (Or.inl ne_c0_c1)
  have F_c0_end_123 := F_c0_end.other W123 (Or.inl ne_c0_c1)
  have F_c0_firsts_123 := F_c0_firsts.other W123 (Or.inl ne_c0_c1)
  have F_c0_head_123 := F_c0_head.other W123 (Or.inl ne_c0_c1)
  have F_c0_lasts_123 := F_c0_lasts.other W123 (Or.inl ne_c0_c1)
  have F_c0_totals_123 := F_c0_totals.other W123 (Or.inl ne_c0_c1)
  have V_c2_123 := V_c2.other W123 (Ne.symm ne_c1_c2)
  have V_c3_123 := V_c3.other W123 (Ne.symm ne_c1_c3)
  have K123 : Keep h0 h123 [c1, c2, c3, c0] := (Keep.refl h0 [c1, c2, c3, c0]).wr W123 (Or.inl (List.mem_of_getElem? (i := 0) rfl))
  have O123 := O0.wr W123 n_c1
  have N123 := Fr.snoc X123 N0 n_c1
  refine own_aload_n 27 X123 hx hby d6_26 rfl rfl rfl ?_
  refine own_getF 30 X123 hx hby hZ hown (own_w hw 21 rfl) e123 F_c0_lasts_123 d6_27 rfl ?_
  intro T124 X124 e124
  refine own_aload_n 31 X124 hx hby d6_30 rfl rfl rfl ?_
  refine own_getF 34 X124 hx hby hZ hown (own_w hw 32 rfl) e124 F_c0_end_123 d6_31 rfl ?_
  intro T125 X125 e125
  refine own_lload_n 35 X125 hx hby d6_34 rfl rfl ?_
  refine own_stJ 36 1 X125 hx hby hZ e125 V_c2_123 d6_35 rfl (by decide) (by decide) (Nat.le_of_ble_eq_true rfl) ?_
  intro T126 h126 X126 e126 W126 V126
  have V126 : Arv Z h126 c2 k_c2 .long (16 : Int32) [(.long y1), (.long y0), (.long (0 : Int64)), (.long (0 : Int64))] (.long (0 : Int64)) := V126
  have E_c0_126 := E_c0_123.wr W126
  have F_c0_droppedTotal_126 := F_c0_droppedTotal_123.other W126 (Or.inl ne_c0_c2)
  have F_c0_end_126 := F_c0_end_123.other W126 (Or.inl ne_c0_c2)
  have F_c0_firsts_126 := F_c0_firsts_123.other W126 (Or.inl ne_c0_c2)
  have F_c0_head_126 := F_c0_head_123.other W126 (Or.inl ne_c0_c2)
  have F_c0_lasts_126 := F_c0_lasts_123.other W126 (Or.inl ne_c0_c2)
  have F_c0_totals_126 := F_c0_totals_123.other W126 (Or.inl ne_c0_c2)
  have V_c1_126 := V123.other W126 ne_c1_c2
  have V_c3_126 := V_c3_123.other W126 (Ne.symm ne_c2_c3)
  have K126 : Keep h0 h126 [c1, c2, c3, c0] := K123.wr W126 (Or.inl (List.mem_of_getElem? (i := 1) rfl))
  have O126 := O123.wr W126 n_c2
  have N126 := Fr.snoc X126 N123 n_c2
  refine own_aload_n 37 X126 hx hby d6_36 rfl rfl rfl ?_
  refine own_getF 40 X126 hx hby hZ hown (own_w hw 23 rfl) e126 F_c0_totals_126 d6_37 rfl ?_
  intro T127 X127 e127
  refine own_aload_n 41 X127 hx hby d6_40 rfl rfl rfl ?_
  refine own_getF 44 X127 hx hby hZ hown (own_w hw 32 rfl) e127 F_c0_end_126 d6_41 rfl ?_
  intro T128 X128 e128
  refine own_aload_n 45 X128 hx hby d6_44 rfl rfl rfl ?_
  refine own_aload_n 46 X128 hx hby d6_45 rfl rfl rfl ?_
  refine own_getF 49 X128 hx hby hZ hown (own_w hw 32 rfl) e128 F_c0_end_126 d6_46 rfl ?_
  intro T129 X129 e129
  refine own_priv (W := 2) 52 (rm10_20 l Z a0 hw [] w_NONE k_NONE W c0 c1 k_c1 c2 k_c2 c3 k_c3 y1 y0 h126 n0 O126 E_c0_126 F_c0_droppedTotal_126 F_c0_end_126 F_c0_firsts_126 F_c0_head_126 F_c0_lasts_126 F_c0_totals_126 n_c0 V_c1_126 n_c1 V126 n_c2 V_c3_126 n_c3 ne_c0_c1 ne_c0_c2 ne_c0_c3 ne_c1_c2 ne_c1_c3 ne_c2_c3) X129 hx hby hZ hown (own_w hw 55 rfl) (own_w hw 56 rfl) (own_w hw 57 rfl) (own_w hw 28 rfl) (own_w hw 10 rfl) (own_w hw 58 rfl) rfl (by decide) (by rw [hml]; rfl) c0 [(.int (1 : Int32))] [(.int (1 : Int32)), (.ref c3)] pd_6 rfl d6_49 rfl e129 E_c0_126 rfl rfl rfl (by decide) (by decide) (by decide) (by decide) ?_
  rintro _ T132 L132 X132 ⟨rfl, N132, e132⟩
  have N132 := Fr.app N126 N132
  show Go p e below _ (T132.setTop (mkF m 52 _ [(.long (1 : Int64)), (.int (1 : Int32)), (.ref c3)]))
  refine own_lload_n 53 X132 hx hby d6_52 rfl rfl ?_
  refine own_ladd 54 (2 : Int64) X132 hx hby d6_53 rfl (by decide) ?_
  refine own_stJ 55 1 X132 hx hby hZ e132 V_c3_126 d6_54 rfl (by decide) (by decide) (Nat.le_of_ble_eq_true rfl) ?_
  intro T133 h133 X133 e133 W133 V133
  have V133 : Arv Z h133 c3 k_c3 .long (16 : Int32) [(.long (1 : Int64)), (.long (2 : Int64)), (.long (0 : Int64)), (.long (0 : Int64))] (.long (0 : Int64)) := V133
  have E_c0_133 := E_c0_126.wr W133
  have F_c0_droppedTotal_133 := F_c0_droppedTotal_126.other W133 (Or.inl ne_c0_c3)
  have F_c0_end_133 := F_c0_end_126.other W133 (Or.inl ne_c0_c3)
  have F_c0_firsts_133 := F_c0_firsts_126.other W133 (Or.inl ne_c0_c3)
  have F_c0_head_133 := F_c0_head_126.other W133 (Or.inl ne_c0_c3)
  have F_c0_lasts_133 := F_c0_lasts_126.other W133 (Or.inl ne_c0_c3)
  have F_c0_totals_133 := F_c0_totals_126.other W133 (Or.inl ne_c0_c3)
  have V_c1_133 := V_c1_126.other W133 ne_c1_c3
  have V_c2_133 := V126.other W133 ne_c2_c3
  have K133 : Keep h0 h133 [c1, c2, c3, c0] := K126.wr W133 (Or.inl (List.mem_of_getElem? (i := 2) rfl))
  have O133 := O126.wr W133 n_c3
  have N133 := Fr.snoc X133 N132 n_c3
  refine own_aload_n 56 X133 hx hby d6_55 rfl rfl rfl ?_
  refine own_dup 57 X133 hx hby d6_56 rfl rfl ?_
  refine own_getF 60 X133 hx hby hZ hown (own_w hw 32 rfl) e133 F_c0_end_133 d6_57 rfl ?_
  intro T134 X134 e134
  refine own_iconst 61 (1 : Int32) X134 hx hby d6_60 rfl (by decide) ?_
  refine own_iadd 62 (2 : Int32) X134 hx hby d6_61 rfl (by decide) ?_
  refine own_putF 65 X134 hx hby hZ .int hown (own_w hw 32 rfl) e134 F_c0_end_133 E_c0_133 (Or.inl (own_w hw 33 rfl)) (own_w hw 9 rfl) (by decide) rfl rfl d6_62 rfl ?_
  intro T135 h135 X135 e135 W135
  have E_c0_135 := E_c0_133.wr W135
  have F_c0_droppedTotal_135 := F_c0_droppedTotal_133.other W135 (Or.inr (slot_ne (Or.inl (own_w hw 60 rfl)) (Or.inl (own_w hw 33 rfl)) (by decide) (t := .long) (t' := .int) (by decide) (by decide)))
  have F_c0_end_135 := F_c0_end_133.same W135
  have F_c0_firsts_135 := F_c0_firsts_133.other W135 (Or.inr (slot_ne (Or.inl (own_w hw 20 rfl)) (Or.inl (own_w hw 33 rfl)) (by decide) (t := (.array .long)) (t' := .int) (by decide) (by decide)))
  have F_c0_head_135 := F_c0_head_133.other W135 (Or.inr (slot_ne (Or.inl (own_w hw 31 rfl)) (Or.inl (own_w hw 33 rfl)) (by decide) (t := .int) (t' := .int) (by decide) (by decide)))
  have F_c0_lasts_135 := F_c0_lasts_133.other W135 (Or.inr (slot_ne (Or.inl (own_w hw 22 rfl)) (Or.inl (own_w hw 33 rfl)) (by decide) (t := (.array .long)) (t' := .int) (by decide) (by decide)))
  have F_c0_totals_135 := F_c0_totals_133.other W135 (Or.inr (slot_ne (Or.inl (own_w hw 24 rfl)) (Or.inl (own_w hw 33 rfl)) (by decide) (t := (.array .long)) (t' := .int) (by decide) (by decide)))
  have V_c1_135 := V_c1_133.other W135 (Ne.symm ne_c0_c1)
  have V_c2_135 := V_c2_133.other W135 (Ne.symm ne_c0_c2)
  have V_c3_135 := V133.other W135 (Ne.symm ne_c0_c3)
  have K135 : Keep h0 h135 [c1, c2, c3, c0] := K133.wr W135 (Or.inl (List.mem_of_getElem? (i := 3) rfl))
  have O135 := O133.wr W135 n_c0
  have N135 := Fr.snoc X135 N133 n_c0
  exact own_ret0 (Q := Q_rm6_21 Z w_NONE k_NONE c0 c1 k_c1 c2 k_c2 c3 k_c3 y0 y1 h0 n0) X135 hx hby hret hlk d6_65 (by decide) (by decide) (by rw [e135]; exact ⟨rfl, N135, K135, E_c0_135, F_c0_droppedTotal_135, F_c0_end_135, F_c0_firsts_135, F_c0_head_135, F_c0_lasts_135, F_c0_totals_135, V_c1_135, V_c2_135, V_c3_135⟩)
set_option maxRecDepth 65536 in
set_option maxHeartbeats 40000000 in
theorem rm5_22 (l : Launch) (Z : State) (a0 : Array Value) (hw : ∀ d ∈ tables_1, d.before a0 Z = true) (ws : List Jvm.Cond) (w_NONE k_NONE : Addr) (W : own_W Z w_NONE k_NONE) (c0 : Addr) (c1 : Addr) (k_c1 : ClassId) (c2 : Addr) (k_c2 : ClassId) (c3 : Addr) (k_c3 : ClassId) (y0 : Int64) (y1 : Int64) (y2 : Int64) (h0 : Heap) (n0 : Nat) (O0 : Old Z n0 h0) (E_c0 : Exa Z h0 c0 "com/example/meter/meter/store/Spans") (F_c0_droppedTotal : Fld Z h0 c0 "com/example/meter/meter/store/Spans" "droppedTotal" "J" (.long (0 : Int64))) (F_c0_end : Fld Z h0 c0 "com/example/meter/meter/store/Spans" "end" "I" (.int (2 : Int32))) (F_c0_firsts : Fld Z h0 c0 "com/example/meter/meter/store/Spans" "firsts" "[J" (.ref c1)) (F_c0_head : Fld Z h0 c0 "com/example/meter/meter/store/Spans" "head" "I" (.int (0 : Int32))) (F_c0_lasts : Fld Z h0 c0 "com/example/meter/meter/store/Spans" "lasts" "[J" (.ref c2)) (F_c0_totals : Fld Z h0 c0 "com/example/meter/meter/store/Spans" "totals" "[J" (.ref c3)) (n_c0 : n0 ≤ c0) (V_c1 : Arv Z h0 c1 k_c1 .long (16 : Int32) [(.long y1), (.long y2), (.long (0 : Int64)), (.long (0 : Int64))] (.long (0 : Int64))) (n_c1 : n0 ≤ c1) (V_c2 : Arv Z h0 c2 k_c2 .long (16 : Int32) [(.long y1), (.long y2), (.long (0 : Int64)), (.long (0 : Int64))] (.long (0 : Int64))) (n_c2 : n0 ≤ c2) (V_c3 : Arv Z h0 c3 k_c3 .long (16 : Int32) [(.long (1 : Int64)), (.long (2 : Int64)), (.long (0 : Int64)), (.long (0 : Int64))] (.long (0 : Int64))) (n_c3 : n0 ≤ c3) (ne_c0_c1 : c0 ≠ c1) (ne_c0_c2 : c0 ≠ c2) (ne_c0_c3 : c0 ≠ c3) (ne_c1_c2 : c1 ≠ c2) (ne_c1_c3 : c1 ≠ c3) (ne_c2_c3 : c2 ≠ c3) (hc142 : y0 < y1) :
    MetFree l (⟨"com/example/meter/meter/store/Spans", "endsAfter", "(J)Z"⟩ : MethodName) (head1 (Jvm.Cond.code (⟨"com/example/meter/meter/store/Spans", "endsAfter", "(J)Z"⟩ : MethodName) prog_11_method_8_code 3 (some .boolean) :: ws) ({ frames := 0, cells := 0, slots := 0, locals := 0 } : Room)) (fun a U => a = #[(.ref c0), (.long y0)] ∧ Z.Warmed39 U.vm ∧ U.heap = h0) (fun _ _ _ _ _ => True) (fun _ U o U' => ∃ v L, o = .returned v ∧ own_Q (some (.int (1 : Int32))) n0 h0 v U'.heap L ∧ FrameEnd U o U' L ({ frames := 0, cells := 0, slots := 0, locals := 0 } : Room).cells ({ frames := 0, cells := 0, slots := 0, locals := 0 } : Room).slots) := by
  refine MetFree.of_bodySF (plainFor_of_name pn_0) hisR ?_
  intro p e s m args below meth c s₁ Bd hml0 hP hK
  obtain ⟨rfl, hZ, hh⟩ := hP
  have hx := Bd.exec
  have hby := Bd.bytes
  have hml : c.maxLocals = 3 := hml0
  have hlk := BodyLoose.notSynchronized Bd
  have hret := Bd.returns
  have hown : s.vm.findClass "com/example/meter/meter/store/Spans" = some m.cls := findClass_of_methodNamed Bd.named
  have hnm := (name_of_methodNamed Bd.named Bd.method).1
  have X0 : Stand p l e ({ frames := 0, cells := 0, slots := 0, locals := 0 } : Room) s m #[(.ref c0), (.long y0)] below meth c s₁ [] 0 0 := Stand.of_body Bd
  have e0 : s₁.heap = h0 := by rw [← hh, Bd.state]; rfl
  have N0 := Fr.nil n0
  rw [ef_5 m c0 y0]
  show Go p e below _ (s₁.setTop (mkF m 0 #[oA c0, oJ y0, oS] []))
  refine own_aload_n 1 X0 hx hby d5_0 rfl rfl rfl ?_
  refine own_getF 4 X0 hx hby hZ hown (own_w hw 30 rfl) e0 F_c0_head d5_1 rfl ?_
  intro T138 X138 e138
  refine own_aload_n 5 X138 hx hby d5_4 rfl rfl rfl ?_
  refine own_getF 8 X138 hx hby hZ hown (own_w hw 32 rfl) e138 F_c0_end d5_5 rfl ?_
  intro T139 X139 e139
  refine own_icN 11 X139 hx hby d5_8 rfl (by decide) ?_
  refine own_aload_n 12 X139 hx hby d5_11 rfl rfl rfl ?_
  refine own_getF 15 X139 hx hby hZ hown (own_w hw 21 rfl) e139 F_c0_lasts d5_12 rfl ?_
  intro T140 X140 e140
  refine own_aload_n 16 X140 hx hby d5_15 rfl rfl rfl ?_
  refine own_getF 19 X140 hx hby hZ hown (own_w hw 30 rfl) e140 F_c0_head d5_16 rfl ?_
  intro T141 X141 e141
  refine own_laload 20 (.long y1) X141 hx hby hZ e141 V_c2 d5_19 rfl (by decide) rfl ?_
  refine own_lload_n 21 X141 hx hby d5_20 rfl rfl ?_
  refine own_lcmp 22 (XT.cmpL y1 y0) X141 hx hby d5_21 rfl rfl ?_
  refine own_ifN 25 X141 hx hby d5_22 rfl (own_tltL hc142).2.2.2 ?_
  refine own_iconst 26 (1 : Int32) X141 hx hby d5_25 rfl (by decide) ?_
  refine own_goto 30 X141 hx hby d5_26 (by decide) (by decide) ?_
  exact own_ret (Q := own_Q (some (.int (1 : Int32))) n0 h0) X141 hx hby hret hlk d5_30 rfl (Or.inl ⟨rfl, by simp, _, rfl⟩) (by decide) (by decide) ⟨rfl, N0, e141⟩
set_option maxRecDepth 65536 in
set_option maxHeartbeats 40000000 in
theorem rm5_23 (l : Launch) (Z : State) (a0 : Array Value) (hw : ∀ d ∈ tables_1, d.before a0 Z = true) (ws : List Jvm.Cond) (w_NONE k_NONE : Addr) (W : own_W Z w_NONE k_NONE) (c0 : Addr) (c1 : Addr) (k_c1 : ClassId) (c2 : Addr) (k_c2 : ClassId) (c3 : Addr) (k_c3 : ClassId) (y0 : Int64) (y1 : Int64) (y2 : Int64) (h0 : Heap) (n0 : Nat) (O0 : Old Z n0 h0) (E_c0 : Exa Z h0 c0 "com/example/meter/meter/store/Spans") (F_c0_droppedTotal : Fld Z h0 c0 "com/example/meter/meter/store/Spans" "droppedTotal" "J" (.long (0 : Int64))) (F_c0_end : Fld Z h0 c0 "com/example/meter/meter/store/Spans" "end" "I" (.int (2 : Int32))) (F_c0_firsts : Fld Z h0 c0 "com/example/meter/meter/store/Spans" "firsts" "[J" (.ref c1)) (F_c0_head : Fld Z h0 c0 "com/example/meter/meter/store/Spans" "head" "I" (.int (0 : Int32))) (F_c0_lasts : Fld Z h0 c0 "com/example/meter/meter/store/Spans" "lasts" "[J" (.ref c2)) (F_c0_totals : Fld Z h0 c0 "com/example/meter/meter/store/Spans" "totals" "[J" (.ref c3)) (n_c0 : n0 ≤ c0) (V_c1 : Arv Z h0 c1 k_c1 .long (16 : Int32) [(.long y1), (.long y2), (.long (0 : Int64)), (.long (0 : Int64))] (.long (0 : Int64))) (n_c1 : n0 ≤ c1) (V_c2 : Arv Z h0 c2 k_c2 .long (16 : Int32) [(.long y1), (.long y2), (.long (0 : Int64)), (.long (0 : Int64))] (.long (0 : Int64))) (n_c2 : n0 ≤ c2) (V_c3 : Arv Z h0 c3 k_c3 .long (16 : Int32) [(.long (1 : Int64)), (.long (2 : Int64)), (.long (0 : Int64)), (.long (0 : Int64))] (.long (0 : Int64))) (n_c3 : n0 ≤ c3) (ne_c0_c1 : c0 ≠ c1) (ne_c0_c2 : c0 ≠ c2) (ne_c0_c3 : c0 ≠ c3) (ne_c1_c2 : c1 ≠ c2) (ne_c1_c3 : c1 ≠ c3) (ne_c2_c3 : c2 ≠ c3) (hc142 : ¬ (y0 < y1)) :
    MetFree l (⟨"com/example/meter/meter/store/Spans", "endsAfter", "(J)Z"⟩ : MethodName) (head1 (Jvm.Cond.code (⟨"com/example/meter/meter/store/Spans", "endsAfter", "(J)Z"⟩ : MethodName) prog_11_method_8_code 3 (some .boolean) :: ws) ({ frames := 0, cells := 0, slots := 0, locals := 0 } : Room)) (fun a U => a = #[(.ref c0), (.long y0)] ∧ Z.Warmed39 U.vm ∧ U.heap = h0) (fun _ _ _ _ _ => True) (fun _ U o U' => ∃ v L, o = .returned v ∧ own_Q (some (.int (0 : Int32))) n0 h0 v U'.heap L ∧ FrameEnd U o U' L ({ frames := 0, cells := 0, slots := 0, locals := 0 } : Room).cells ({ frames := 0, cells := 0, slots := 0, locals := 0 } : Room).slots) := by
  refine MetFree.of_bodySF (plainFor_of_name pn_0) hisR ?_
  intro p e s m args below meth c s₁ Bd hml0 hP hK
  obtain ⟨rfl, hZ, hh⟩ := hP
  have hx := Bd.exec
  have hby := Bd.bytes
  have hml : c.maxLocals = 3 := hml0
  have hlk := BodyLoose.notSynchronized Bd
  have hret := Bd.returns
  have hown : s.vm.findClass "com/example/meter/meter/store/Spans" = some m.cls := findClass_of_methodNamed Bd.named
  have hnm := (name_of_methodNamed Bd.named Bd.method).1
  have X0 : Stand p l e ({ frames := 0, cells := 0, slots := 0, locals := 0 } : Room) s m #[(.ref c0), (.long y0)] below meth c s₁ [] 0 0 := Stand.of_body Bd
  have e0 : s₁.heap = h0 := by rw [← hh, Bd.state]; rfl
  have N0 := Fr.nil n0
  rw [ef_5 m c0 y0]
  show Go p e below _ (s₁.setTop (mkF m 0 #[oA c0, oJ y0, oS] []))
  refine own_aload_n 1 X0 hx hby d5_0 rfl rfl rfl ?_
  refine own_getF 4 X0 hx hby hZ hown (own_w hw 30 rfl) e0 F_c0_head d5_1 rfl ?_
  intro T138 X138 e138
  refine own_aload_n 5 X138 hx hby d5_4 rfl rfl rfl ?_
  refine own_getF 8 X138 hx hby hZ hown (own_w hw 32 rfl) e138 F_c0_end d5_5 rfl ?_
  intro T139 X139 e139
  refine own_icN 11 X139 hx hby d5_8 rfl (by decide) ?_
  refine own_aload_n 12 X139 hx hby d5_11 rfl rfl rfl ?_
  refine own_getF 15 X139 hx hby hZ hown (own_w hw 21 rfl) e139 F_c0_lasts d5_12 rfl ?_
  intro T140 X140 e140
  refine own_aload_n 16 X140 hx hby d5_15 rfl rfl rfl ?_
  refine own_getF 19 X140 hx hby hZ hown (own_w hw 30 rfl) e140 F_c0_head d5_16 rfl ?_
  intro T141 X141 e141
  refine own_laload 20 (.long y1) X141 hx hby hZ e141 V_c2 d5_19 rfl (by decide) rfl ?_
  refine own_lload_n 21 X141 hx hby d5_20 rfl rfl ?_
  refine own_lcmp 22 (XT.cmpL y1 y0) X141 hx hby d5_21 rfl rfl ?_
  refine own_ifY 29 X141 hx hby d5_22 (by decide) (by decide) (own_fltL hc142).2.2.2 ?_
  refine own_iconst 30 (0 : Int32) X141 hx hby d5_29 rfl (by decide) ?_
  exact own_ret (Q := own_Q (some (.int (0 : Int32))) n0 h0) X141 hx hby hret hlk d5_30 rfl (Or.inl ⟨rfl, by simp, _, rfl⟩) (by decide) (by decide) ⟨rfl, N0, e141⟩
set_option maxRecDepth 65536 in
set_option maxHeartbeats 40000000 in
theorem rm11_24 (l : Launch) (Z : State) (a0 : Array Value) (hw : ∀ d ∈ tables_1, d.before a0 Z = true) (ws : List Jvm.Cond) (w_NONE k_NONE : Addr) (W : own_W Z w_NONE k_NONE) (c0 : Addr) (c1 : Addr) (k_c1 : ClassId) (c2 : Addr) (k_c2 : ClassId) (c3 : Addr) (k_c3 : ClassId) (y0 : Int64) (y1 : Int64) (y2 : Int64) (h0 : Heap) (n0 : Nat) (O0 : Old Z n0 h0) (E_c0 : Exa Z h0 c0 "com/example/meter/meter/store/Spans") (F_c0_droppedTotal : Fld Z h0 c0 "com/example/meter/meter/store/Spans" "droppedTotal" "J" (.long (0 : Int64))) (F_c0_end : Fld Z h0 c0 "com/example/meter/meter/store/Spans" "end" "I" (.int (2 : Int32))) (F_c0_firsts : Fld Z h0 c0 "com/example/meter/meter/store/Spans" "firsts" "[J" (.ref c1)) (F_c0_head : Fld Z h0 c0 "com/example/meter/meter/store/Spans" "head" "I" (.int (0 : Int32))) (F_c0_lasts : Fld Z h0 c0 "com/example/meter/meter/store/Spans" "lasts" "[J" (.ref c2)) (F_c0_totals : Fld Z h0 c0 "com/example/meter/meter/store/Spans" "totals" "[J" (.ref c3)) (n_c0 : n0 ≤ c0) (V_c1 : Arv Z h0 c1 k_c1 .long (16 : Int32) [(.long y1), (.long y2), (.long (0 : Int64)), (.long (0 : Int64))] (.long (0 : Int64))) (n_c1 : n0 ≤ c1) (V_c2 : Arv Z h0 c2 k_c2 .long (16 : Int32) [(.long y1), (.long y2), (.long (0 : Int64)), (.long (0 : Int64))] (.long (0 : Int64))) (n_c2 : n0 ≤ c2) (V_c3 : Arv Z h0 c3 k_c3 .long (16 : Int32) [(.long (1 : Int64)), (.long (2 : Int64)), (.long (0 : Int64)), (.long (0 : Int64))] (.long (0 : Int64))) (n_c3 : n0 ≤ c3) (ne_c0_c1 : c0 ≠ c1) (ne_c0_c2 : c0 ≠ c2) (ne_c0_c3 : c0 ≠ c3) (ne_c1_c2 : c1 ≠ c2) (ne_c1_c3 : c1 ≠ c3) (ne_c2_c3 : c2 ≠ c3) (hc153 : y0 < y1) :
    MetFree l (⟨"com/example/meter/meter/store/Spans", "dropThrough", "(J)V"⟩ : MethodName) (head1 (Jvm.Cond.code (⟨"com/example/meter/meter/store/Spans", "dropThrough", "(J)V"⟩ : MethodName) prog_11_method_10_code 3 none :: ws) ({ frames := 0, cells := 0, slots := 0, locals := 0 } : Room)) (fun a U => a = #[(.ref c0), (.long y0)] ∧ Z.Warmed39 U.vm ∧ U.heap = h0) (fun _ _ _ _ _ => True) (fun _ U o U' => ∃ v L, o = .returned v ∧ own_Q none n0 h0 v U'.heap L ∧ FrameEnd U o U' L ({ frames := 0, cells := 0, slots := 0, locals := 0 } : Room).cells ({ frames := 0, cells := 0, slots := 0, locals := 0 } : Room).slots) := by
  refine MetFree.of_bodySF (plainFor_of_name pn_0) hisR ?_
  intro p e s m args below meth c s₁ Bd hml0 hP hK
  obtain ⟨rfl, hZ, hh⟩ := hP
  have hx := Bd.exec
  have hby := Bd.bytes
  have hml : c.maxLocals = 3 := hml0
  have hlk := BodyLoose.notSynchronized Bd
  have hret := Bd.returns
  have hown : s.vm.findClass "com/example/meter/meter/store/Spans" = some m.cls := findClass_of_methodNamed Bd.named
  have hnm := (name_of_methodNamed Bd.named Bd.method).1
  have X0 : Stand p l e ({ frames := 0, cells := 0, slots := 0, locals := 0 } : Room) s m #[(.ref c0), (.long y0)] below meth c s₁ [] 0 0 := Stand.of_body Bd
  have e0 : s₁.heap = h0 := by rw [← hh, Bd.state]; rfl
  have N0 := Fr.nil n0
  rw [ef_11 m c0 y0]
  show Go p e below _ (s₁.setTop (mkF m 0 #[oA c0, oJ y0, oS] []))
  refine own_aload_n 1 X0 hx hby d11_0 rfl rfl rfl ?_
  refine own_getF 4 X0 hx hby hZ hown (own_w hw 30 rfl) e0 F_c0_head d11_1 rfl ?_
  intro T149 X149 e149
  refine own_aload_n 5 X149 hx hby d11_4 rfl rfl rfl ?_
  refine own_getF 8 X149 hx hby hZ hown (own_w hw 32 rfl) e149 F_c0_end d11_5 rfl ?_
  intro T150 X150 e150
  refine own_icN 11 X150 hx hby d11_8 rfl (by decide) ?_
  refine own_aload_n 12 X150 hx hby d11_11 rfl rfl rfl ?_
  refine own_getF 15 X150 hx hby hZ hown (own_w hw 21 rfl) e150 F_c0_lasts d11_12 rfl ?_
  intro T151 X151 e151
  refine own_aload_n 16 X151 hx hby d11_15 rfl rfl rfl ?_
  refine own_getF 19 X151 hx hby hZ hown (own_w hw 30 rfl) e151 F_c0_head d11_16 rfl ?_
  intro T152 X152 e152
  refine own_laload 20 (.long y1) X152 hx hby hZ e152 V_c2 d11_19 rfl (by decide) rfl ?_
  refine own_lload_n 21 X152 hx hby d11_20 rfl rfl ?_
  refine own_lcmp 22 (XT.cmpL y1 y0) X152 hx hby d11_21 rfl rfl ?_
  refine own_ifY 51 X152 hx hby d11_22 (by decide) (by decide) (own_tltL hc153).2.2.1 ?_
  exact own_ret0 (Q := own_Q none n0 h0) X152 hx hby hret hlk d11_51 (by decide) (by decide) ⟨rfl, N0, e152⟩
def Q_rm11_25 (Z : State) (w_NONE k_NONE : Addr) (c0 : Addr) (c1 : Addr) (k_c1 : ClassId) (c2 : Addr) (k_c2 : ClassId) (c3 : Addr) (k_c3 : ClassId) (y0 : Int64) (y1 : Int64) (y2 : Int64) (h0 : Heap) (n0 : Nat) (v : Option Value) (h : Heap) (L : List Loc) : Prop := v = none ∧ Fr n0 L ∧ Keep h0 h [c0] ∧ Exa Z h c0 "com/example/meter/meter/store/Spans" ∧ Fld Z h c0 "com/example/meter/meter/store/Spans" "droppedTotal" "J" (.long (1 : Int64)) ∧ Fld Z h c0 "com/example/meter/meter/store/Spans" "end" "I" (.int (2 : Int32)) ∧ Fld Z h c0 "com/example/meter/meter/store/Spans" "firsts" "[J" (.ref c1) ∧ Fld Z h c0 "com/example/meter/meter/store/Spans" "head" "I" (.int (1 : Int32)) ∧ Fld Z h c0 "com/example/meter/meter/store/Spans" "lasts" "[J" (.ref c2) ∧ Fld Z h c0 "com/example/meter/meter/store/Spans" "totals" "[J" (.ref c3) ∧ Arv Z h c1 k_c1 .long (16 : Int32) [(.long y1), (.long y2), (.long (0 : Int64)), (.long (0 : Int64))] (.long (0 : Int64)) ∧ Arv Z h c2 k_c2 .long (16 : Int32) [(.long y1), (.long y2), (.long (0 : Int64)), (.long (0 : Int64))] (.long (0 : Int64)) ∧ Arv Z h c3 k_c3 .long (16 : Int32) [(.long (1 : Int64)), (.long (2 : Int64)), (.long (0 : Int64)), (.long (0 : Int64))] (.long (0 : Int64))
set_option maxRecDepth 65536 in
set_option maxHeartbeats 40000000 in
theorem rm11_25 (l : Launch) (Z : State) (a0 : Array Value) (hw : ∀ d ∈ tables_1, d.before a0 Z = true) (ws : List Jvm.Cond) (w_NONE k_NONE : Addr) (W : own_W Z w_NONE k_NONE) (c0 : Addr) (c1 : Addr) (k_c1 : ClassId) (c2 : Addr) (k_c2 : ClassId) (c3 : Addr) (k_c3 : ClassId) (y0 : Int64) (y1 : Int64) (y2 : Int64) (h0 : Heap) (n0 : Nat) (O0 : Old Z n0 h0) (E_c0 : Exa Z h0 c0 "com/example/meter/meter/store/Spans") (F_c0_droppedTotal : Fld Z h0 c0 "com/example/meter/meter/store/Spans" "droppedTotal" "J" (.long (0 : Int64))) (F_c0_end : Fld Z h0 c0 "com/example/meter/meter/store/Spans" "end" "I" (.int (2 : Int32))) (F_c0_firsts : Fld Z h0 c0 "com/example/meter/meter/store/Spans" "firsts" "[J" (.ref c1)) (F_c0_head : Fld Z h0 c0 "com/example/meter/meter/store/Spans" "head" "I" (.int (0 : Int32))) (F_c0_lasts : Fld Z h0 c0 "com/example/meter/meter/store/Spans" "lasts" "[J" (.ref c2)) (F_c0_totals : Fld Z h0 c0 "com/example/meter/meter/store/Spans" "totals" "[J" (.ref c3)) (n_c0 : n0 ≤ c0) (V_c1 : Arv Z h0 c1 k_c1 .long (16 : Int32) [(.long y1), (.long y2), (.long (0 : Int64)), (.long (0 : Int64))] (.long (0 : Int64))) (n_c1 : n0 ≤ c1) (V_c2 : Arv Z h0 c2 k_c2 .long (16 : Int32) [(.long y1), (.long y2), (.long (0 : Int64)), (.long (0 : Int64))] (.long (0 : Int64))) (n_c2 : n0 ≤ c2) (V_c3 : Arv Z h0 c3 k_c3 .long (16 : Int32) [(.long (1 : Int64)), (.long (2 : Int64)), (.long (0 : Int64)), (.long (0 : Int64))] (.long (0 : Int64))) (n_c3 : n0 ≤ c3) (ne_c0_c1 : c0 ≠ c1) (ne_c0_c2 : c0 ≠ c2) (ne_c0_c3 : c0 ≠ c3) (ne_c1_c2 : c1 ≠ c2) (ne_c1_c3 : c1 ≠ c3) (ne_c2_c3 : c2 ≠ c3) (hc153 : ¬ (y0 < y1)) (hc163 : y0 < y2) :
    MetFree l (⟨"com/example/meter/meter/store/Spans", "dropThrough", "(J)V"⟩ : MethodName) (head1 (Jvm.Cond.code (⟨"com/example/meter/meter/store/Spans", "dropThrough", "(J)V"⟩ : MethodName) prog_11_method_10_code 3 none :: ws) ({ frames := 0, cells := 0, slots := 0, locals := 0 } : Room)) (fun a U => a = #[(.ref c0), (.long y0)] ∧ Z.Warmed39 U.vm ∧ U.heap = h0) (fun _ _ _ _ _ => True) (fun _ U o U' => ∃ v L, o = .returned v ∧ Q_rm11_25 Z w_NONE k_NONE c0 c1 k_c1 c2 k_c2 c3 k_c3 y0 y1 y2 h0 n0 v U'.heap L ∧ FrameEnd U o U' L ({ frames := 0, cells := 0, slots := 0, locals := 0 } : Room).cells ({ frames := 0, cells := 0, slots := 0, locals := 0 } : Room).slots) := by
  refine MetFree.of_bodySF (plainFor_of_name pn_0) hisR ?_
  intro p e s m args below meth c s₁ Bd hml0 hP hK
  obtain ⟨rfl, hZ, hh⟩ := hP
  have hx := Bd.exec
  have hby := Bd.bytes
  have hml : c.maxLocals = 3 := hml0
  have hlk := BodyLoose.notSynchronized Bd
  have hret := Bd.returns
  have hown : s.vm.findClass "com/example/meter/meter/store/Spans" = some m.cls := findClass_of_methodNamed Bd.named
  have hnm := (name_of_methodNamed Bd.named Bd.method).1
  have X0 : Stand p l e ({ frames := 0, cells := 0, slots := 0, locals := 0 } : Room) s m #[(.ref c0), (.long y0)] below meth c s₁ [] 0 0 := Stand.of_body Bd
  have e0 : s₁.heap = h0 := by rw [← hh, Bd.state]; rfl
  have N0 := Fr.nil n0
  rw [ef_11 m c0 y0]
  show Go p e below _ (s₁.setTop (mkF m 0 #[oA c0, oJ y0, oS] []))
  refine own_aload_n 1 X0 hx hby d11_0 rfl rfl rfl ?_
  refine own_getF 4 X0 hx hby hZ hown (own_w hw 30 rfl) e0 F_c0_head d11_1 rfl ?_
  intro T149 X149 e149
  refine own_aload_n 5 X149 hx hby d11_4 rfl rfl rfl ?_
  refine own_getF 8 X149 hx hby hZ hown (own_w hw 32 rfl) e149 F_c0_end d11_5 rfl ?_
  intro T150 X150 e150
  refine own_icN 11 X150 hx hby d11_8 rfl (by decide) ?_
  refine own_aload_n 12 X150 hx hby d11_11 rfl rfl rfl ?_
  refine own_getF 15 X150 hx hby hZ hown (own_w hw 21 rfl) e150 F_c0_lasts d11_12 rfl ?_
  intro T151 X151 e151
  refine own_aload_n 16 X151 hx hby d11_15 rfl rfl rfl ?_
  refine own_getF 19 X151 hx hby hZ hown (own_w hw 30 rfl) e151 F_c0_head d11_16 rfl ?_
  intro T152 X152 e152
  refine own_laload 20 (.long y1) X152 hx hby hZ e152 V_c2 d11_19 rfl (by decide) rfl ?_
  refine own_lload_n 21 X152 hx hby d11_20 rfl rfl ?_
  refine own_lcmp 22 (XT.cmpL y1 y0) X152 hx hby d11_21 rfl rfl ?_
  refine own_ifN 25 X152 hx hby d11_22 rfl (own_fltL hc153).2.2.1 ?_
  refine own_aload_n 26 X152 hx hby d11_25 rfl rfl rfl ?_
  refine own_aload_n 27 X152 hx hby d11_26 rfl rfl rfl ?_
  refine own_getF 30 X152 hx hby hZ hown (own_w hw 23 rfl) e152 F_c0_totals d11_27 rfl ?_
  intro T154 X154 e154
  refine own_aload_n 31 X154 hx hby d11_30 rfl rfl rfl ?_
  refine own_getF 34 X154 hx hby hZ hown (own_w hw 30 rfl) e154 F_c0_head d11_31 rfl ?_
  intro T155 X155 e155
  refine own_laload 35 (.long (1 : Int64)) X155 hx hby hZ e155 V_c3 d11_34 rfl (by decide) rfl ?_
  refine own_putF 38 X155 hx hby hZ .long hown (own_w hw 59 rfl) e155 F_c0_droppedTotal E_c0 (Or.inl (own_w hw 60 rfl)) (own_w hw 9 rfl) (by decide) rfl rfl d11_35 rfl ?_
  intro T156 h156 X156 e156 W156
  have E_c0_156 := E_c0.wr W156
  have F_c0_droppedTotal_156 := F_c0_droppedTotal.same W156
  have F_c0_end_156 := F_c0_end.other W156 (Or.inr (slot_ne (Or.inl (own_w hw 33 rfl)) (Or.inl (own_w hw 60 rfl)) (by decide) (t := .int) (t' := .long) (by decide) (by decide)))
  have F_c0_firsts_156 := F_c0_firsts.other W156 (Or.inr (slot_ne (Or.inl (own_w hw 20 rfl)) (Or.inl (own_w hw 60 rfl)) (by decide) (t := (.array .long)) (t' := .long) (by decide) (by decide)))
  have F_c0_head_156 := F_c0_head.other W156 (Or.inr (slot_ne (Or.inl (own_w hw 31 rfl)) (Or.inl (own_w hw 60 rfl)) (by decide) (t := .int) (t' := .long) (by decide) (by decide)))
  have F_c0_lasts_156 := F_c0_lasts.other W156 (Or.inr (slot_ne (Or.inl (own_w hw 22 rfl)) (Or.inl (own_w hw 60 rfl)) (by decide) (t := (.array .long)) (t' := .long) (by decide) (by decide)))
  have F_c0_totals_156 := F_c0_totals.other W156 (Or.inr (slot_ne (Or.inl (own_w hw 24 rfl)) (Or.inl (own_w hw 60 rfl)) (by decide) (t := (.array .long)) (t' := .long) (by decide) (by decide)))
  have V_c1_156 := V_c1.other W156 (Ne.symm ne_c0_c1)
  have V_c2_156 := V_c2.other W156 (Ne.symm ne_c0_c2)
  have V_c3_156 := V_c3.other W156 (Ne.symm ne_c0_c3)
  have K156 : Keep h0 h156 [c0] := (Keep.refl h0 [c0]).wr W156 (Or.inl (List.mem_of_getElem? (i := 0) rfl))
  have O156 := O0.wr W156 n_c0
  have N156 := Fr.snoc X156 N0 n_c0
  refine own_aload_n 39 X156 hx hby d11_38 rfl rfl rfl ?_
  refine own_dup 40 X156 hx hby d11_39 rfl rfl ?_
  refine own_getF 43 X156 hx hby hZ hown (own_w hw 30 rfl) e156 F_c0_head_156 d11_40 rfl ?_
  intro T157 X157 e157
  refine own_iconst 44 (1 : Int32) X157 hx hby d11_43 rfl (by decide) ?_
  refine own_iadd 45 (1 : Int32) X157 hx hby d11_44 rfl (by decide) ?_
  refine own_putF 48 X157 hx hby hZ .int hown (own_w hw 30 rfl) e157 F_c0_head_156 E_c0_156 (Or.inl (own_w hw 31 rfl)) (own_w hw 9 rfl) (by decide) rfl rfl d11_45 rfl ?_
  intro T158 h158 X158 e158 W158
  have E_c0_158 := E_c0_156.wr W158
  have F_c0_droppedTotal_158 := F_c0_droppedTotal_156.other W158 (Or.inr (slot_ne (Or.inl (own_w hw 60 rfl)) (Or.inl (own_w hw 31 rfl)) (by decide) (t := .long) (t' := .int) (by decide) (by decide)))
  have F_c0_end_158 := F_c0_end_156.other W158 (Or.inr (slot_ne (Or.inl (own_w hw 33 rfl)) (Or.inl (own_w hw 31 rfl)) (by decide) (t := .int) (t' := .int) (by decide) (by decide)))
  have F_c0_firsts_158 := F_c0_firsts_156.other W158 (Or.inr (slot_ne (Or.inl (own_w hw 20 rfl)) (Or.inl (own_w hw 31 rfl)) (by decide) (t := (.array .long)) (t' := .int) (by decide) (by decide)))
  have F_c0_head_158 := F_c0_head_156.same W158
  have F_c0_lasts_158 := F_c0_lasts_156.other W158 (Or.inr (slot_ne (Or.inl (own_w hw 22 rfl)) (Or.inl (own_w hw 31 rfl)) (by decide) (t := (.array .long)) (t' := .int) (by decide) (by decide)))
  have F_c0_totals_158 := F_c0_totals_156.other W158 (Or.inr (slot_ne (Or.inl (own_w hw 24 rfl)) (Or.inl (own_w hw 31 rfl)) (by decide) (t := (.array .long)) (t' := .int) (by decide) (by decide)))
  have V_c1_158 := V_c1_156.other W158 (Ne.symm ne_c0_c1)
  have V_c2_158 := V_c2_156.other W158 (Ne.symm ne_c0_c2)
  have V_c3_158 := V_c3_156.other W158 (Ne.symm ne_c0_c3)
  have K158 : Keep h0 h158 [c0] := K156.wr W158 (Or.inl (List.mem_of_getElem? (i := 0) rfl))
  have O158 := O156.wr W158 n_c0
  have N158 := Fr.snoc X158 N156 n_c0
  refine own_goto 0 X158 hx hby d11_48 (by decide) (by decide) ?_
  refine own_aload_n 1 X158 hx hby d11_0 rfl rfl rfl ?_
  refine own_getF 4 X158 hx hby hZ hown (own_w hw 30 rfl) e158 F_c0_head_158 d11_1 rfl ?_
  intro T159 X159 e159
  refine own_aload_n 5 X159 hx hby d11_4 rfl rfl rfl ?_
  refine own_getF 8 X159 hx hby hZ hown (own_w hw 32 rfl) e159 F_c0_end_158 d11_5 rfl ?_
  intro T160 X160 e160
  refine own_icN 11 X160 hx hby d11_8 rfl (by decide) ?_
  refine own_aload_n 12 X160 hx hby d11_11 rfl rfl rfl ?_
  refine own_getF 15 X160 hx hby hZ hown (own_w hw 21 rfl) e160 F_c0_lasts_158 d11_12 rfl ?_
  intro T161 X161 e161
  refine own_aload_n 16 X161 hx hby d11_15 rfl rfl rfl ?_
  refine own_getF 19 X161 hx hby hZ hown (own_w hw 30 rfl) e161 F_c0_head_158 d11_16 rfl ?_
  intro T162 X162 e162
  refine own_laload 20 (.long y2) X162 hx hby hZ e162 V_c2_158 d11_19 rfl (by decide) rfl ?_
  refine own_lload_n 21 X162 hx hby d11_20 rfl rfl ?_
  refine own_lcmp 22 (XT.cmpL y2 y0) X162 hx hby d11_21 rfl rfl ?_
  refine own_ifY 51 X162 hx hby d11_22 (by decide) (by decide) (own_tltL hc163).2.2.1 ?_
  exact own_ret0 (Q := Q_rm11_25 Z w_NONE k_NONE c0 c1 k_c1 c2 k_c2 c3 k_c3 y0 y1 y2 h0 n0) X162 hx hby hret hlk d11_51 (by decide) (by decide) (by rw [e162]; exact ⟨rfl, N158, K158, E_c0_158, F_c0_droppedTotal_158, F_c0_end_158, F_c0_firsts_158, F_c0_head_158, F_c0_lasts_158, F_c0_totals_158, V_c1_158, V_c2_158, V_c3_158⟩)
def Q_rm11_26 (Z : State) (w_NONE k_NONE : Addr) (c0 : Addr) (c1 : Addr) (k_c1 : ClassId) (c2 : Addr) (k_c2 : ClassId) (c3 : Addr) (k_c3 : ClassId) (y0 : Int64) (y1 : Int64) (y2 : Int64) (h0 : Heap) (n0 : Nat) (v : Option Value) (h : Heap) (L : List Loc) : Prop := v = none ∧ Fr n0 L ∧ Keep h0 h [c0] ∧ Exa Z h c0 "com/example/meter/meter/store/Spans" ∧ Fld Z h c0 "com/example/meter/meter/store/Spans" "droppedTotal" "J" (.long (2 : Int64)) ∧ Fld Z h c0 "com/example/meter/meter/store/Spans" "end" "I" (.int (2 : Int32)) ∧ Fld Z h c0 "com/example/meter/meter/store/Spans" "firsts" "[J" (.ref c1) ∧ Fld Z h c0 "com/example/meter/meter/store/Spans" "head" "I" (.int (2 : Int32)) ∧ Fld Z h c0 "com/example/meter/meter/store/Spans" "lasts" "[J" (.ref c2) ∧ Fld Z h c0 "com/example/meter/meter/store/Spans" "totals" "[J" (.ref c3) ∧ Arv Z h c1 k_c1 .long (16 : Int32) [(.long y1), (.long y2), (.long (0 : Int64)), (.long (0 : Int64))] (.long (0 : Int64)) ∧ Arv Z h c2 k_c2 .long (16 : Int32) [(.long y1), (.long y2), (.long (0 : Int64)), (.long (0 : Int64))] (.long (0 : Int64)) ∧ Arv Z h c3 k_c3 .long (16 : Int32) [(.long (1 : Int64)), (.long (2 : Int64)), (.long (0 : Int64)), (.long (0 : Int64))] (.long (0 : Int64))
set_option maxRecDepth 65536 in
set_option maxHeartbeats 40000000 in
theorem rm11_26 (l : Launch) (Z : State) (a0 : Array Value) (hw : ∀ d ∈ tables_1, d.before a0 Z = true) (ws : List Jvm.Cond) (w_NONE k_NONE : Addr) (W : own_W Z w_NONE k_NONE) (c0 : Addr) (c1 : Addr) (k_c1 : ClassId) (c2 : Addr) (k_c2 : ClassId) (c3 : Addr) (k_c3 : ClassId) (y0 : Int64) (y1 : Int64) (y2 : Int64) (h0 : Heap) (n0 : Nat) (O0 : Old Z n0 h0) (E_c0 : Exa Z h0 c0 "com/example/meter/meter/store/Spans") (F_c0_droppedTotal : Fld Z h0 c0 "com/example/meter/meter/store/Spans" "droppedTotal" "J" (.long (0 : Int64))) (F_c0_end : Fld Z h0 c0 "com/example/meter/meter/store/Spans" "end" "I" (.int (2 : Int32))) (F_c0_firsts : Fld Z h0 c0 "com/example/meter/meter/store/Spans" "firsts" "[J" (.ref c1)) (F_c0_head : Fld Z h0 c0 "com/example/meter/meter/store/Spans" "head" "I" (.int (0 : Int32))) (F_c0_lasts : Fld Z h0 c0 "com/example/meter/meter/store/Spans" "lasts" "[J" (.ref c2)) (F_c0_totals : Fld Z h0 c0 "com/example/meter/meter/store/Spans" "totals" "[J" (.ref c3)) (n_c0 : n0 ≤ c0) (V_c1 : Arv Z h0 c1 k_c1 .long (16 : Int32) [(.long y1), (.long y2), (.long (0 : Int64)), (.long (0 : Int64))] (.long (0 : Int64))) (n_c1 : n0 ≤ c1) (V_c2 : Arv Z h0 c2 k_c2 .long (16 : Int32) [(.long y1), (.long y2), (.long (0 : Int64)), (.long (0 : Int64))] (.long (0 : Int64))) (n_c2 : n0 ≤ c2) (V_c3 : Arv Z h0 c3 k_c3 .long (16 : Int32) [(.long (1 : Int64)), (.long (2 : Int64)), (.long (0 : Int64)), (.long (0 : Int64))] (.long (0 : Int64))) (n_c3 : n0 ≤ c3) (ne_c0_c1 : c0 ≠ c1) (ne_c0_c2 : c0 ≠ c2) (ne_c0_c3 : c0 ≠ c3) (ne_c1_c2 : c1 ≠ c2) (ne_c1_c3 : c1 ≠ c3) (ne_c2_c3 : c2 ≠ c3) (hc153 : ¬ (y0 < y1)) (hc163 : ¬ (y0 < y2)) :
    MetFree l (⟨"com/example/meter/meter/store/Spans", "dropThrough", "(J)V"⟩ : MethodName) (head1 (Jvm.Cond.code (⟨"com/example/meter/meter/store/Spans", "dropThrough", "(J)V"⟩ : MethodName) prog_11_method_10_code 3 none :: ws) ({ frames := 0, cells := 0, slots := 0, locals := 0 } : Room)) (fun a U => a = #[(.ref c0), (.long y0)] ∧ Z.Warmed39 U.vm ∧ U.heap = h0) (fun _ _ _ _ _ => True) (fun _ U o U' => ∃ v L, o = .returned v ∧ Q_rm11_26 Z w_NONE k_NONE c0 c1 k_c1 c2 k_c2 c3 k_c3 y0 y1 y2 h0 n0 v U'.heap L ∧ FrameEnd U o U' L ({ frames := 0, cells := 0, slots := 0, locals := 0 } : Room).cells ({ frames := 0, cells := 0, slots := 0, locals := 0 } : Room).slots) := by
  refine MetFree.of_bodySF (plainFor_of_name pn_0) hisR ?_
  intro p e s m args below meth c s₁ Bd hml0 hP hK
  obtain ⟨rfl, hZ, hh⟩ := hP
  have hx := Bd.exec
  have hby := Bd.bytes
  have hml : c.maxLocals = 3 := hml0
  have hlk := BodyLoose.notSynchronized Bd
  have hret := Bd.returns
  have hown : s.vm.findClass "com/example/meter/meter/store/Spans" = some m.cls := findClass_of_methodNamed Bd.named
  have hnm := (name_of_methodNamed Bd.named Bd.method).1
  have X0 : Stand p l e ({ frames := 0, cells := 0, slots := 0, locals := 0 } : Room) s m #[(.ref c0), (.long y0)] below meth c s₁ [] 0 0 := Stand.of_body Bd
  have e0 : s₁.heap = h0 := by rw [← hh, Bd.state]; rfl
  have N0 := Fr.nil n0
  rw [ef_11 m c0 y0]
  show Go p e below _ (s₁.setTop (mkF m 0 #[oA c0, oJ y0, oS] []))
  refine own_aload_n 1 X0 hx hby d11_0 rfl rfl rfl ?_
  refine own_getF 4 X0 hx hby hZ hown (own_w hw 30 rfl) e0 F_c0_head d11_1 rfl ?_
  intro T149 X149 e149
  refine own_aload_n 5 X149 hx hby d11_4 rfl rfl rfl ?_
  refine own_getF 8 X149 hx hby hZ hown (own_w hw 32 rfl) e149 F_c0_end d11_5 rfl ?_
  intro T150 X150 e150
  refine own_icN 11 X150 hx hby d11_8 rfl (by decide) ?_
  refine own_aload_n 12 X150 hx hby d11_11 rfl rfl rfl ?_
  refine own_getF 15 X150 hx hby hZ hown (own_w hw 21 rfl) e150 F_c0_lasts d11_12 rfl ?_
  intro T151 X151 e151
  refine own_aload_n 16 X151 hx hby d11_15 rfl rfl rfl ?_
  refine own_getF 19 X151 hx hby hZ hown (own_w hw 30 rfl) e151 F_c0_head d11_16 rfl ?_
  intro T152 X152 e152
  refine own_laload 20 (.long y1) X152 hx hby hZ e152 V_c2 d11_19 rfl (by decide) rfl ?_
  refine own_lload_n 21 X152 hx hby d11_20 rfl rfl ?_
  refine own_lcmp 22 (XT.cmpL y1 y0) X152 hx hby d11_21 rfl rfl ?_
  refine own_ifN 25 X152 hx hby d11_22 rfl (own_fltL hc153).2.2.1 ?_
  refine own_aload_n 26 X152 hx hby d11_25 rfl rfl rfl ?_
  refine own_aload_n 27 X152 hx hby d11_26 rfl rfl rfl ?_
  refine own_getF 30 X152 hx hby hZ hown (own_w hw 23 rfl) e152 F_c0_totals d11_27 rfl ?_
  intro T154 X154 e154
  refine own_aload_n 31 X154 hx hby d11_30 rfl rfl rfl ?_
  refine own_getF 34 X154 hx hby hZ hown (own_w hw 30 rfl) e154 F_c0_head d11_31 rfl ?_
  intro T155 X155 e155
  refine own_laload 35 (.long (1 : Int64)) X155 hx hby hZ e155 V_c3 d11_34 rfl (by decide) rfl ?_
  refine own_putF 38 X155 hx hby hZ .long hown (own_w hw 59 rfl) e155 F_c0_droppedTotal E_c0 (Or.inl (own_w hw 60 rfl)) (own_w hw 9 rfl) (by decide) rfl rfl d11_35 rfl ?_
  intro T156 h156 X156 e156 W156
  have E_c0_156 := E_c0.wr W156
  have F_c0_droppedTotal_156 := F_c0_droppedTotal.same W156
  have F_c0_end_156 := F_c0_end.other W156 (Or.inr (slot_ne (Or.inl (own_w hw 33 rfl)) (Or.inl (own_w hw 60 rfl)) (by decide) (t := .int) (t' := .long) (by decide) (by decide)))
  have F_c0_firsts_156 := F_c0_firsts.other W156 (Or.inr (slot_ne (Or.inl (own_w hw 20 rfl)) (Or.inl (own_w hw 60 rfl)) (by decide) (t := (.array .long)) (t' := .long) (by decide) (by decide)))
  have F_c0_head_156 := F_c0_head.other W156 (Or.inr (slot_ne (Or.inl (own_w hw 31 rfl)) (Or.inl (own_w hw 60 rfl)) (by decide) (t := .int) (t' := .long) (by decide) (by decide)))
  have F_c0_lasts_156 := F_c0_lasts.other W156 (Or.inr (slot_ne (Or.inl (own_w hw 22 rfl)) (Or.inl (own_w hw 60 rfl)) (by decide) (t := (.array .long)) (t' := .long) (by decide) (by decide)))
  have F_c0_totals_156 := F_c0_totals.other W156 (Or.inr (slot_ne (Or.inl (own_w hw 24 rfl)) (Or.inl (own_w hw 60 rfl)) (by decide) (t := (.array .long)) (t' := .long) (by decide) (by decide)))
  have V_c1_156 := V_c1.other W156 (Ne.symm ne_c0_c1)
  have V_c2_156 := V_c2.other W156 (Ne.symm ne_c0_c2)
  have V_c3_156 := V_c3.other W156 (Ne.symm ne_c0_c3)
  have K156 : Keep h0 h156 [c0] := (Keep.refl h0 [c0]).wr W156 (Or.inl (List.mem_of_getElem? (i := 0) rfl))
  have O156 := O0.wr W156 n_c0
  have N156 := Fr.snoc X156 N0 n_c0
  refine own_aload_n 39 X156 hx hby d11_38 rfl rfl rfl ?_
  refine own_dup 40 X156 hx hby d11_39 rfl rfl ?_
  refine own_getF 43 X156 hx hby hZ hown (own_w hw 30 rfl) e156 F_c0_head_156 d11_40 rfl ?_
  intro T157 X157 e157
  refine own_iconst 44 (1 : Int32) X157 hx hby d11_43 rfl (by decide) ?_
  refine own_iadd 45 (1 : Int32) X157 hx hby d11_44 rfl (by decide) ?_
  refine own_putF 48 X157 hx hby hZ .int hown (own_w hw 30 rfl) e157 F_c0_head_156 E_c0_156 (Or.inl (own_w hw 31 rfl)) (own_w hw 9 rfl) (by decide) rfl rfl d11_45 rfl ?_
  intro T158 h158 X158 e158 W158
  have E_c0_158 := E_c0_156.wr W158
  have F_c0_droppedTotal_158 := F_c0_droppedTotal_156.other W158 (Or.inr (slot_ne (Or.inl (own_w hw 60 rfl)) (Or.inl (own_w hw 31 rfl)) (by decide) (t := .long) (t' := .int) (by decide) (by decide)))
  have F_c0_end_158 := F_c0_end_156.other W158 (Or.inr (slot_ne (Or.inl (own_w hw 33 rfl)) (Or.inl (own_w hw 31 rfl)) (by decide) (t := .int) (t' := .int) (by decide) (by decide)))
  have F_c0_firsts_158 := F_c0_firsts_156.other W158 (Or.inr (slot_ne (Or.inl (own_w hw 20 rfl)) (Or.inl (own_w hw 31 rfl)) (by decide) (t := (.array .long)) (t' := .int) (by decide) (by decide)))
  have F_c0_head_158 := F_c0_head_156.same W158
  have F_c0_lasts_158 := F_c0_lasts_156.other W158 (Or.inr (slot_ne (Or.inl (own_w hw 22 rfl)) (Or.inl (own_w hw 31 rfl)) (by decide) (t := (.array .long)) (t' := .int) (by decide) (by decide)))
  have F_c0_totals_158 := F_c0_totals_156.other W158 (Or.inr (slot_ne (Or.inl (own_w hw 24 rfl)) (Or.inl (own_w hw 31 rfl)) (by decide) (t := (.array .long)) (t' := .int) (by decide) (by decide)))
  have V_c1_158 := V_c1_156.other W158 (Ne.symm ne_c0_c1)
  have V_c2_158 := V_c2_156.other W158 (Ne.symm ne_c0_c2)
  have V_c3_158 := V_c3_156.other W158 (Ne.symm ne_c0_c3)
  have K158 : Keep h0 h158 [c0] := K156.wr W158 (Or.inl (List.mem_of_getElem? (i := 0) rfl))
  have O158 := O156.wr W158 n_c0
  have N158 := Fr.snoc X158 N156 n_c0
  refine own_goto 0 X158 hx hby d11_48 (by decide) (by decide) ?_
  refine own_aload_n 1 X158 hx hby d11_0 rfl rfl rfl ?_
  refine own_getF 4 X158 hx hby hZ hown (own_w hw 30 rfl) e158 F_c0_head_158 d11_1 rfl ?_
  intro T159 X159 e159
  refine own_aload_n 5 X159 hx hby d11_4 rfl rfl rfl ?_
  refine own_getF 8 X159 hx hby hZ hown (own_w hw 32 rfl) e159 F_c0_end_158 d11_5 rfl ?_
  intro T160 X160 e160
  refine own_icN 11 X160 hx hby d11_8 rfl (by decide) ?_
  refine own_aload_n 12 X160 hx hby d11_11 rfl rfl rfl ?_
  refine own_getF 15 X160 hx hby hZ hown (own_w hw 21 rfl) e160 F_c0_lasts_158 d11_12 rfl ?_
  intro T161 X161 e161
  refine own_aload_n 16 X161 hx hby d11_15 rfl rfl rfl ?_
  refine own_getF 19 X161 hx hby hZ hown (own_w hw 30 rfl) e161 F_c0_head_158 d11_16 rfl ?_
  intro T162 X162 e162
  refine own_laload 20 (.long y2) X162 hx hby hZ e162 V_c2_158 d11_19 rfl (by decide) rfl ?_
  refine own_lload_n 21 X162 hx hby d11_20 rfl rfl ?_
  refine own_lcmp 22 (XT.cmpL y2 y0) X162 hx hby d11_21 rfl rfl ?_
  refine own_ifN 25 X162 hx hby d11_22 rfl (own_fltL hc163).2.2.1 ?_
  refine own_aload_n 26 X162 hx hby d11_25 rfl rfl rfl ?_
  refine own_aload_n 27 X162 hx hby d11_26 rfl rfl rfl ?_
  refine own_getF 30 X162 hx hby hZ hown (own_w hw 23 rfl) e162 F_c0_totals_158 d11_27 rfl ?_
  intro T164 X164 e164
  refine own_aload_n 31 X164 hx hby d11_30 rfl rfl rfl ?_
  refine own_getF 34 X164 hx hby hZ hown (own_w hw 30 rfl) e164 F_c0_head_158 d11_31 rfl ?_
  intro T165 X165 e165
  refine own_laload 35 (.long (2 : Int64)) X165 hx hby hZ e165 V_c3_158 d11_34 rfl (by decide) rfl ?_
  refine own_putF 38 X165 hx hby hZ .long hown (own_w hw 59 rfl) e165 F_c0_droppedTotal_158 E_c0_158 (Or.inl (own_w hw 60 rfl)) (own_w hw 9 rfl) (by decide) rfl rfl d11_35 rfl ?_
  intro T166 h166 X166 e166 W166
  have E_c0_166 := E_c0_158.wr W166
  have F_c0_droppedTotal_166 := F_c0_droppedTotal_158.same W166
  have F_c0_end_166 := F_c0_end_158.other W166 (Or.inr (slot_ne (Or.inl (own_w hw 33 rfl)) (Or.inl (own_w hw 60 rfl)) (by decide) (t := .int) (t' := .long) (by decide) (by decide)))
  have F_c0_firsts_166 := F_c0_firsts_158.other W166 (Or.inr (slot_ne (Or.inl (own_w hw 20 rfl)) (Or.inl (own_w hw 60 rfl)) (by decide) (t := (.array .long)) (t' := .long) (by decide) (by decide)))
  have F_c0_head_166 := F_c0_head_158.other W166 (Or.inr (slot_ne (Or.inl (own_w hw 31 rfl)) (Or.inl (own_w hw 60 rfl)) (by decide) (t := .int) (t' := .long) (by decide) (by decide)))
  have F_c0_lasts_166 := F_c0_lasts_158.other W166 (Or.inr (slot_ne (Or.inl (own_w hw 22 rfl)) (Or.inl (own_w hw 60 rfl)) (by decide) (t := (.array .long)) (t' := .long) (by decide) (by decide)))
  have F_c0_totals_166 := F_c0_totals_158.other W166 (Or.inr (slot_ne (Or.inl (own_w hw 24 rfl)) (Or.inl (own_w hw 60 rfl)) (by decide) (t := (.array .long)) (t' := .long) (by decide) (by decide)))
  have V_c1_166 := V_c1_158.other W166 (Ne.symm ne_c0_c1)
  have V_c2_166 := V_c2_158.other W166 (Ne.symm ne_c0_c2)
  have V_c3_166 := V_c3_158.other W166 (Ne.symm ne_c0_c3)
  have K166 : Keep h0 h166 [c0] := K158.wr W166 (Or.inl (List.mem_of_getElem? (i := 0) rfl))
  have O166 := O158.wr W166 n_c0
  have N166 := Fr.snoc X166 N158 n_c0
  refine own_aload_n 39 X166 hx hby d11_38 rfl rfl rfl ?_
  refine own_dup 40 X166 hx hby d11_39 rfl rfl ?_
  refine own_getF 43 X166 hx hby hZ hown (own_w hw 30 rfl) e166 F_c0_head_166 d11_40 rfl ?_
  intro T167 X167 e167
  refine own_iconst 44 (1 : Int32) X167 hx hby d11_43 rfl (by decide) ?_
  refine own_iadd 45 (2 : Int32) X167 hx hby d11_44 rfl (by decide) ?_
  refine own_putF 48 X167 hx hby hZ .int hown (own_w hw 30 rfl) e167 F_c0_head_166 E_c0_166 (Or.inl (own_w hw 31 rfl)) (own_w hw 9 rfl) (by decide) rfl rfl d11_45 rfl ?_
  intro T168 h168 X168 e168 W168
  have E_c0_168 := E_c0_166.wr W168
  have F_c0_droppedTotal_168 := F_c0_droppedTotal_166.other W168 (Or.inr (slot_ne (Or.inl (own_w hw 60 rfl)) (Or.inl (own_w hw 31 rfl)) (by decide) (t := .long) (t' := .int) (by decide) (by decide)))
  have F_c0_end_168 := F_c0_end_166.other W168 (Or.inr (slot_ne (Or.inl (own_w hw 33 rfl)) (Or.inl (own_w hw 31 rfl)) (by decide) (t := .int) (t' := .int) (by decide) (by decide)))
  have F_c0_firsts_168 := F_c0_firsts_166.other W168 (Or.inr (slot_ne (Or.inl (own_w hw 20 rfl)) (Or.inl (own_w hw 31 rfl)) (by decide) (t := (.array .long)) (t' := .int) (by decide) (by decide)))
  have F_c0_head_168 := F_c0_head_166.same W168
  have F_c0_lasts_168 := F_c0_lasts_166.other W168 (Or.inr (slot_ne (Or.inl (own_w hw 22 rfl)) (Or.inl (own_w hw 31 rfl)) (by decide) (t := (.array .long)) (t' := .int) (by decide) (by decide)))
  have F_c0_totals_168 := F_c0_totals_166.other W168 (Or.inr (slot_ne (Or.inl (own_w hw 24 rfl)) (Or.inl (own_w hw 31 rfl)) (by decide) (t := (.array .long)) (t' := .int) (by decide) (by decide)))
  have V_c1_168 := V_c1_166.other W168 (Ne.symm ne_c0_c1)
  have V_c2_168 := V_c2_166.other W168 (Ne.symm ne_c0_c2)
  have V_c3_168 := V_c3_166.other W168 (Ne.symm ne_c0_c3)
  have K168 : Keep h0 h168 [c0] := K166.wr W168 (Or.inl (List.mem_of_getElem? (i := 0) rfl))
  have O168 := O166.wr W168 n_c0
  have N168 := Fr.snoc X168 N166 n_c0
  refine own_goto 0 X168 hx hby d11_48 (by decide) (by decide) ?_
  refine own_aload_n 1 X168 hx hby d11_0 rfl rfl rfl ?_
  refine own_getF 4 X168 hx hby hZ hown (own_w hw 30 rfl) e168 F_c0_head_168 d11_1 rfl ?_
  intro T169 X169 e169
  refine own_aload_n 5 X169 hx hby d11_4 rfl rfl rfl ?_
  refine own_getF 8 X169 hx hby hZ hown (own_w hw 32 rfl) e169 F_c0_end_168 d11_5 rfl ?_
  intro T170 X170 e170
  refine own_icY 51 X170 hx hby d11_8 (by decide) (by decide) (by decide) ?_
  exact own_ret0 (Q := Q_rm11_26 Z w_NONE k_NONE c0 c1 k_c1 c2 k_c2 c3 k_c3 y0 y1 y2 h0 n0) X170 hx hby hret hlk d11_51 (by decide) (by decide) (by rw [e170]; exact ⟨rfl, N168, K168, E_c0_168, F_c0_droppedTotal_168, F_c0_end_168, F_c0_firsts_168, F_c0_head_168, F_c0_lasts_168, F_c0_totals_168, V_c1_168, V_c2_168, V_c3_168⟩)
set_option maxRecDepth 65536 in
set_option maxHeartbeats 40000000 in
theorem rm5_27 (l : Launch) (Z : State) (a0 : Array Value) (hw : ∀ d ∈ tables_1, d.before a0 Z = true) (ws : List Jvm.Cond) (w_NONE k_NONE : Addr) (W : own_W Z w_NONE k_NONE) (c0 : Addr) (c1 : Addr) (k_c1 : ClassId) (c2 : Addr) (k_c2 : ClassId) (c3 : Addr) (k_c3 : ClassId) (y0 : Int64) (y1 : Int64) (y2 : Int64) (h0 : Heap) (n0 : Nat) (O0 : Old Z n0 h0) (E_c0 : Exa Z h0 c0 "com/example/meter/meter/store/Spans") (F_c0_droppedTotal : Fld Z h0 c0 "com/example/meter/meter/store/Spans" "droppedTotal" "J" (.long (1 : Int64))) (F_c0_end : Fld Z h0 c0 "com/example/meter/meter/store/Spans" "end" "I" (.int (2 : Int32))) (F_c0_firsts : Fld Z h0 c0 "com/example/meter/meter/store/Spans" "firsts" "[J" (.ref c1)) (F_c0_head : Fld Z h0 c0 "com/example/meter/meter/store/Spans" "head" "I" (.int (1 : Int32))) (F_c0_lasts : Fld Z h0 c0 "com/example/meter/meter/store/Spans" "lasts" "[J" (.ref c2)) (F_c0_totals : Fld Z h0 c0 "com/example/meter/meter/store/Spans" "totals" "[J" (.ref c3)) (n_c0 : n0 ≤ c0) (V_c1 : Arv Z h0 c1 k_c1 .long (16 : Int32) [(.long y1), (.long y2), (.long (0 : Int64)), (.long (0 : Int64))] (.long (0 : Int64))) (n_c1 : n0 ≤ c1) (V_c2 : Arv Z h0 c2 k_c2 .long (16 : Int32) [(.long y1), (.long y2), (.long (0 : Int64)), (.long (0 : Int64))] (.long (0 : Int64))) (n_c2 : n0 ≤ c2) (V_c3 : Arv Z h0 c3 k_c3 .long (16 : Int32) [(.long (1 : Int64)), (.long (2 : Int64)), (.long (0 : Int64)), (.long (0 : Int64))] (.long (0 : Int64))) (n_c3 : n0 ≤ c3) (ne_c0_c1 : c0 ≠ c1) (ne_c0_c2 : c0 ≠ c2) (ne_c0_c3 : c0 ≠ c3) (ne_c1_c2 : c1 ≠ c2) (ne_c1_c3 : c1 ≠ c3) (ne_c2_c3 : c2 ≠ c3) (hc183 : y0 < y2) :
    MetFree l (⟨"com/example/meter/meter/store/Spans", "endsAfter", "(J)Z"⟩ : MethodName) (head1 (Jvm.Cond.code (⟨"com/example/meter/meter/store/Spans", "endsAfter", "(J)Z"⟩ : MethodName) prog_11_method_8_code 3 (some .boolean) :: ws) ({ frames := 0, cells := 0, slots := 0, locals := 0 } : Room)) (fun a U => a = #[(.ref c0), (.long y0)] ∧ Z.Warmed39 U.vm ∧ U.heap = h0) (fun _ _ _ _ _ => True) (fun _ U o U' => ∃ v L, o = .returned v ∧ own_Q (some (.int (1 : Int32))) n0 h0 v U'.heap L ∧ FrameEnd U o U' L ({ frames := 0, cells := 0, slots := 0, locals := 0 } : Room).cells ({ frames := 0, cells := 0, slots := 0, locals := 0 } : Room).slots) := by
  refine MetFree.of_bodySF (plainFor_of_name pn_0) hisR ?_
  intro p e s m args below meth c s₁ Bd hml0 hP hK
  obtain ⟨rfl, hZ, hh⟩ := hP
  have hx := Bd.exec
  have hby := Bd.bytes
  have hml : c.maxLocals = 3 := hml0
  have hlk := BodyLoose.notSynchronized Bd
  have hret := Bd.returns
  have hown : s.vm.findClass "com/example/meter/meter/store/Spans" = some m.cls := findClass_of_methodNamed Bd.named
  have hnm := (name_of_methodNamed Bd.named Bd.method).1
  have X0 : Stand p l e ({ frames := 0, cells := 0, slots := 0, locals := 0 } : Room) s m #[(.ref c0), (.long y0)] below meth c s₁ [] 0 0 := Stand.of_body Bd
  have e0 : s₁.heap = h0 := by rw [← hh, Bd.state]; rfl
  have N0 := Fr.nil n0
  rw [ef_5 m c0 y0]
  show Go p e below _ (s₁.setTop (mkF m 0 #[oA c0, oJ y0, oS] []))
  refine own_aload_n 1 X0 hx hby d5_0 rfl rfl rfl ?_
  refine own_getF 4 X0 hx hby hZ hown (own_w hw 30 rfl) e0 F_c0_head d5_1 rfl ?_
  intro T179 X179 e179
  refine own_aload_n 5 X179 hx hby d5_4 rfl rfl rfl ?_
  refine own_getF 8 X179 hx hby hZ hown (own_w hw 32 rfl) e179 F_c0_end d5_5 rfl ?_
  intro T180 X180 e180
  refine own_icN 11 X180 hx hby d5_8 rfl (by decide) ?_
  refine own_aload_n 12 X180 hx hby d5_11 rfl rfl rfl ?_
  refine own_getF 15 X180 hx hby hZ hown (own_w hw 21 rfl) e180 F_c0_lasts d5_12 rfl ?_
  intro T181 X181 e181
  refine own_aload_n 16 X181 hx hby d5_15 rfl rfl rfl ?_
  refine own_getF 19 X181 hx hby hZ hown (own_w hw 30 rfl) e181 F_c0_head d5_16 rfl ?_
  intro T182 X182 e182
  refine own_laload 20 (.long y2) X182 hx hby hZ e182 V_c2 d5_19 rfl (by decide) rfl ?_
  refine own_lload_n 21 X182 hx hby d5_20 rfl rfl ?_
  refine own_lcmp 22 (XT.cmpL y2 y0) X182 hx hby d5_21 rfl rfl ?_
  refine own_ifN 25 X182 hx hby d5_22 rfl (own_tltL hc183).2.2.2 ?_
  refine own_iconst 26 (1 : Int32) X182 hx hby d5_25 rfl (by decide) ?_
  refine own_goto 30 X182 hx hby d5_26 (by decide) (by decide) ?_
  exact own_ret (Q := own_Q (some (.int (1 : Int32))) n0 h0) X182 hx hby hret hlk d5_30 rfl (Or.inl ⟨rfl, by simp, _, rfl⟩) (by decide) (by decide) ⟨rfl, N0, e182⟩
set_option maxRecDepth 65536 in
set_option maxHeartbeats 40000000 in
theorem rm5_28 (l : Launch) (Z : State) (a0 : Array Value) (hw : ∀ d ∈ tables_1, d.before a0 Z = true) (ws : List Jvm.Cond) (w_NONE k_NONE : Addr) (W : own_W Z w_NONE k_NONE) (c0 : Addr) (c1 : Addr) (k_c1 : ClassId) (c2 : Addr) (k_c2 : ClassId) (c3 : Addr) (k_c3 : ClassId) (y0 : Int64) (y1 : Int64) (y2 : Int64) (h0 : Heap) (n0 : Nat) (O0 : Old Z n0 h0) (E_c0 : Exa Z h0 c0 "com/example/meter/meter/store/Spans") (F_c0_droppedTotal : Fld Z h0 c0 "com/example/meter/meter/store/Spans" "droppedTotal" "J" (.long (1 : Int64))) (F_c0_end : Fld Z h0 c0 "com/example/meter/meter/store/Spans" "end" "I" (.int (2 : Int32))) (F_c0_firsts : Fld Z h0 c0 "com/example/meter/meter/store/Spans" "firsts" "[J" (.ref c1)) (F_c0_head : Fld Z h0 c0 "com/example/meter/meter/store/Spans" "head" "I" (.int (1 : Int32))) (F_c0_lasts : Fld Z h0 c0 "com/example/meter/meter/store/Spans" "lasts" "[J" (.ref c2)) (F_c0_totals : Fld Z h0 c0 "com/example/meter/meter/store/Spans" "totals" "[J" (.ref c3)) (n_c0 : n0 ≤ c0) (V_c1 : Arv Z h0 c1 k_c1 .long (16 : Int32) [(.long y1), (.long y2), (.long (0 : Int64)), (.long (0 : Int64))] (.long (0 : Int64))) (n_c1 : n0 ≤ c1) (V_c2 : Arv Z h0 c2 k_c2 .long (16 : Int32) [(.long y1), (.long y2), (.long (0 : Int64)), (.long (0 : Int64))] (.long (0 : Int64))) (n_c2 : n0 ≤ c2) (V_c3 : Arv Z h0 c3 k_c3 .long (16 : Int32) [(.long (1 : Int64)), (.long (2 : Int64)), (.long (0 : Int64)), (.long (0 : Int64))] (.long (0 : Int64))) (n_c3 : n0 ≤ c3) (ne_c0_c1 : c0 ≠ c1) (ne_c0_c2 : c0 ≠ c2) (ne_c0_c3 : c0 ≠ c3) (ne_c1_c2 : c1 ≠ c2) (ne_c1_c3 : c1 ≠ c3) (ne_c2_c3 : c2 ≠ c3) (hc183 : ¬ (y0 < y2)) :
    MetFree l (⟨"com/example/meter/meter/store/Spans", "endsAfter", "(J)Z"⟩ : MethodName) (head1 (Jvm.Cond.code (⟨"com/example/meter/meter/store/Spans", "endsAfter", "(J)Z"⟩ : MethodName) prog_11_method_8_code 3 (some .boolean) :: ws) ({ frames := 0, cells := 0, slots := 0, locals := 0 } : Room)) (fun a U => a = #[(.ref c0), (.long y0)] ∧ Z.Warmed39 U.vm ∧ U.heap = h0) (fun _ _ _ _ _ => True) (fun _ U o U' => ∃ v L, o = .returned v ∧ own_Q (some (.int (0 : Int32))) n0 h0 v U'.heap L ∧ FrameEnd U o U' L ({ frames := 0, cells := 0, slots := 0, locals := 0 } : Room).cells ({ frames := 0, cells := 0, slots := 0, locals := 0 } : Room).slots) := by
  refine MetFree.of_bodySF (plainFor_of_name pn_0) hisR ?_
  intro p e s m args below meth c s₁ Bd hml0 hP hK
  obtain ⟨rfl, hZ, hh⟩ := hP
  have hx := Bd.exec
  have hby := Bd.bytes
  have hml : c.maxLocals = 3 := hml0
  have hlk := BodyLoose.notSynchronized Bd
  have hret := Bd.returns
  have hown : s.vm.findClass "com/example/meter/meter/store/Spans" = some m.cls := findClass_of_methodNamed Bd.named
  have hnm := (name_of_methodNamed Bd.named Bd.method).1
  have X0 : Stand p l e ({ frames := 0, cells := 0, slots := 0, locals := 0 } : Room) s m #[(.ref c0), (.long y0)] below meth c s₁ [] 0 0 := Stand.of_body Bd
  have e0 : s₁.heap = h0 := by rw [← hh, Bd.state]; rfl
  have N0 := Fr.nil n0
  rw [ef_5 m c0 y0]
  show Go p e below _ (s₁.setTop (mkF m 0 #[oA c0, oJ y0, oS] []))
  refine own_aload_n 1 X0 hx hby d5_0 rfl rfl rfl ?_
  refine own_getF 4 X0 hx hby hZ hown (own_w hw 30 rfl) e0 F_c0_head d5_1 rfl ?_
  intro T179 X179 e179
  refine own_aload_n 5 X179 hx hby d5_4 rfl rfl rfl ?_
  refine own_getF 8 X179 hx hby hZ hown (own_w hw 32 rfl) e179 F_c0_end d5_5 rfl ?_
  intro T180 X180 e180
  refine own_icN 11 X180 hx hby d5_8 rfl (by decide) ?_
  refine own_aload_n 12 X180 hx hby d5_11 rfl rfl rfl ?_
  refine own_getF 15 X180 hx hby hZ hown (own_w hw 21 rfl) e180 F_c0_lasts d5_12 rfl ?_
  intro T181 X181 e181
  refine own_aload_n 16 X181 hx hby d5_15 rfl rfl rfl ?_
  refine own_getF 19 X181 hx hby hZ hown (own_w hw 30 rfl) e181 F_c0_head d5_16 rfl ?_
  intro T182 X182 e182
  refine own_laload 20 (.long y2) X182 hx hby hZ e182 V_c2 d5_19 rfl (by decide) rfl ?_
  refine own_lload_n 21 X182 hx hby d5_20 rfl rfl ?_
  refine own_lcmp 22 (XT.cmpL y2 y0) X182 hx hby d5_21 rfl rfl ?_
  refine own_ifY 29 X182 hx hby d5_22 (by decide) (by decide) (own_fltL hc183).2.2.2 ?_
  refine own_iconst 30 (0 : Int32) X182 hx hby d5_29 rfl (by decide) ?_
  exact own_ret (Q := own_Q (some (.int (0 : Int32))) n0 h0) X182 hx hby hret hlk d5_30 rfl (Or.inl ⟨rfl, by simp, _, rfl⟩) (by decide) (by decide) ⟨rfl, N0, e182⟩
set_option maxRecDepth 65536 in
set_option maxHeartbeats 40000000 in
theorem rm5_29 (l : Launch) (Z : State) (a0 : Array Value) (hw : ∀ d ∈ tables_1, d.before a0 Z = true) (ws : List Jvm.Cond) (w_NONE k_NONE : Addr) (W : own_W Z w_NONE k_NONE) (c0 : Addr) (c1 : Addr) (k_c1 : ClassId) (c2 : Addr) (k_c2 : ClassId) (c3 : Addr) (k_c3 : ClassId) (y0 : Int64) (y1 : Int64) (y2 : Int64) (h0 : Heap) (n0 : Nat) (O0 : Old Z n0 h0) (E_c0 : Exa Z h0 c0 "com/example/meter/meter/store/Spans") (F_c0_droppedTotal : Fld Z h0 c0 "com/example/meter/meter/store/Spans" "droppedTotal" "J" (.long (2 : Int64))) (F_c0_end : Fld Z h0 c0 "com/example/meter/meter/store/Spans" "end" "I" (.int (2 : Int32))) (F_c0_firsts : Fld Z h0 c0 "com/example/meter/meter/store/Spans" "firsts" "[J" (.ref c1)) (F_c0_head : Fld Z h0 c0 "com/example/meter/meter/store/Spans" "head" "I" (.int (2 : Int32))) (F_c0_lasts : Fld Z h0 c0 "com/example/meter/meter/store/Spans" "lasts" "[J" (.ref c2)) (F_c0_totals : Fld Z h0 c0 "com/example/meter/meter/store/Spans" "totals" "[J" (.ref c3)) (n_c0 : n0 ≤ c0) (V_c1 : Arv Z h0 c1 k_c1 .long (16 : Int32) [(.long y1), (.long y2), (.long (0 : Int64)), (.long (0 : Int64))] (.long (0 : Int64))) (n_c1 : n0 ≤ c1) (V_c2 : Arv Z h0 c2 k_c2 .long (16 : Int32) [(.long y1), (.long y2), (.long (0 : Int64)), (.long (0 : Int64))] (.long (0 : Int64))) (n_c2 : n0 ≤ c2) (V_c3 : Arv Z h0 c3 k_c3 .long (16 : Int32) [(.long (1 : Int64)), (.long (2 : Int64)), (.long (0 : Int64)), (.long (0 : Int64))] (.long (0 : Int64))) (n_c3 : n0 ≤ c3) (ne_c0_c1 : c0 ≠ c1) (ne_c0_c2 : c0 ≠ c2) (ne_c0_c3 : c0 ≠ c3) (ne_c1_c2 : c1 ≠ c2) (ne_c1_c3 : c1 ≠ c3) (ne_c2_c3 : c2 ≠ c3) :
    MetFree l (⟨"com/example/meter/meter/store/Spans", "endsAfter", "(J)Z"⟩ : MethodName) (head1 (Jvm.Cond.code (⟨"com/example/meter/meter/store/Spans", "endsAfter", "(J)Z"⟩ : MethodName) prog_11_method_8_code 3 (some .boolean) :: ws) ({ frames := 0, cells := 0, slots := 0, locals := 0 } : Room)) (fun a U => a = #[(.ref c0), (.long y0)] ∧ Z.Warmed39 U.vm ∧ U.heap = h0) (fun _ _ _ _ _ => True) (fun _ U o U' => ∃ v L, o = .returned v ∧ own_Q (some (.int (1 : Int32))) n0 h0 v U'.heap L ∧ FrameEnd U o U' L ({ frames := 0, cells := 0, slots := 0, locals := 0 } : Room).cells ({ frames := 0, cells := 0, slots := 0, locals := 0 } : Room).slots) := by
  refine MetFree.of_bodySF (plainFor_of_name pn_0) hisR ?_
  intro p e s m args below meth c s₁ Bd hml0 hP hK
  obtain ⟨rfl, hZ, hh⟩ := hP
  have hx := Bd.exec
  have hby := Bd.bytes
  have hml : c.maxLocals = 3 := hml0
  have hlk := BodyLoose.notSynchronized Bd
  have hret := Bd.returns
  have hown : s.vm.findClass "com/example/meter/meter/store/Spans" = some m.cls := findClass_of_methodNamed Bd.named
  have hnm := (name_of_methodNamed Bd.named Bd.method).1
  have X0 : Stand p l e ({ frames := 0, cells := 0, slots := 0, locals := 0 } : Room) s m #[(.ref c0), (.long y0)] below meth c s₁ [] 0 0 := Stand.of_body Bd
  have e0 : s₁.heap = h0 := by rw [← hh, Bd.state]; rfl
  have N0 := Fr.nil n0
  rw [ef_5 m c0 y0]
  show Go p e below _ (s₁.setTop (mkF m 0 #[oA c0, oJ y0, oS] []))
  refine own_aload_n 1 X0 hx hby d5_0 rfl rfl rfl ?_
  refine own_getF 4 X0 hx hby hZ hown (own_w hw 30 rfl) e0 F_c0_head d5_1 rfl ?_
  intro T187 X187 e187
  refine own_aload_n 5 X187 hx hby d5_4 rfl rfl rfl ?_
  refine own_getF 8 X187 hx hby hZ hown (own_w hw 32 rfl) e187 F_c0_end d5_5 rfl ?_
  intro T188 X188 e188
  refine own_icY 25 X188 hx hby d5_8 (by decide) (by decide) (by decide) ?_
  refine own_iconst 26 (1 : Int32) X188 hx hby d5_25 rfl (by decide) ?_
  refine own_goto 30 X188 hx hby d5_26 (by decide) (by decide) ?_
  exact own_ret (Q := own_Q (some (.int (1 : Int32))) n0 h0) X188 hx hby hret hlk d5_30 rfl (Or.inl ⟨rfl, by simp, _, rfl⟩) (by decide) (by decide) ⟨rfl, N0, e188⟩
set_option maxRecDepth 65536 in
set_option maxHeartbeats 40000000 in
theorem rm0 (l : Launch) (Z : State) (a0 : Array Value) (hw : ∀ d ∈ tables_1, d.before a0 Z = true) (ws : List Jvm.Cond) (w_NONE k_NONE : Addr) (W : own_W Z w_NONE k_NONE) (q0 : Int64) (q1 : Int64) (q2 : Int64) (q3 : Int64) (x4 : Int32) (h0 : Heap) (n0 : Nat) (O0 : Old Z n0 h0)  :
    MetFree l x (head1 (Jvm.Cond.code x code maxLocals ret :: ws) room_1) (fun a U => a = #[(.long q0), (.long q1), (.long q2), (.long q3), (.int x4)] ∧ Z.Warmed39 U.vm ∧ U.heap = h0) (fun _ _ _ _ _ => True) (fun _ U o U' => ∃ v L, o = .returned v ∧ own_Q1 n0 v U'.heap L ∧ FrameEnd U o U' L 16 192) := by
  refine MetFree.of_bodySF (plainFor_of_name pn_1) hisR ?_
  intro p e s m args below meth c s₁ Bd hml0 hP hK
  obtain ⟨rfl, hZ, hh⟩ := hP
  have hx := Bd.exec
  have hby := Bd.bytes
  have hml : c.maxLocals = 21 := hml0
  have hlk := BodyLoose.notSynchronized Bd
  have hret := Bd.returns
  have hown : s.vm.findClass "com/example/meter/meter/store/SpansEndsAfterPinLaw" = some m.cls := findClass_of_methodNamed Bd.named
  have hnm := (name_of_methodNamed Bd.named Bd.method).1
  have X0 : Stand p l e room_1 s m #[(.long q0), (.long q1), (.long q2), (.long q3), (.int x4)] below meth c s₁ [] 0 0 := Stand.of_body Bd
  have e0 : s₁.heap = h0 := by rw [← hh, Bd.state]; rfl
  have N0 := Fr.nil n0
  rw [ef_0 m q0 q1 q2 q3 x4]
  show Go p e below _ (s₁.setTop (mkF m 0 #[oJ q0, oS, oJ q1, oS, oJ q2, oS, oJ q3, oS, oI x4, oU, oU, oU, oU, oU, oU, oU, oU, oU, oU, oU, oU] []))
  refine own_lload_n 1 X0 hx hby at_0 rfl rfl ?_
  refine own_lload_n 2 X0 hx hby at_1 rfl rfl ?_
  by_cases hc2 : q1 < q0
  · refine own_callS (W := 0) 5 (rm1_1 l Z a0 hw [] w_NONE k_NONE W q0 q1 h0 n0 O0 hc2) X0 hx hby hZ hown (own_w hw 0 rfl) (own_w hw 1 rfl) (own_w hw 2 rfl) (own_w hw 3 rfl) (by decide) (by rw [hml]; rfl) [(.long q0), (.long q1)] [] pd_0 rfl at_2 rfl e0 rfl rfl rfl (by decide) (by decide) (by decide) (by decide) ?_
    rintro _ T3 L3 X3 ⟨rfl, N3, e3⟩
    have N3 := Fr.app N0 N3
    show Go p e below _ (T3.setTop (mkF m 5 _ [(.long q1)]))
    refine own_lstore 7 #[oJ q0, oS, oJ q1, oS, oJ q2, oS, oJ q3, oS, oI x4, oJ q1, oS, oU, oU, oU, oU, oU, oU, oU, oU, oU, oU] X3 hx hby at_5 rfl rfl ?_
    refine own_lload_n 8 X3 hx hby at_7 rfl rfl ?_
    refine own_lload_n 9 X3 hx hby at_8 rfl rfl ?_
    refine own_callS (W := 0) 12 (rm2_4 l Z a0 hw [] w_NONE k_NONE W q0 q1 h0 n0 O0 (by have : -2 ^ 63 ≤ (q0).toInt ∧ (q0).toInt < 2 ^ 63 := own_rngJ q0; have : -2 ^ 63 ≤ (q1).toInt ∧ (q1).toInt < 2 ^ 63 := own_rngJ q1; have : (q1).toInt < (q0).toInt := Int64.lt_iff_toInt_lt.mp hc2; exact fun q => absurd (Int64.lt_iff_toInt_lt.mp q) (by omega))) X3 hx hby hZ hown (own_w hw 4 rfl) (own_w hw 5 rfl) (own_w hw 2 rfl) (own_w hw 6 rfl) (by decide) (by rw [hml]; rfl) [(.long q0), (.long q1)] [] pd_0 rfl at_9 rfl e3 rfl rfl rfl (by decide) (by decide) (by decide) (by decide) ?_
    rintro _ T5 L5 X5 ⟨rfl, N5, e5⟩
    have N5 := Fr.app N3 N5
    show Go p e below _ (T5.setTop (mkF m 12 _ [(.long q0)]))
    refine own_lstore 14 #[oJ q0, oS, oJ q1, oS, oJ q2, oS, oJ q3, oS, oI x4, oJ q1, oS, oJ q0, oS, oU, oU, oU, oU, oU, oU, oU, oU] X5 hx hby at_12 rfl rfl ?_
    refine own_iload 16 X5 hx hby at_14 rfl rfl ?_
    refine own_ldc 18 X5 hx hby hZ hown (own_w hw 7 rfl) at_16 rfl ?_
    refine own_iand 19 (x4 &&& (2147483647 : Int32)) X5 hx hby at_18 rfl rfl ?_
    refine own_iconst 20 (3 : Int32) X5 hx hby at_19 rfl (by decide) ?_
    rcases own_mod3 x4 with hv6 | hv6 | hv6
    · refine own_irem 21 (0 : Int32) X5 hx hby at_20 rfl (by decide) hv6 ?_
      refine own_istore 23 #[oJ q0, oS, oJ q1, oS, oJ q2, oS, oJ q3, oS, oI x4, oJ q1, oS, oJ q0, oS, oI (0 : Int32), oU, oU, oU, oU, oU, oU, oU] X5 hx hby at_21 rfl rfl ?_
      refine own_iload 25 X5 hx hby at_23 rfl rfl ?_
      refine own_iconst 26 (1 : Int32) X5 hx hby at_25 rfl (by decide) ?_
      refine own_icY 33 X5 hx hby at_26 (by decide) (by decide) (by decide) ?_
      refine own_iconst 34 (0 : Int32) X5 hx hby at_33 rfl (by decide) ?_
      refine own_istore 36 #[oJ q0, oS, oJ q1, oS, oJ q2, oS, oJ q3, oS, oI x4, oJ q1, oS, oJ q0, oS, oI (0 : Int32), oI (0 : Int32), oU, oU, oU, oU, oU, oU] X5 hx hby at_34 rfl rfl ?_
      refine own_iload 38 X5 hx hby at_36 rfl rfl ?_
      refine own_iconst 39 (2 : Int32) X5 hx hby at_38 rfl (by decide) ?_
      refine own_icY 54 X5 hx hby at_39 (by decide) (by decide) (by decide) ?_
      refine own_iconst 55 (0 : Int32) X5 hx hby at_54 rfl (by decide) ?_
      refine own_istore 57 #[oJ q0, oS, oJ q1, oS, oJ q2, oS, oJ q3, oS, oI x4, oJ q1, oS, oJ q0, oS, oI (0 : Int32), oI (0 : Int32), oI (0 : Int32), oU, oU, oU, oU, oU] X5 hx hby at_55 rfl rfl ?_
      refine own_iload 59 X5 hx hby at_57 rfl rfl ?_
      refine own_bipush 61 (8 : Int32) X5 hx hby at_59 rfl (by decide) ?_
      obtain ⟨v7, dv7⟩ : ∃ z, z = (XT.ushr x4 (8 : Int32)) := ⟨_, rfl⟩
      refine own_iushr 62 v7 X5 hx hby at_61 rfl dv7.symm ?_
      refine own_iconst 63 (1 : Int32) X5 hx hby at_62 rfl (by decide) ?_
      rcases own_and1 v7 with hv8 | hv8
      · refine own_iand 64 (0 : Int32) X5 hx hby at_63 rfl hv8 ?_
        refine own_ifY 71 X5 hx hby at_64 (by decide) (by decide) (by decide) ?_
        refine own_iconst 72 (0 : Int32) X5 hx hby at_71 rfl (by decide) ?_
        refine own_istore 74 #[oJ q0, oS, oJ q1, oS, oJ q2, oS, oJ q3, oS, oI x4, oJ q1, oS, oJ q0, oS, oI (0 : Int32), oI (0 : Int32), oI (0 : Int32), oI (0 : Int32), oU, oU, oU, oU] X5 hx hby at_72 rfl rfl ?_
        refine own_new 77 6 X5 hx hby hZ hown (own_w hw 8 rfl) (own_w hw 9 rfl) (own_w hw 10 rfl) e5 at_74 rfl (by decide) (by decide) ?_
        intro T9 h9 b9 X9 e9 E9 g9 A9 D9
        have n_b9 : n0 ≤ b9 := Nat.le_trans (own_n0 O0) (Nat.le_of_eq g9.symm)
        have O9 := O0.ext E9
        have F_b9_firsts : Fld Z h9 b9 "com/example/meter/meter/store/Spans" "firsts" "[J" .null := D9 (Or.inl (own_w hw 20 rfl)) (ty := (.array .long)) (by decide)
        have F_b9_lasts : Fld Z h9 b9 "com/example/meter/meter/store/Spans" "lasts" "[J" .null := D9 (Or.inl (own_w hw 22 rfl)) (ty := (.array .long)) (by decide)
        have F_b9_totals : Fld Z h9 b9 "com/example/meter/meter/store/Spans" "totals" "[J" .null := D9 (Or.inl (own_w hw 24 rfl)) (ty := (.array .long)) (by decide)
        have F_b9_head : Fld Z h9 b9 "com/example/meter/meter/store/Spans" "head" "I" (.int (0 : Int32)) := D9 (Or.inl (own_w hw 31 rfl)) (ty := .int) (by decide)
        have F_b9_end : Fld Z h9 b9 "com/example/meter/meter/store/Spans" "end" "I" (.int (0 : Int32)) := D9 (Or.inl (own_w hw 33 rfl)) (ty := .int) (by decide)
        have F_b9_droppedTotal : Fld Z h9 b9 "com/example/meter/meter/store/Spans" "droppedTotal" "J" (.long (0 : Int64)) := D9 (Or.inl (own_w hw 60 rfl)) (ty := .long) (by decide)
        refine own_dup 78 X9 hx hby at_77 rfl rfl ?_
        refine own_spec (W := 1) 81 (rm3_5 l Z a0 hw [] w_NONE k_NONE W b9 h9 n0 O9 A9 F_b9_droppedTotal F_b9_end F_b9_firsts F_b9_head F_b9_lasts F_b9_totals n_b9) X9 hx hby hZ hown rfl (own_w hw 11 rfl) (own_w hw 12 rfl) (own_w hw 10 rfl) (own_w hw 13 rfl) (by decide) (by rw [hml]; rfl) b9 [] [(.ref b9)] pd_1 rfl at_78 rfl e9 rfl rfl rfl (by decide) (by decide) (by decide) (by decide) ?_
        rintro _ T17 L17 X17 ⟨rfl, N17, Kc17, E_b9_17, F_b9_droppedTotal_17, F_b9_end_17, F_b9_firsts_17, F_b9_head_17, F_b9_lasts_17, F_b9_totals_17⟩
        have N17 := Fr.app N5 N17
        have O17 := O9.keep Kc17 (allS n_b9 all0)
        show Go p e below _ (T17.setTop (mkF m 81 _ [(.ref b9)]))
        refine own_astore 83 #[oJ q0, oS, oJ q1, oS, oJ q2, oS, oJ q3, oS, oI x4, oJ q1, oS, oJ q0, oS, oI (0 : Int32), oI (0 : Int32), oI (0 : Int32), oI (0 : Int32), oA b9, oU, oU, oU] X17 hx hby at_81 rfl rfl rfl ?_
        refine own_iload 85 X17 hx hby at_83 rfl rfl ?_
        refine own_ifY 96 X17 hx hby at_85 (by decide) (by decide) (by decide) ?_
        refine own_iload 98 X17 hx hby at_96 rfl rfl ?_
        refine own_ifY 109 X17 hx hby at_98 (by decide) (by decide) (by decide) ?_
        refine own_iload 111 X17 hx hby at_109 rfl rfl ?_
        refine own_ifY 121 X17 hx hby at_111 (by decide) (by decide) (by decide) ?_
        refine own_iload 123 X17 hx hby at_121 rfl rfl ?_
        refine own_ifY 143 X17 hx hby at_123 (by decide) (by decide) (by decide) ?_
        refine own_iconst 144 (0 : Int32) X17 hx hby at_143 rfl (by decide) ?_
        refine own_istore 146 #[oJ q0, oS, oJ q1, oS, oJ q2, oS, oJ q3, oS, oI x4, oJ q1, oS, oJ q0, oS, oI (0 : Int32), oI (0 : Int32), oI (0 : Int32), oI (0 : Int32), oA b9, oI (0 : Int32), oU, oU] X17 hx hby at_144 rfl rfl ?_
        refine own_iload 148 X17 hx hby at_146 rfl rfl ?_
        refine own_ifY 168 X17 hx hby at_148 (by decide) (by decide) (by decide) ?_
        refine own_iconst 169 (0 : Int32) X17 hx hby at_168 rfl (by decide) ?_
        refine own_istore 171 #[oJ q0, oS, oJ q1, oS, oJ q2, oS, oJ q3, oS, oI x4, oJ q1, oS, oJ q0, oS, oI (0 : Int32), oI (0 : Int32), oI (0 : Int32), oI (0 : Int32), oA b9, oI (0 : Int32), oI (0 : Int32), oU] X17 hx hby at_169 rfl rfl ?_
        refine own_iload 173 X17 hx hby at_171 rfl rfl ?_
        refine own_ifY 194 X17 hx hby at_173 (by decide) (by decide) (by decide) ?_
        refine own_iload 196 X17 hx hby at_194 rfl rfl ?_
        refine own_ifY 217 X17 hx hby at_196 (by decide) (by decide) (by decide) ?_
        refine own_iconst 218 (1 : Int32) X17 hx hby at_217 rfl (by decide) ?_
        refine own_istore 220 #[oJ q0, oS, oJ q1, oS, oJ q2, oS, oJ q3, oS, oI x4, oJ q1, oS, oJ q0, oS, oI (0 : Int32), oI (0 : Int32), oI (0 : Int32), oI (0 : Int32), oA b9, oI (0 : Int32), oI (0 : Int32), oI (1 : Int32)] X17 hx hby at_218 rfl rfl ?_
        refine own_aload 222 X17 hx hby at_220 rfl rfl rfl ?_
        refine own_lload 224 X17 hx hby at_222 rfl rfl ?_
        refine own_virt (W := 0) 227 (rm5_6 l Z a0 hw [] w_NONE k_NONE W b9 q3 T17.heap n0 O17 E_b9_17 F_b9_droppedTotal_17 F_b9_end_17 F_b9_firsts_17 F_b9_head_17 F_b9_lasts_17 F_b9_totals_17 n_b9) X17 hx hby hZ hown (own_w hw 25 rfl) (own_w hw 26 rfl) (notFace_of_selects (args := #[]) (mvT hZ (own_w hw 28 rfl))) (own_w hw 28 rfl) (own_w hw 27 rfl) (own_w hw 10 rfl) (own_w hw 29 rfl) (by decide) (by rw [hml]; rfl) b9 [(.long q3)] [] pd_2 rfl at_224 rfl rfl E_b9_17 rfl rfl rfl (by decide) (by decide) (by decide) (by decide) ?_
        rintro _ T20 L20 X20 ⟨rfl, N20, e20⟩
        have N20 := Fr.app N17 N20
        show Go p e below _ (T20.setTop (mkF m 227 _ [(.int (1 : Int32))]))
        refine own_iload 229 X20 hx hby at_227 rfl rfl ?_
        refine own_icN 232 X20 hx hby at_229 rfl (by decide) ?_
        refine own_iconst 233 (1 : Int32) X20 hx hby at_232 rfl (by decide) ?_
        refine own_goto 237 X20 hx hby at_233 (by decide) (by decide) ?_
        exact own_ret (Q := own_Q1 n0) X20 hx hby hret hlk at_237 rfl (Or.inl ⟨rfl, by simp, _, rfl⟩) (by decide) (by decide) ⟨rfl, N20⟩
      · refine own_iand 64 (1 : Int32) X5 hx hby at_63 rfl hv8 ?_
        refine own_ifN 67 X5 hx hby at_64 rfl (by decide) ?_
        refine own_iconst 68 (1 : Int32) X5 hx hby at_67 rfl (by decide) ?_
        refine own_goto 72 X5 hx hby at_68 (by decide) (by decide) ?_
        refine own_istore 74 #[oJ q0, oS, oJ q1, oS, oJ q2, oS, oJ q3, oS, oI x4, oJ q1, oS, oJ q0, oS, oI (0 : Int32), oI (0 : Int32), oI (0 : Int32), oI (1 : Int32), oU, oU, oU, oU] X5 hx hby at_72 rfl rfl ?_
        refine own_new 77 6 X5 hx hby hZ hown (own_w hw 8 rfl) (own_w hw 9 rfl) (own_w hw 10 rfl) e5 at_74 rfl (by decide) (by decide) ?_
        intro T21 h21 b21 X21 e21 E21 g21 A21 D21
        have n_b21 : n0 ≤ b21 := Nat.le_trans (own_n0 O0) (Nat.le_of_eq g21.symm)
        have O21 := O0.ext E21
        have F_b21_firsts : Fld Z h21 b21 "com/example/meter/meter/store/Spans" "firsts" "[J" .null := D21 (Or.inl (own_w hw 20 rfl)) (ty := (.array .long)) (by decide)
        have F_b21_lasts : Fld Z h21 b21 "com/example/meter/meter/store/Spans" "lasts" "[J" .null := D21 (Or.inl (own_w hw 22 rfl)) (ty := (.array .long)) (by decide)
        have F_b21_totals : Fld Z h21 b21 "com/example/meter/meter/store/Spans" "totals" "[J" .null := D21 (Or.inl (own_w hw 24 rfl)) (ty := (.array .long)) (by decide)
        have F_b21_head : Fld Z h21 b21 "com/example/meter/meter/store/Spans" "head" "I" (.int (0 : Int32)) := D21 (Or.inl (own_w hw 31 rfl)) (ty := .int) (by decide)
        have F_b21_end : Fld Z h21 b21 "com/example/meter/meter/store/Spans" "end" "I" (.int (0 : Int32)) := D21 (Or.inl (own_w hw 33 rfl)) (ty := .int) (by decide)
        have F_b21_droppedTotal : Fld Z h21 b21 "com/example/meter/meter/store/Spans" "droppedTotal" "J" (.long (0 : Int64)) := D21 (Or.inl (own_w hw 60 rfl)) (ty := .long) (by decide)
        refine own_dup 78 X21 hx hby at_77 rfl rfl ?_
        refine own_spec (W := 1) 81 (rm3_5 l Z a0 hw [] w_NONE k_NONE W b21 h21 n0 O21 A21 F_b21_droppedTotal F_b21_end F_b21_firsts F_b21_head F_b21_lasts F_b21_totals n_b21) X21 hx hby hZ hown rfl (own_w hw 11 rfl) (own_w hw 12 rfl) (own_w hw 10 rfl) (own_w hw 13 rfl) (by decide) (by rw [hml]; rfl) b21 [] [(.ref b21)] pd_1 rfl at_78 rfl e21 rfl rfl rfl (by decide) (by decide) (by decide) (by decide) ?_
        rintro _ T22 L22 X22 ⟨rfl, N22, Kc22, E_b21_22, F_b21_droppedTotal_22, F_b21_end_22, F_b21_firsts_22, F_b21_head_22, F_b21_lasts_22, F_b21_totals_22⟩
        have N22 := Fr.app N5 N22
        have O22 := O21.keep Kc22 (allS n_b21 all0)
        show Go p e below _ (T22.setTop (mkF m 81 _ [(.ref b21)]))
        refine own_astore 83 #[oJ q0, oS, oJ q1, oS, oJ q2, oS, oJ q3, oS, oI x4, oJ q1, oS, oJ q0, oS, oI (0 : Int32), oI (0 : Int32), oI (0 : Int32), oI (1 : Int32), oA b21, oU, oU, oU] X22 hx hby at_81 rfl rfl rfl ?_
        refine own_iload 85 X22 hx hby at_83 rfl rfl ?_
        refine own_ifY 96 X22 hx hby at_85 (by decide) (by decide) (by decide) ?_
        refine own_iload 98 X22 hx hby at_96 rfl rfl ?_
        refine own_ifY 109 X22 hx hby at_98 (by decide) (by decide) (by decide) ?_
        refine own_iload 111 X22 hx hby at_109 rfl rfl ?_
        refine own_ifN 114 X22 hx hby at_111 rfl (by decide) ?_
        refine own_aload 116 X22 hx hby at_114 rfl rfl rfl ?_
        refine own_lload 118 X22 hx hby at_116 rfl rfl ?_
        refine own_virt (W := 0) 121 (rm11_7 l Z a0 hw [] w_NONE k_NONE W b21 q2 T22.heap n0 O22 E_b21_22 F_b21_droppedTotal_22 F_b21_end_22 F_b21_firsts_22 F_b21_head_22 F_b21_lasts_22 F_b21_totals_22 n_b21) X22 hx hby hZ hown (own_w hw 61 rfl) (own_w hw 62 rfl) (notFace_of_selects (args := #[]) (mvT hZ (own_w hw 64 rfl))) (own_w hw 64 rfl) (own_w hw 63 rfl) (own_w hw 10 rfl) (own_w hw 65 rfl) (by decide) (by rw [hml]; rfl) b21 [(.long q2)] [] pd_3 rfl at_118 rfl rfl E_b21_22 rfl rfl rfl (by decide) (by decide) (by decide) (by decide) ?_
        rintro _ T25 L25 X25 ⟨rfl, N25, e25⟩
        have N25 := Fr.app N22 N25
        show Go p e below _ (T25.setTop (mkF m 121 _ []))
        refine own_iload 123 X25 hx hby at_121 rfl rfl ?_
        refine own_ifY 143 X25 hx hby at_123 (by decide) (by decide) (by decide) ?_
        refine own_iconst 144 (0 : Int32) X25 hx hby at_143 rfl (by decide) ?_
        refine own_istore 146 #[oJ q0, oS, oJ q1, oS, oJ q2, oS, oJ q3, oS, oI x4, oJ q1, oS, oJ q0, oS, oI (0 : Int32), oI (0 : Int32), oI (0 : Int32), oI (1 : Int32), oA b21, oI (0 : Int32), oU, oU] X25 hx hby at_144 rfl rfl ?_
        refine own_iload 148 X25 hx hby at_146 rfl rfl ?_
        refine own_ifY 168 X25 hx hby at_148 (by decide) (by decide) (by decide) ?_
        refine own_iconst 169 (0 : Int32) X25 hx hby at_168 rfl (by decide) ?_
        refine own_istore 171 #[oJ q0, oS, oJ q1, oS, oJ q2, oS, oJ q3, oS, oI x4, oJ q1, oS, oJ q0, oS, oI (0 : Int32), oI (0 : Int32), oI (0 : Int32), oI (1 : Int32), oA b21, oI (0 : Int32), oI (0 : Int32), oU] X25 hx hby at_169 rfl rfl ?_
        refine own_iload 173 X25 hx hby at_171 rfl rfl ?_
        refine own_ifY 194 X25 hx hby at_173 (by decide) (by decide) (by decide) ?_
        refine own_iload 196 X25 hx hby at_194 rfl rfl ?_
        refine own_ifY 217 X25 hx hby at_196 (by decide) (by decide) (by decide) ?_
        refine own_iconst 218 (1 : Int32) X25 hx hby at_217 rfl (by decide) ?_
        refine own_istore 220 #[oJ q0, oS, oJ q1, oS, oJ q2, oS, oJ q3, oS, oI x4, oJ q1, oS, oJ q0, oS, oI (0 : Int32), oI (0 : Int32), oI (0 : Int32), oI (1 : Int32), oA b21, oI (0 : Int32), oI (0 : Int32), oI (1 : Int32)] X25 hx hby at_218 rfl rfl ?_
        refine own_aload 222 X25 hx hby at_220 rfl rfl rfl ?_
        refine own_lload 224 X25 hx hby at_222 rfl rfl ?_
        refine own_virt (W := 0) 227 (rm5_6 l Z a0 hw [] w_NONE k_NONE W b21 q3 T22.heap n0 O22 E_b21_22 F_b21_droppedTotal_22 F_b21_end_22 F_b21_firsts_22 F_b21_head_22 F_b21_lasts_22 F_b21_totals_22 n_b21) X25 hx hby hZ hown (own_w hw 25 rfl) (own_w hw 26 rfl) (notFace_of_selects (args := #[]) (mvT hZ (own_w hw 28 rfl))) (own_w hw 28 rfl) (own_w hw 27 rfl) (own_w hw 10 rfl) (own_w hw 29 rfl) (by decide) (by rw [hml]; rfl) b21 [(.long q3)] [] pd_2 rfl at_224 rfl e25 E_b21_22 rfl rfl rfl (by decide) (by decide) (by decide) (by decide) ?_
        rintro _ T26 L26 X26 ⟨rfl, N26, e26⟩
        have N26 := Fr.app N25 N26
        show Go p e below _ (T26.setTop (mkF m 227 _ [(.int (1 : Int32))]))
        refine own_iload 229 X26 hx hby at_227 rfl rfl ?_
        refine own_icN 232 X26 hx hby at_229 rfl (by decide) ?_
        refine own_iconst 233 (1 : Int32) X26 hx hby at_232 rfl (by decide) ?_
        refine own_goto 237 X26 hx hby at_233 (by decide) (by decide) ?_
        exact own_ret (Q := own_Q1 n0) X26 hx hby hret hlk at_237 rfl (Or.inl ⟨rfl, by simp, _, rfl⟩) (by decide) (by decide) ⟨rfl, N26⟩
    · refine own_irem 21 (1 : Int32) X5 hx hby at_20 rfl (by decide) hv6 ?_
      refine own_istore 23 #[oJ q0, oS, oJ q1, oS, oJ q2, oS, oJ q3, oS, oI x4, oJ q1, oS, oJ q0, oS, oI (1 : Int32), oU, oU, oU, oU, oU, oU, oU] X5 hx hby at_21 rfl rfl ?_
      refine own_iload 25 X5 hx hby at_23 rfl rfl ?_
      refine own_iconst 26 (1 : Int32) X5 hx hby at_25 rfl (by decide) ?_
      refine own_icN 29 X5 hx hby at_26 rfl (by decide) ?_
      refine own_iconst 30 (1 : Int32) X5 hx hby at_29 rfl (by decide) ?_
      refine own_goto 34 X5 hx hby at_30 (by decide) (by decide) ?_
      refine own_istore 36 #[oJ q0, oS, oJ q1, oS, oJ q2, oS, oJ q3, oS, oI x4, oJ q1, oS, oJ q0, oS, oI (1 : Int32), oI (1 : Int32), oU, oU, oU, oU, oU, oU] X5 hx hby at_34 rfl rfl ?_
      refine own_iload 38 X5 hx hby at_36 rfl rfl ?_
      refine own_iconst 39 (2 : Int32) X5 hx hby at_38 rfl (by decide) ?_
      refine own_icY 54 X5 hx hby at_39 (by decide) (by decide) (by decide) ?_
      refine own_iconst 55 (0 : Int32) X5 hx hby at_54 rfl (by decide) ?_
      refine own_istore 57 #[oJ q0, oS, oJ q1, oS, oJ q2, oS, oJ q3, oS, oI x4, oJ q1, oS, oJ q0, oS, oI (1 : Int32), oI (1 : Int32), oI (0 : Int32), oU, oU, oU, oU, oU] X5 hx hby at_55 rfl rfl ?_
      refine own_iload 59 X5 hx hby at_57 rfl rfl ?_
      refine own_bipush 61 (8 : Int32) X5 hx hby at_59 rfl (by decide) ?_
      obtain ⟨v27, dv27⟩ : ∃ z, z = (XT.ushr x4 (8 : Int32)) := ⟨_, rfl⟩
      refine own_iushr 62 v27 X5 hx hby at_61 rfl dv27.symm ?_
      refine own_iconst 63 (1 : Int32) X5 hx hby at_62 rfl (by decide) ?_
      rcases own_and1 v27 with hv28 | hv28
      · refine own_iand 64 (0 : Int32) X5 hx hby at_63 rfl hv28 ?_
        refine own_ifY 71 X5 hx hby at_64 (by decide) (by decide) (by decide) ?_
        refine own_iconst 72 (0 : Int32) X5 hx hby at_71 rfl (by decide) ?_
        refine own_istore 74 #[oJ q0, oS, oJ q1, oS, oJ q2, oS, oJ q3, oS, oI x4, oJ q1, oS, oJ q0, oS, oI (1 : Int32), oI (1 : Int32), oI (0 : Int32), oI (0 : Int32), oU, oU, oU, oU] X5 hx hby at_72 rfl rfl ?_
        refine own_new 77 6 X5 hx hby hZ hown (own_w hw 8 rfl) (own_w hw 9 rfl) (own_w hw 10 rfl) e5 at_74 rfl (by decide) (by decide) ?_
        intro T29 h29 b29 X29 e29 E29 g29 A29 D29
        have n_b29 : n0 ≤ b29 := Nat.le_trans (own_n0 O0) (Nat.le_of_eq g29.symm)
        have O29 := O0.ext E29
        have F_b29_firsts : Fld Z h29 b29 "com/example/meter/meter/store/Spans" "firsts" "[J" .null := D29 (Or.inl (own_w hw 20 rfl)) (ty := (.array .long)) (by decide)
        have F_b29_lasts : Fld Z h29 b29 "com/example/meter/meter/store/Spans" "lasts" "[J" .null := D29 (Or.inl (own_w hw 22 rfl)) (ty := (.array .long)) (by decide)
        have F_b29_totals : Fld Z h29 b29 "com/example/meter/meter/store/Spans" "totals" "[J" .null := D29 (Or.inl (own_w hw 24 rfl)) (ty := (.array .long)) (by decide)
        have F_b29_head : Fld Z h29 b29 "com/example/meter/meter/store/Spans" "head" "I" (.int (0 : Int32)) := D29 (Or.inl (own_w hw 31 rfl)) (ty := .int) (by decide)
        have F_b29_end : Fld Z h29 b29 "com/example/meter/meter/store/Spans" "end" "I" (.int (0 : Int32)) := D29 (Or.inl (own_w hw 33 rfl)) (ty := .int) (by decide)
        have F_b29_droppedTotal : Fld Z h29 b29 "com/example/meter/meter/store/Spans" "droppedTotal" "J" (.long (0 : Int64)) := D29 (Or.inl (own_w hw 60 rfl)) (ty := .long) (by decide)
        refine own_dup 78 X29 hx hby at_77 rfl rfl ?_
        refine own_spec (W := 1) 81 (rm3_5 l Z a0 hw [] w_NONE k_NONE W b29 h29 n0 O29 A29 F_b29_droppedTotal F_b29_end F_b29_firsts F_b29_head F_b29_lasts F_b29_totals n_b29) X29 hx hby hZ hown rfl (own_w hw 11 rfl) (own_w hw 12 rfl) (own_w hw 10 rfl) (own_w hw 13 rfl) (by decide) (by rw [hml]; rfl) b29 [] [(.ref b29)] pd_1 rfl at_78 rfl e29 rfl rfl rfl (by decide) (by decide) (by decide) (by decide) ?_
        rintro _ T30 L30 X30 ⟨rfl, N30, Kc30, E_b29_30, F_b29_droppedTotal_30, F_b29_end_30, F_b29_firsts_30, F_b29_head_30, F_b29_lasts_30, F_b29_totals_30⟩
        have N30 := Fr.app N5 N30
        have O30 := O29.keep Kc30 (allS n_b29 all0)
        show Go p e below _ (T30.setTop (mkF m 81 _ [(.ref b29)]))
        refine own_astore 83 #[oJ q0, oS, oJ q1, oS, oJ q2, oS, oJ q3, oS, oI x4, oJ q1, oS, oJ q0, oS, oI (1 : Int32), oI (1 : Int32), oI (0 : Int32), oI (0 : Int32), oA b29, oU, oU, oU] X30 hx hby at_81 rfl rfl rfl ?_
        refine own_iload 85 X30 hx hby at_83 rfl rfl ?_
        refine own_ifN 88 X30 hx hby at_85 rfl (by decide) ?_
        refine own_aload 90 X30 hx hby at_88 rfl rfl rfl ?_
        refine own_lload 92 X30 hx hby at_90 rfl rfl ?_
        refine own_lconst 93 (1 : Int64) X30 hx hby at_92 rfl (by decide) ?_
        refine own_virt (W := 0) 96 (rm6_14 l Z a0 hw [] w_NONE k_NONE W b29 q1 T30.heap n0 O30 E_b29_30 F_b29_droppedTotal_30 F_b29_end_30 F_b29_firsts_30 F_b29_head_30 F_b29_lasts_30 F_b29_totals_30 n_b29) X30 hx hby hZ hown (own_w hw 34 rfl) (own_w hw 35 rfl) (notFace_of_selects (args := #[]) (mvT hZ (own_w hw 37 rfl))) (own_w hw 37 rfl) (own_w hw 36 rfl) (own_w hw 10 rfl) (own_w hw 38 rfl) (by decide) (by rw [hml]; rfl) b29 [(.long q1), (.long (1 : Int64))] [] pd_7 rfl at_93 rfl rfl E_b29_30 rfl rfl rfl (by decide) (by decide) (by decide) (by decide) ?_
        rintro _ T81 L81 X81 ⟨b81_0, b81_1, b81_2, k81_0, k81_1, k81_2, rfl, N81, Kc81, n_b81_0, sz_b81_0, n_b81_1, sz_b81_1, n_b81_2, sz_b81_2, ne_b81_0_b81_1, ne_b81_0_b81_2, ne_b81_1_b81_2, E_b29_81, F_b29_droppedTotal_81, F_b29_end_81, F_b29_firsts_81, F_b29_head_81, F_b29_lasts_81, F_b29_totals_81, V_b81_0_81, V_b81_1_81, V_b81_2_81⟩
        have N81 := Fr.app N30 N81
        have ne_b29_b81_0 : b29 ≠ b81_0 := Nat.ne_of_lt (Nat.lt_of_lt_of_le E_b29_30.lt sz_b81_0)
        have ne_b29_b81_1 : b29 ≠ b81_1 := Nat.ne_of_lt (Nat.lt_of_lt_of_le E_b29_30.lt sz_b81_1)
        have ne_b29_b81_2 : b29 ≠ b81_2 := Nat.ne_of_lt (Nat.lt_of_lt_of_le E_b29_30.lt sz_b81_2)
        have O81 := O30.keep Kc81 (allS n_b29 all0)
        show Go p e below _ (T81.setTop (mkF m 96 _ []))
        refine own_iload 98 X81 hx hby at_96 rfl rfl ?_
        refine own_ifY 109 X81 hx hby at_98 (by decide) (by decide) (by decide) ?_
        refine own_iload 111 X81 hx hby at_109 rfl rfl ?_
        refine own_ifY 121 X81 hx hby at_111 (by decide) (by decide) (by decide) ?_
        refine own_iload 123 X81 hx hby at_121 rfl rfl ?_
        refine own_ifN 126 X81 hx hby at_123 rfl (by decide) ?_
        refine own_iload 128 X81 hx hby at_126 rfl rfl ?_
        refine own_ifY 139 X81 hx hby at_128 (by decide) (by decide) (by decide) ?_
        refine own_iconst 140 (1 : Int32) X81 hx hby at_139 rfl (by decide) ?_
        refine own_goto 144 X81 hx hby at_140 (by decide) (by decide) ?_
        refine own_istore 146 #[oJ q0, oS, oJ q1, oS, oJ q2, oS, oJ q3, oS, oI x4, oJ q1, oS, oJ q0, oS, oI (1 : Int32), oI (1 : Int32), oI (0 : Int32), oI (0 : Int32), oA b29, oI (1 : Int32), oU, oU] X81 hx hby at_144 rfl rfl ?_
        refine own_iload 148 X81 hx hby at_146 rfl rfl ?_
        refine own_ifY 168 X81 hx hby at_148 (by decide) (by decide) (by decide) ?_
        refine own_iconst 169 (0 : Int32) X81 hx hby at_168 rfl (by decide) ?_
        refine own_istore 171 #[oJ q0, oS, oJ q1, oS, oJ q2, oS, oJ q3, oS, oI x4, oJ q1, oS, oJ q0, oS, oI (1 : Int32), oI (1 : Int32), oI (0 : Int32), oI (0 : Int32), oA b29, oI (1 : Int32), oI (0 : Int32), oU] X81 hx hby at_169 rfl rfl ?_
        refine own_iload 173 X81 hx hby at_171 rfl rfl ?_
        refine own_ifN 176 X81 hx hby at_173 rfl (by decide) ?_
        refine own_lload 178 X81 hx hby at_176 rfl rfl ?_
        refine own_lload 180 X81 hx hby at_178 rfl rfl ?_
        refine own_lcmp 181 (XT.cmpL q1 q3) X81 hx hby at_180 rfl rfl ?_
        by_cases hc82 : q3 < q1
        · refine own_ifN 184 X81 hx hby at_181 rfl (own_tltL hc82).2.2.2 ?_
          refine own_iconst 185 (1 : Int32) X81 hx hby at_184 rfl (by decide) ?_
          refine own_goto 189 X81 hx hby at_185 (by decide) (by decide) ?_
          refine own_istore 191 #[oJ q0, oS, oJ q1, oS, oJ q2, oS, oJ q3, oS, oI x4, oJ q1, oS, oJ q0, oS, oI (1 : Int32), oI (1 : Int32), oI (0 : Int32), oI (0 : Int32), oA b29, oI (1 : Int32), oI (0 : Int32), oI (1 : Int32)] X81 hx hby at_189 rfl rfl ?_
          refine own_goto 220 X81 hx hby at_191 (by decide) (by decide) ?_
          refine own_aload 222 X81 hx hby at_220 rfl rfl rfl ?_
          refine own_lload 224 X81 hx hby at_222 rfl rfl ?_
          refine own_virt (W := 0) 227 (rm5_15 l Z a0 hw [] w_NONE k_NONE W b29 b81_0 k81_0 b81_1 k81_1 b81_2 k81_2 q3 q1 T81.heap n0 O81 E_b29_81 F_b29_droppedTotal_81 F_b29_end_81 F_b29_firsts_81 F_b29_head_81 F_b29_lasts_81 F_b29_totals_81 n_b29 V_b81_0_81 n_b81_0 V_b81_1_81 n_b81_1 V_b81_2_81 n_b81_2 ne_b29_b81_0 ne_b29_b81_1 ne_b29_b81_2 ne_b81_0_b81_1 ne_b81_0_b81_2 ne_b81_1_b81_2 hc82) X81 hx hby hZ hown (own_w hw 25 rfl) (own_w hw 26 rfl) (notFace_of_selects (args := #[]) (mvT hZ (own_w hw 28 rfl))) (own_w hw 28 rfl) (own_w hw 27 rfl) (own_w hw 10 rfl) (own_w hw 29 rfl) (by decide) (by rw [hml]; rfl) b29 [(.long q3)] [] pd_2 rfl at_224 rfl rfl E_b29_81 rfl rfl rfl (by decide) (by decide) (by decide) (by decide) ?_
          rintro _ T88 L88 X88 ⟨rfl, N88, e88⟩
          have N88 := Fr.app N81 N88
          show Go p e below _ (T88.setTop (mkF m 227 _ [(.int (1 : Int32))]))
          refine own_iload 229 X88 hx hby at_227 rfl rfl ?_
          refine own_icN 232 X88 hx hby at_229 rfl (by decide) ?_
          refine own_iconst 233 (1 : Int32) X88 hx hby at_232 rfl (by decide) ?_
          refine own_goto 237 X88 hx hby at_233 (by decide) (by decide) ?_
          exact own_ret (Q := own_Q1 n0) X88 hx hby hret hlk at_237 rfl (Or.inl ⟨rfl, by simp, _, rfl⟩) (by decide) (by decide) ⟨rfl, N88⟩
        refine own_ifY 188 X81 hx hby at_181 (by decide) (by decide) (own_fltL hc82).2.2.2 ?_
        refine own_iconst 189 (0 : Int32) X81 hx hby at_188 rfl (by decide) ?_
        refine own_istore 191 #[oJ q0, oS, oJ q1, oS, oJ q2, oS, oJ q3, oS, oI x4, oJ q1, oS, oJ q0, oS, oI (1 : Int32), oI (1 : Int32), oI (0 : Int32), oI (0 : Int32), oA b29, oI (1 : Int32), oI (0 : Int32), oI (0 : Int32)] X81 hx hby at_189 rfl rfl ?_
        refine own_goto 220 X81 hx hby at_191 (by decide) (by decide) ?_
        refine own_aload 222 X81 hx hby at_220 rfl rfl rfl ?_
        refine own_lload 224 X81 hx hby at_222 rfl rfl ?_
        refine own_virt (W := 0) 227 (rm5_16 l Z a0 hw [] w_NONE k_NONE W b29 b81_0 k81_0 b81_1 k81_1 b81_2 k81_2 q3 q1 T81.heap n0 O81 E_b29_81 F_b29_droppedTotal_81 F_b29_end_81 F_b29_firsts_81 F_b29_head_81 F_b29_lasts_81 F_b29_totals_81 n_b29 V_b81_0_81 n_b81_0 V_b81_1_81 n_b81_1 V_b81_2_81 n_b81_2 ne_b29_b81_0 ne_b29_b81_1 ne_b29_b81_2 ne_b81_0_b81_1 ne_b81_0_b81_2 ne_b81_1_b81_2 hc82) X81 hx hby hZ hown (own_w hw 25 rfl) (own_w hw 26 rfl) (notFace_of_selects (args := #[]) (mvT hZ (own_w hw 28 rfl))) (own_w hw 28 rfl) (own_w hw 27 rfl) (own_w hw 10 rfl) (own_w hw 29 rfl) (by decide) (by rw [hml]; rfl) b29 [(.long q3)] [] pd_2 rfl at_224 rfl rfl E_b29_81 rfl rfl rfl (by decide) (by decide) (by decide) (by decide) ?_
        rintro _ T89 L89 X89 ⟨rfl, N89, e89⟩
        have N89 := Fr.app N81 N89
        show Go p e below _ (T89.setTop (mkF m 227 _ [(.int (0 : Int32))]))
        refine own_iload 229 X89 hx hby at_227 rfl rfl ?_
        refine own_icN 232 X89 hx hby at_229 rfl (by decide) ?_
        refine own_iconst 233 (1 : Int32) X89 hx hby at_232 rfl (by decide) ?_
        refine own_goto 237 X89 hx hby at_233 (by decide) (by decide) ?_
        exact own_ret (Q := own_Q1 n0) X89 hx hby hret hlk at_237 rfl (Or.inl ⟨rfl, by simp, _, rfl⟩) (by decide) (by decide) ⟨rfl, N89⟩
      · refine own_iand 64 (1 : Int32) X5 hx hby at_63 rfl hv28 ?_
        refine own_ifN 67 X5 hx hby at_64 rfl (by decide) ?_
        refine own_iconst 68 (1 : Int32) X5 hx hby at_67 rfl (by decide) ?_
        refine own_goto 72 X5 hx hby at_68 (by decide) (by decide) ?_
        refine own_istore 74 #[oJ q0, oS, oJ q1, oS, oJ q2, oS, oJ q3, oS, oI x4, oJ q1, oS, oJ q0, oS, oI (1 : Int32), oI (1 : Int32), oI (0 : Int32), oI (1 : Int32), oU, oU, oU, oU] X5 hx hby at_72 rfl rfl ?_
        refine own_new 77 6 X5 hx hby hZ hown (own_w hw 8 rfl) (own_w hw 9 rfl) (own_w hw 10 rfl) e5 at_74 rfl (by decide) (by decide) ?_
        intro T90 h90 b90 X90 e90 E90 g90 A90 D90
        have n_b90 : n0 ≤ b90 := Nat.le_trans (own_n0 O0) (Nat.le_of_eq g90.symm)
        have O90 := O0.ext E90
        have F_b90_firsts : Fld Z h90 b90 "com/example/meter/meter/store/Spans" "firsts" "[J" .null := D90 (Or.inl (own_w hw 20 rfl)) (ty := (.array .long)) (by decide)
        have F_b90_lasts : Fld Z h90 b90 "com/example/meter/meter/store/Spans" "lasts" "[J" .null := D90 (Or.inl (own_w hw 22 rfl)) (ty := (.array .long)) (by decide)
        have F_b90_totals : Fld Z h90 b90 "com/example/meter/meter/store/Spans" "totals" "[J" .null := D90 (Or.inl (own_w hw 24 rfl)) (ty := (.array .long)) (by decide)
        have F_b90_head : Fld Z h90 b90 "com/example/meter/meter/store/Spans" "head" "I" (.int (0 : Int32)) := D90 (Or.inl (own_w hw 31 rfl)) (ty := .int) (by decide)
        have F_b90_end : Fld Z h90 b90 "com/example/meter/meter/store/Spans" "end" "I" (.int (0 : Int32)) := D90 (Or.inl (own_w hw 33 rfl)) (ty := .int) (by decide)
        have F_b90_droppedTotal : Fld Z h90 b90 "com/example/meter/meter/store/Spans" "droppedTotal" "J" (.long (0 : Int64)) := D90 (Or.inl (own_w hw 60 rfl)) (ty := .long) (by decide)
        refine own_dup 78 X90 hx hby at_77 rfl rfl ?_
        refine own_spec (W := 1) 81 (rm3_5 l Z a0 hw [] w_NONE k_NONE W b90 h90 n0 O90 A90 F_b90_droppedTotal F_b90_end F_b90_firsts F_b90_head F_b90_lasts F_b90_totals n_b90) X90 hx hby hZ hown rfl (own_w hw 11 rfl) (own_w hw 12 rfl) (own_w hw 10 rfl) (own_w hw 13 rfl) (by decide) (by rw [hml]; rfl) b90 [] [(.ref b90)] pd_1 rfl at_78 rfl e90 rfl rfl rfl (by decide) (by decide) (by decide) (by decide) ?_
        rintro _ T91 L91 X91 ⟨rfl, N91, Kc91, E_b90_91, F_b90_droppedTotal_91, F_b90_end_91, F_b90_firsts_91, F_b90_head_91, F_b90_lasts_91, F_b90_totals_91⟩
        have N91 := Fr.app N5 N91
        have O91 := O90.keep Kc91 (allS n_b90 all0)
        show Go p e below _ (T91.setTop (mkF m 81 _ [(.ref b90)]))
        refine own_astore 83 #[oJ q0, oS, oJ q1, oS, oJ q2, oS, oJ q3, oS, oI x4, oJ q1, oS, oJ q0, oS, oI (1 : Int32), oI (1 : Int32), oI (0 : Int32), oI (1 : Int32), oA b90, oU, oU, oU] X91 hx hby at_81 rfl rfl rfl ?_
        refine own_iload 85 X91 hx hby at_83 rfl rfl ?_
        refine own_ifN 88 X91 hx hby at_85 rfl (by decide) ?_
        refine own_aload 90 X91 hx hby at_88 rfl rfl rfl ?_
        refine own_lload 92 X91 hx hby at_90 rfl rfl ?_
        refine own_lconst 93 (1 : Int64) X91 hx hby at_92 rfl (by decide) ?_
        refine own_virt (W := 0) 96 (rm6_14 l Z a0 hw [] w_NONE k_NONE W b90 q1 T91.heap n0 O91 E_b90_91 F_b90_droppedTotal_91 F_b90_end_91 F_b90_firsts_91 F_b90_head_91 F_b90_lasts_91 F_b90_totals_91 n_b90) X91 hx hby hZ hown (own_w hw 34 rfl) (own_w hw 35 rfl) (notFace_of_selects (args := #[]) (mvT hZ (own_w hw 37 rfl))) (own_w hw 37 rfl) (own_w hw 36 rfl) (own_w hw 10 rfl) (own_w hw 38 rfl) (by decide) (by rw [hml]; rfl) b90 [(.long q1), (.long (1 : Int64))] [] pd_7 rfl at_93 rfl rfl E_b90_91 rfl rfl rfl (by decide) (by decide) (by decide) (by decide) ?_
        rintro _ T92 L92 X92 ⟨b92_0, b92_1, b92_2, k92_0, k92_1, k92_2, rfl, N92, Kc92, n_b92_0, sz_b92_0, n_b92_1, sz_b92_1, n_b92_2, sz_b92_2, ne_b92_0_b92_1, ne_b92_0_b92_2, ne_b92_1_b92_2, E_b90_92, F_b90_droppedTotal_92, F_b90_end_92, F_b90_firsts_92, F_b90_head_92, F_b90_lasts_92, F_b90_totals_92, V_b92_0_92, V_b92_1_92, V_b92_2_92⟩
        have N92 := Fr.app N91 N92
        have ne_b90_b92_0 : b90 ≠ b92_0 := Nat.ne_of_lt (Nat.lt_of_lt_of_le E_b90_91.lt sz_b92_0)
        have ne_b90_b92_1 : b90 ≠ b92_1 := Nat.ne_of_lt (Nat.lt_of_lt_of_le E_b90_91.lt sz_b92_1)
        have ne_b90_b92_2 : b90 ≠ b92_2 := Nat.ne_of_lt (Nat.lt_of_lt_of_le E_b90_91.lt sz_b92_2)
        have O92 := O91.keep Kc92 (allS n_b90 all0)
        show Go p e below _ (T92.setTop (mkF m 96 _ []))
        refine own_iload 98 X92 hx hby at_96 rfl rfl ?_
        refine own_ifY 109 X92 hx hby at_98 (by decide) (by decide) (by decide) ?_
        refine own_iload 111 X92 hx hby at_109 rfl rfl ?_
        refine own_ifN 114 X92 hx hby at_111 rfl (by decide) ?_
        refine own_aload 116 X92 hx hby at_114 rfl rfl rfl ?_
        refine own_lload 118 X92 hx hby at_116 rfl rfl ?_
        by_cases hc105 : q2 < q1
        · refine own_virt (W := 0) 121 (rm11_17 l Z a0 hw [] w_NONE k_NONE W b90 b92_0 k92_0 b92_1 k92_1 b92_2 k92_2 q2 q1 T92.heap n0 O92 E_b90_92 F_b90_droppedTotal_92 F_b90_end_92 F_b90_firsts_92 F_b90_head_92 F_b90_lasts_92 F_b90_totals_92 n_b90 V_b92_0_92 n_b92_0 V_b92_1_92 n_b92_1 V_b92_2_92 n_b92_2 ne_b90_b92_0 ne_b90_b92_1 ne_b90_b92_2 ne_b92_0_b92_1 ne_b92_0_b92_2 ne_b92_1_b92_2 hc105) X92 hx hby hZ hown (own_w hw 61 rfl) (own_w hw 62 rfl) (notFace_of_selects (args := #[]) (mvT hZ (own_w hw 64 rfl))) (own_w hw 64 rfl) (own_w hw 63 rfl) (own_w hw 10 rfl) (own_w hw 65 rfl) (by decide) (by rw [hml]; rfl) b90 [(.long q2)] [] pd_3 rfl at_118 rfl rfl E_b90_92 rfl rfl rfl (by decide) (by decide) (by decide) (by decide) ?_
          rintro _ T106 L106 X106 ⟨rfl, N106, e106⟩
          have N106 := Fr.app N92 N106
          show Go p e below _ (T106.setTop (mkF m 121 _ []))
          refine own_iload 123 X106 hx hby at_121 rfl rfl ?_
          refine own_ifN 126 X106 hx hby at_123 rfl (by decide) ?_
          refine own_iload 128 X106 hx hby at_126 rfl rfl ?_
          refine own_ifN 131 X106 hx hby at_128 rfl (by decide) ?_
          refine own_lload 133 X106 hx hby at_131 rfl rfl ?_
          refine own_lload 135 X106 hx hby at_133 rfl rfl ?_
          refine own_lcmp 136 (XT.cmpL q1 q2) X106 hx hby at_135 rfl rfl ?_
          refine own_ifN 139 X106 hx hby at_136 rfl (own_tltL hc105).2.2.2 ?_
          refine own_iconst 140 (1 : Int32) X106 hx hby at_139 rfl (by decide) ?_
          refine own_goto 144 X106 hx hby at_140 (by decide) (by decide) ?_
          refine own_istore 146 #[oJ q0, oS, oJ q1, oS, oJ q2, oS, oJ q3, oS, oI x4, oJ q1, oS, oJ q0, oS, oI (1 : Int32), oI (1 : Int32), oI (0 : Int32), oI (1 : Int32), oA b90, oI (1 : Int32), oU, oU] X106 hx hby at_144 rfl rfl ?_
          refine own_iload 148 X106 hx hby at_146 rfl rfl ?_
          refine own_ifY 168 X106 hx hby at_148 (by decide) (by decide) (by decide) ?_
          refine own_iconst 169 (0 : Int32) X106 hx hby at_168 rfl (by decide) ?_
          refine own_istore 171 #[oJ q0, oS, oJ q1, oS, oJ q2, oS, oJ q3, oS, oI x4, oJ q1, oS, oJ q0, oS, oI (1 : Int32), oI (1 : Int32), oI (0 : Int32), oI (1 : Int32), oA b90, oI (1 : Int32), oI (0 : Int32), oU] X106 hx hby at_169 rfl rfl ?_
          refine own_iload 173 X106 hx hby at_171 rfl rfl ?_
          refine own_ifN 176 X106 hx hby at_173 rfl (by decide) ?_
          refine own_lload 178 X106 hx hby at_176 rfl rfl ?_
          refine own_lload 180 X106 hx hby at_178 rfl rfl ?_
          refine own_lcmp 181 (XT.cmpL q1 q3) X106 hx hby at_180 rfl rfl ?_
          by_cases hc107 : q3 < q1
          · refine own_ifN 184 X106 hx hby at_181 rfl (own_tltL hc107).2.2.2 ?_
            refine own_iconst 185 (1 : Int32) X106 hx hby at_184 rfl (by decide) ?_
            refine own_goto 189 X106 hx hby at_185 (by decide) (by decide) ?_
            refine own_istore 191 #[oJ q0, oS, oJ q1, oS, oJ q2, oS, oJ q3, oS, oI x4, oJ q1, oS, oJ q0, oS, oI (1 : Int32), oI (1 : Int32), oI (0 : Int32), oI (1 : Int32), oA b90, oI (1 : Int32), oI (0 : Int32), oI (1 : Int32)] X106 hx hby at_189 rfl rfl ?_
            refine own_goto 220 X106 hx hby at_191 (by decide) (by decide) ?_
            refine own_aload 222 X106 hx hby at_220 rfl rfl rfl ?_
            refine own_lload 224 X106 hx hby at_222 rfl rfl ?_
            refine own_virt (W := 0) 227 (rm5_15 l Z a0 hw [] w_NONE k_NONE W b90 b92_0 k92_0 b92_1 k92_1 b92_2 k92_2 q3 q1 T92.heap n0 O92 E_b90_92 F_b90_droppedTotal_92 F_b90_end_92 F_b90_firsts_92 F_b90_head_92 F_b90_lasts_92 F_b90_totals_92 n_b90 V_b92_0_92 n_b92_0 V_b92_1_92 n_b92_1 V_b92_2_92 n_b92_2 ne_b90_b92_0 ne_b90_b92_1 ne_b90_b92_2 ne_b92_0_b92_1 ne_b92_0_b92_2 ne_b92_1_b92_2 hc107) X106 hx hby hZ hown (own_w hw 25 rfl) (own_w hw 26 rfl) (notFace_of_selects (args := #[]) (mvT hZ (own_w hw 28 rfl))) (own_w hw 28 rfl) (own_w hw 27 rfl) (own_w hw 10 rfl) (own_w hw 29 rfl) (by decide) (by rw [hml]; rfl) b90 [(.long q3)] [] pd_2 rfl at_224 rfl e106 E_b90_92 rfl rfl rfl (by decide) (by decide) (by decide) (by decide) ?_
            rintro _ T108 L108 X108 ⟨rfl, N108, e108⟩
            have N108 := Fr.app N106 N108
            show Go p e below _ (T108.setTop (mkF m 227 _ [(.int (1 : Int32))]))
            refine own_iload 229 X108 hx hby at_227 rfl rfl ?_
            refine own_icN 232 X108 hx hby at_229 rfl (by decide) ?_
            refine own_iconst 233 (1 : Int32) X108 hx hby at_232 rfl (by decide) ?_
            refine own_goto 237 X108 hx hby at_233 (by decide) (by decide) ?_
            exact own_ret (Q := own_Q1 n0) X108 hx hby hret hlk at_237 rfl (Or.inl ⟨rfl, by simp, _, rfl⟩) (by decide) (by decide) ⟨rfl, N108⟩
          refine own_ifY 188 X106 hx hby at_181 (by decide) (by decide) (own_fltL hc107).2.2.2 ?_
          refine own_iconst 189 (0 : Int32) X106 hx hby at_188 rfl (by decide) ?_
          refine own_istore 191 #[oJ q0, oS, oJ q1, oS, oJ q2, oS, oJ q3, oS, oI x4, oJ q1, oS, oJ q0, oS, oI (1 : Int32), oI (1 : Int32), oI (0 : Int32), oI (1 : Int32), oA b90, oI (1 : Int32), oI (0 : Int32), oI (0 : Int32)] X106 hx hby at_189 rfl rfl ?_
          refine own_goto 220 X106 hx hby at_191 (by decide) (by decide) ?_
          refine own_aload 222 X106 hx hby at_220 rfl rfl rfl ?_
          refine own_lload 224 X106 hx hby at_222 rfl rfl ?_
          refine own_virt (W := 0) 227 (rm5_16 l Z a0 hw [] w_NONE k_NONE W b90 b92_0 k92_0 b92_1 k92_1 b92_2 k92_2 q3 q1 T92.heap n0 O92 E_b90_92 F_b90_droppedTotal_92 F_b90_end_92 F_b90_firsts_92 F_b90_head_92 F_b90_lasts_92 F_b90_totals_92 n_b90 V_b92_0_92 n_b92_0 V_b92_1_92 n_b92_1 V_b92_2_92 n_b92_2 ne_b90_b92_0 ne_b90_b92_1 ne_b90_b92_2 ne_b92_0_b92_1 ne_b92_0_b92_2 ne_b92_1_b92_2 hc107) X106 hx hby hZ hown (own_w hw 25 rfl) (own_w hw 26 rfl) (notFace_of_selects (args := #[]) (mvT hZ (own_w hw 28 rfl))) (own_w hw 28 rfl) (own_w hw 27 rfl) (own_w hw 10 rfl) (own_w hw 29 rfl) (by decide) (by rw [hml]; rfl) b90 [(.long q3)] [] pd_2 rfl at_224 rfl e106 E_b90_92 rfl rfl rfl (by decide) (by decide) (by decide) (by decide) ?_
          rintro _ T109 L109 X109 ⟨rfl, N109, e109⟩
          have N109 := Fr.app N106 N109
          show Go p e below _ (T109.setTop (mkF m 227 _ [(.int (0 : Int32))]))
          refine own_iload 229 X109 hx hby at_227 rfl rfl ?_
          refine own_icN 232 X109 hx hby at_229 rfl (by decide) ?_
          refine own_iconst 233 (1 : Int32) X109 hx hby at_232 rfl (by decide) ?_
          refine own_goto 237 X109 hx hby at_233 (by decide) (by decide) ?_
          exact own_ret (Q := own_Q1 n0) X109 hx hby hret hlk at_237 rfl (Or.inl ⟨rfl, by simp, _, rfl⟩) (by decide) (by decide) ⟨rfl, N109⟩
        refine own_virt (W := 0) 121 (rm11_18 l Z a0 hw [] w_NONE k_NONE W b90 b92_0 k92_0 b92_1 k92_1 b92_2 k92_2 q2 q1 T92.heap n0 O92 E_b90_92 F_b90_droppedTotal_92 F_b90_end_92 F_b90_firsts_92 F_b90_head_92 F_b90_lasts_92 F_b90_totals_92 n_b90 V_b92_0_92 n_b92_0 V_b92_1_92 n_b92_1 V_b92_2_92 n_b92_2 ne_b90_b92_0 ne_b90_b92_1 ne_b90_b92_2 ne_b92_0_b92_1 ne_b92_0_b92_2 ne_b92_1_b92_2 hc105) X92 hx hby hZ hown (own_w hw 61 rfl) (own_w hw 62 rfl) (notFace_of_selects (args := #[]) (mvT hZ (own_w hw 64 rfl))) (own_w hw 64 rfl) (own_w hw 63 rfl) (own_w hw 10 rfl) (own_w hw 65 rfl) (by decide) (by rw [hml]; rfl) b90 [(.long q2)] [] pd_3 rfl at_118 rfl rfl E_b90_92 rfl rfl rfl (by decide) (by decide) (by decide) (by decide) ?_
        rintro _ T110 L110 X110 ⟨rfl, N110, Kc110, E_b90_110, F_b90_droppedTotal_110, F_b90_end_110, F_b90_firsts_110, F_b90_head_110, F_b90_lasts_110, F_b90_totals_110, V_b92_0_110, V_b92_1_110, V_b92_2_110⟩
        have N110 := Fr.app N92 N110
        have O110 := O92.keep Kc110 (allS n_b90 all0)
        show Go p e below _ (T110.setTop (mkF m 121 _ []))
        refine own_iload 123 X110 hx hby at_121 rfl rfl ?_
        refine own_ifN 126 X110 hx hby at_123 rfl (by decide) ?_
        refine own_iload 128 X110 hx hby at_126 rfl rfl ?_
        refine own_ifN 131 X110 hx hby at_128 rfl (by decide) ?_
        refine own_lload 133 X110 hx hby at_131 rfl rfl ?_
        refine own_lload 135 X110 hx hby at_133 rfl rfl ?_
        refine own_lcmp 136 (XT.cmpL q1 q2) X110 hx hby at_135 rfl rfl ?_
        refine own_ifY 143 X110 hx hby at_136 (by decide) (by decide) (own_fltL hc105).2.2.2 ?_
        refine own_iconst 144 (0 : Int32) X110 hx hby at_143 rfl (by decide) ?_
        refine own_istore 146 #[oJ q0, oS, oJ q1, oS, oJ q2, oS, oJ q3, oS, oI x4, oJ q1, oS, oJ q0, oS, oI (1 : Int32), oI (1 : Int32), oI (0 : Int32), oI (1 : Int32), oA b90, oI (0 : Int32), oU, oU] X110 hx hby at_144 rfl rfl ?_
        refine own_iload 148 X110 hx hby at_146 rfl rfl ?_
        refine own_ifY 168 X110 hx hby at_148 (by decide) (by decide) (by decide) ?_
        refine own_iconst 169 (0 : Int32) X110 hx hby at_168 rfl (by decide) ?_
        refine own_istore 171 #[oJ q0, oS, oJ q1, oS, oJ q2, oS, oJ q3, oS, oI x4, oJ q1, oS, oJ q0, oS, oI (1 : Int32), oI (1 : Int32), oI (0 : Int32), oI (1 : Int32), oA b90, oI (0 : Int32), oI (0 : Int32), oU] X110 hx hby at_169 rfl rfl ?_
        refine own_iload 173 X110 hx hby at_171 rfl rfl ?_
        refine own_ifY 194 X110 hx hby at_173 (by decide) (by decide) (by decide) ?_
        refine own_iload 196 X110 hx hby at_194 rfl rfl ?_
        refine own_ifY 217 X110 hx hby at_196 (by decide) (by decide) (by decide) ?_
        refine own_iconst 218 (1 : Int32) X110 hx hby at_217 rfl (by decide) ?_
        refine own_istore 220 #[oJ q0, oS, oJ q1, oS, oJ q2, oS, oJ q3, oS, oI x4, oJ q1, oS, oJ q0, oS, oI (1 : Int32), oI (1 : Int32), oI (0 : Int32), oI (1 : Int32), oA b90, oI (0 : Int32), oI (0 : Int32), oI (1 : Int32)] X110 hx hby at_218 rfl rfl ?_
        refine own_aload 222 X110 hx hby at_220 rfl rfl rfl ?_
        refine own_lload 224 X110 hx hby at_222 rfl rfl ?_
        refine own_virt (W := 0) 227 (rm5_19 l Z a0 hw [] w_NONE k_NONE W b90 b92_0 k92_0 b92_1 k92_1 b92_2 k92_2 q3 q1 T110.heap n0 O110 E_b90_110 F_b90_droppedTotal_110 F_b90_end_110 F_b90_firsts_110 F_b90_head_110 F_b90_lasts_110 F_b90_totals_110 n_b90 V_b92_0_110 n_b92_0 V_b92_1_110 n_b92_1 V_b92_2_110 n_b92_2 ne_b90_b92_0 ne_b90_b92_1 ne_b90_b92_2 ne_b92_0_b92_1 ne_b92_0_b92_2 ne_b92_1_b92_2) X110 hx hby hZ hown (own_w hw 25 rfl) (own_w hw 26 rfl) (notFace_of_selects (args := #[]) (mvT hZ (own_w hw 28 rfl))) (own_w hw 28 rfl) (own_w hw 27 rfl) (own_w hw 10 rfl) (own_w hw 29 rfl) (by decide) (by rw [hml]; rfl) b90 [(.long q3)] [] pd_2 rfl at_224 rfl rfl E_b90_110 rfl rfl rfl (by decide) (by decide) (by decide) (by decide) ?_
        rintro _ T113 L113 X113 ⟨rfl, N113, e113⟩
        have N113 := Fr.app N110 N113
        show Go p e below _ (T113.setTop (mkF m 227 _ [(.int (1 : Int32))]))
        refine own_iload 229 X113 hx hby at_227 rfl rfl ?_
        refine own_icN 232 X113 hx hby at_229 rfl (by decide) ?_
        refine own_iconst 233 (1 : Int32) X113 hx hby at_232 rfl (by decide) ?_
        refine own_goto 237 X113 hx hby at_233 (by decide) (by decide) ?_
        exact own_ret (Q := own_Q1 n0) X113 hx hby hret hlk at_237 rfl (Or.inl ⟨rfl, by simp, _, rfl⟩) (by decide) (by decide) ⟨rfl, N113⟩
    · refine own_irem 21 (2 : Int32) X5 hx hby at_20 rfl (by decide) hv6 ?_
      refine own_istore 23 #[oJ q0, oS, oJ q1, oS, oJ q2, oS, oJ q3, oS, oI x4, oJ q1, oS, oJ q0, oS, oI (2 : Int32), oU, oU, oU, oU, oU, oU, oU] X5 hx hby at_21 rfl rfl ?_
      refine own_iload 25 X5 hx hby at_23 rfl rfl ?_
      refine own_iconst 26 (1 : Int32) X5 hx hby at_25 rfl (by decide) ?_
      refine own_icN 29 X5 hx hby at_26 rfl (by decide) ?_
      refine own_iconst 30 (1 : Int32) X5 hx hby at_29 rfl (by decide) ?_
      refine own_goto 34 X5 hx hby at_30 (by decide) (by decide) ?_
      refine own_istore 36 #[oJ q0, oS, oJ q1, oS, oJ q2, oS, oJ q3, oS, oI x4, oJ q1, oS, oJ q0, oS, oI (2 : Int32), oI (1 : Int32), oU, oU, oU, oU, oU, oU] X5 hx hby at_34 rfl rfl ?_
      refine own_iload 38 X5 hx hby at_36 rfl rfl ?_
      refine own_iconst 39 (2 : Int32) X5 hx hby at_38 rfl (by decide) ?_
      refine own_icN 42 X5 hx hby at_39 rfl (by decide) ?_
      refine own_lload 44 X5 hx hby at_42 rfl rfl ?_
      refine own_lload 46 X5 hx hby at_44 rfl rfl ?_
      refine own_lcmp 47 (XT.cmpL q0 q1) X5 hx hby at_46 rfl rfl ?_
      refine own_ifN 50 X5 hx hby at_47 rfl (own_tltL hc2).2.2.2 ?_
      refine own_iconst 51 (1 : Int32) X5 hx hby at_50 rfl (by decide) ?_
      refine own_goto 55 X5 hx hby at_51 (by decide) (by decide) ?_
      refine own_istore 57 #[oJ q0, oS, oJ q1, oS, oJ q2, oS, oJ q3, oS, oI x4, oJ q1, oS, oJ q0, oS, oI (2 : Int32), oI (1 : Int32), oI (1 : Int32), oU, oU, oU, oU, oU] X5 hx hby at_55 rfl rfl ?_
      refine own_iload 59 X5 hx hby at_57 rfl rfl ?_
      refine own_bipush 61 (8 : Int32) X5 hx hby at_59 rfl (by decide) ?_
      obtain ⟨v114, dv114⟩ : ∃ z, z = (XT.ushr x4 (8 : Int32)) := ⟨_, rfl⟩
      refine own_iushr 62 v114 X5 hx hby at_61 rfl dv114.symm ?_
      refine own_iconst 63 (1 : Int32) X5 hx hby at_62 rfl (by decide) ?_
      rcases own_and1 v114 with hv115 | hv115
      · refine own_iand 64 (0 : Int32) X5 hx hby at_63 rfl hv115 ?_
        refine own_ifY 71 X5 hx hby at_64 (by decide) (by decide) (by decide) ?_
        refine own_iconst 72 (0 : Int32) X5 hx hby at_71 rfl (by decide) ?_
        refine own_istore 74 #[oJ q0, oS, oJ q1, oS, oJ q2, oS, oJ q3, oS, oI x4, oJ q1, oS, oJ q0, oS, oI (2 : Int32), oI (1 : Int32), oI (1 : Int32), oI (0 : Int32), oU, oU, oU, oU] X5 hx hby at_72 rfl rfl ?_
        refine own_new 77 6 X5 hx hby hZ hown (own_w hw 8 rfl) (own_w hw 9 rfl) (own_w hw 10 rfl) e5 at_74 rfl (by decide) (by decide) ?_
        intro T116 h116 b116 X116 e116 E116 g116 A116 D116
        have n_b116 : n0 ≤ b116 := Nat.le_trans (own_n0 O0) (Nat.le_of_eq g116.symm)
        have O116 := O0.ext E116
        have F_b116_firsts : Fld Z h116 b116 "com/example/meter/meter/store/Spans" "firsts" "[J" .null := D116 (Or.inl (own_w hw 20 rfl)) (ty := (.array .long)) (by decide)
        have F_b116_lasts : Fld Z h116 b116 "com/example/meter/meter/store/Spans" "lasts" "[J" .null := D116 (Or.inl (own_w hw 22 rfl)) (ty := (.array .long)) (by decide)
        have F_b116_totals : Fld Z h116 b116 "com/example/meter/meter/store/Spans" "totals" "[J" .null := D116 (Or.inl (own_w hw 24 rfl)) (ty := (.array .long)) (by decide)
        have F_b116_head : Fld Z h116 b116 "com/example/meter/meter/store/Spans" "head" "I" (.int (0 : Int32)) := D116 (Or.inl (own_w hw 31 rfl)) (ty := .int) (by decide)
        have F_b116_end : Fld Z h116 b116 "com/example/meter/meter/store/Spans" "end" "I" (.int (0 : Int32)) := D116 (Or.inl (own_w hw 33 rfl)) (ty := .int) (by decide)
        have F_b116_droppedTotal : Fld Z h116 b116 "com/example/meter/meter/store/Spans" "droppedTotal" "J" (.long (0 : Int64)) := D116 (Or.inl (own_w hw 60 rfl)) (ty := .long) (by decide)
        refine own_dup 78 X116 hx hby at_77 rfl rfl ?_
        refine own_spec (W := 1) 81 (rm3_5 l Z a0 hw [] w_NONE k_NONE W b116 h116 n0 O116 A116 F_b116_droppedTotal F_b116_end F_b116_firsts F_b116_head F_b116_lasts F_b116_totals n_b116) X116 hx hby hZ hown rfl (own_w hw 11 rfl) (own_w hw 12 rfl) (own_w hw 10 rfl) (own_w hw 13 rfl) (by decide) (by rw [hml]; rfl) b116 [] [(.ref b116)] pd_1 rfl at_78 rfl e116 rfl rfl rfl (by decide) (by decide) (by decide) (by decide) ?_
        rintro _ T117 L117 X117 ⟨rfl, N117, Kc117, E_b116_117, F_b116_droppedTotal_117, F_b116_end_117, F_b116_firsts_117, F_b116_head_117, F_b116_lasts_117, F_b116_totals_117⟩
        have N117 := Fr.app N5 N117
        have O117 := O116.keep Kc117 (allS n_b116 all0)
        show Go p e below _ (T117.setTop (mkF m 81 _ [(.ref b116)]))
        refine own_astore 83 #[oJ q0, oS, oJ q1, oS, oJ q2, oS, oJ q3, oS, oI x4, oJ q1, oS, oJ q0, oS, oI (2 : Int32), oI (1 : Int32), oI (1 : Int32), oI (0 : Int32), oA b116, oU, oU, oU] X117 hx hby at_81 rfl rfl rfl ?_
        refine own_iload 85 X117 hx hby at_83 rfl rfl ?_
        refine own_ifN 88 X117 hx hby at_85 rfl (by decide) ?_
        refine own_aload 90 X117 hx hby at_88 rfl rfl rfl ?_
        refine own_lload 92 X117 hx hby at_90 rfl rfl ?_
        refine own_lconst 93 (1 : Int64) X117 hx hby at_92 rfl (by decide) ?_
        refine own_virt (W := 0) 96 (rm6_14 l Z a0 hw [] w_NONE k_NONE W b116 q1 T117.heap n0 O117 E_b116_117 F_b116_droppedTotal_117 F_b116_end_117 F_b116_firsts_117 F_b116_head_117 F_b116_lasts_117 F_b116_totals_117 n_b116) X117 hx hby hZ hown (own_w hw 34 rfl) (own_w hw 35 rfl) (notFace_of_selects (args := #[]) (mvT hZ (own_w hw 37 rfl))) (own_w hw 37 rfl) (own_w hw 36 rfl) (own_w hw 10 rfl) (own_w hw 38 rfl) (by decide) (by rw [hml]; rfl) b116 [(.long q1), (.long (1 : Int64))] [] pd_7 rfl at_93 rfl rfl E_b116_117 rfl rfl rfl (by decide) (by decide) (by decide) (by decide) ?_
        rintro _ T118 L118 X118 ⟨b118_0, b118_1, b118_2, k118_0, k118_1, k118_2, rfl, N118, Kc118, n_b118_0, sz_b118_0, n_b118_1, sz_b118_1, n_b118_2, sz_b118_2, ne_b118_0_b118_1, ne_b118_0_b118_2, ne_b118_1_b118_2, E_b116_118, F_b116_droppedTotal_118, F_b116_end_118, F_b116_firsts_118, F_b116_head_118, F_b116_lasts_118, F_b116_totals_118, V_b118_0_118, V_b118_1_118, V_b118_2_118⟩
        have N118 := Fr.app N117 N118
        have ne_b116_b118_0 : b116 ≠ b118_0 := Nat.ne_of_lt (Nat.lt_of_lt_of_le E_b116_117.lt sz_b118_0)
        have ne_b116_b118_1 : b116 ≠ b118_1 := Nat.ne_of_lt (Nat.lt_of_lt_of_le E_b116_117.lt sz_b118_1)
        have ne_b116_b118_2 : b116 ≠ b118_2 := Nat.ne_of_lt (Nat.lt_of_lt_of_le E_b116_117.lt sz_b118_2)
        have O118 := O117.keep Kc118 (allS n_b116 all0)
        show Go p e below _ (T118.setTop (mkF m 96 _ []))
        refine own_iload 98 X118 hx hby at_96 rfl rfl ?_
        refine own_ifN 101 X118 hx hby at_98 rfl (by decide) ?_
        refine own_aload 103 X118 hx hby at_101 rfl rfl rfl ?_
        refine own_lload 105 X118 hx hby at_103 rfl rfl ?_
        refine own_lconst 106 (1 : Int64) X118 hx hby at_105 rfl (by decide) ?_
        refine own_virt (W := 0) 109 (rm6_21 l Z a0 hw [] w_NONE k_NONE W b116 b118_0 k118_0 b118_1 k118_1 b118_2 k118_2 q0 q1 T118.heap n0 O118 E_b116_118 F_b116_droppedTotal_118 F_b116_end_118 F_b116_firsts_118 F_b116_head_118 F_b116_lasts_118 F_b116_totals_118 n_b116 V_b118_0_118 n_b118_0 V_b118_1_118 n_b118_1 V_b118_2_118 n_b118_2 ne_b116_b118_0 ne_b116_b118_1 ne_b116_b118_2 ne_b118_0_b118_1 ne_b118_0_b118_2 ne_b118_1_b118_2) X118 hx hby hZ hown (own_w hw 34 rfl) (own_w hw 35 rfl) (notFace_of_selects (args := #[]) (mvT hZ (own_w hw 37 rfl))) (own_w hw 37 rfl) (own_w hw 36 rfl) (own_w hw 10 rfl) (own_w hw 38 rfl) (by decide) (by rw [hml]; rfl) b116 [(.long q0), (.long (1 : Int64))] [] pd_7 rfl at_106 rfl rfl E_b116_118 rfl rfl rfl (by decide) (by decide) (by decide) (by decide) ?_
        rintro _ T136 L136 X136 ⟨rfl, N136, Kc136, E_b116_136, F_b116_droppedTotal_136, F_b116_end_136, F_b116_firsts_136, F_b116_head_136, F_b116_lasts_136, F_b116_totals_136, V_b118_0_136, V_b118_1_136, V_b118_2_136⟩
        have N136 := Fr.app N118 N136
        have O136 := O118.keep Kc136 (allS n_b118_0 (allS n_b118_1 (allS n_b118_2 (allS n_b116 all0))))
        show Go p e below _ (T136.setTop (mkF m 109 _ []))
        refine own_iload 111 X136 hx hby at_109 rfl rfl ?_
        refine own_ifY 121 X136 hx hby at_111 (by decide) (by decide) (by decide) ?_
        refine own_iload 123 X136 hx hby at_121 rfl rfl ?_
        refine own_ifN 126 X136 hx hby at_123 rfl (by decide) ?_
        refine own_iload 128 X136 hx hby at_126 rfl rfl ?_
        refine own_ifY 139 X136 hx hby at_128 (by decide) (by decide) (by decide) ?_
        refine own_iconst 140 (1 : Int32) X136 hx hby at_139 rfl (by decide) ?_
        refine own_goto 144 X136 hx hby at_140 (by decide) (by decide) ?_
        refine own_istore 146 #[oJ q0, oS, oJ q1, oS, oJ q2, oS, oJ q3, oS, oI x4, oJ q1, oS, oJ q0, oS, oI (2 : Int32), oI (1 : Int32), oI (1 : Int32), oI (0 : Int32), oA b116, oI (1 : Int32), oU, oU] X136 hx hby at_144 rfl rfl ?_
        refine own_iload 148 X136 hx hby at_146 rfl rfl ?_
        refine own_ifN 151 X136 hx hby at_148 rfl (by decide) ?_
        refine own_iload 153 X136 hx hby at_151 rfl rfl ?_
        refine own_ifY 164 X136 hx hby at_153 (by decide) (by decide) (by decide) ?_
        refine own_iconst 165 (1 : Int32) X136 hx hby at_164 rfl (by decide) ?_
        refine own_goto 169 X136 hx hby at_165 (by decide) (by decide) ?_
        refine own_istore 171 #[oJ q0, oS, oJ q1, oS, oJ q2, oS, oJ q3, oS, oI x4, oJ q1, oS, oJ q0, oS, oI (2 : Int32), oI (1 : Int32), oI (1 : Int32), oI (0 : Int32), oA b116, oI (1 : Int32), oI (1 : Int32), oU] X136 hx hby at_169 rfl rfl ?_
        refine own_iload 173 X136 hx hby at_171 rfl rfl ?_
        refine own_ifN 176 X136 hx hby at_173 rfl (by decide) ?_
        refine own_lload 178 X136 hx hby at_176 rfl rfl ?_
        refine own_lload 180 X136 hx hby at_178 rfl rfl ?_
        refine own_lcmp 181 (XT.cmpL q1 q3) X136 hx hby at_180 rfl rfl ?_
        by_cases hc137 : q3 < q1
        · refine own_ifN 184 X136 hx hby at_181 rfl (own_tltL hc137).2.2.2 ?_
          refine own_iconst 185 (1 : Int32) X136 hx hby at_184 rfl (by decide) ?_
          refine own_goto 189 X136 hx hby at_185 (by decide) (by decide) ?_
          refine own_istore 191 #[oJ q0, oS, oJ q1, oS, oJ q2, oS, oJ q3, oS, oI x4, oJ q1, oS, oJ q0, oS, oI (2 : Int32), oI (1 : Int32), oI (1 : Int32), oI (0 : Int32), oA b116, oI (1 : Int32), oI (1 : Int32), oI (1 : Int32)] X136 hx hby at_189 rfl rfl ?_
          refine own_goto 220 X136 hx hby at_191 (by decide) (by decide) ?_
          refine own_aload 222 X136 hx hby at_220 rfl rfl rfl ?_
          refine own_lload 224 X136 hx hby at_222 rfl rfl ?_
          refine own_virt (W := 0) 227 (rm5_22 l Z a0 hw [] w_NONE k_NONE W b116 b118_0 k118_0 b118_1 k118_1 b118_2 k118_2 q3 q1 q0 T136.heap n0 O136 E_b116_136 F_b116_droppedTotal_136 F_b116_end_136 F_b116_firsts_136 F_b116_head_136 F_b116_lasts_136 F_b116_totals_136 n_b116 V_b118_0_136 n_b118_0 V_b118_1_136 n_b118_1 V_b118_2_136 n_b118_2 ne_b116_b118_0 ne_b116_b118_1 ne_b116_b118_2 ne_b118_0_b118_1 ne_b118_0_b118_2 ne_b118_1_b118_2 hc137) X136 hx hby hZ hown (own_w hw 25 rfl) (own_w hw 26 rfl) (notFace_of_selects (args := #[]) (mvT hZ (own_w hw 28 rfl))) (own_w hw 28 rfl) (own_w hw 27 rfl) (own_w hw 10 rfl) (own_w hw 29 rfl) (by decide) (by rw [hml]; rfl) b116 [(.long q3)] [] pd_2 rfl at_224 rfl rfl E_b116_136 rfl rfl rfl (by decide) (by decide) (by decide) (by decide) ?_
          rintro _ T143 L143 X143 ⟨rfl, N143, e143⟩
          have N143 := Fr.app N136 N143
          show Go p e below _ (T143.setTop (mkF m 227 _ [(.int (1 : Int32))]))
          refine own_iload 229 X143 hx hby at_227 rfl rfl ?_
          refine own_icN 232 X143 hx hby at_229 rfl (by decide) ?_
          refine own_iconst 233 (1 : Int32) X143 hx hby at_232 rfl (by decide) ?_
          refine own_goto 237 X143 hx hby at_233 (by decide) (by decide) ?_
          exact own_ret (Q := own_Q1 n0) X143 hx hby hret hlk at_237 rfl (Or.inl ⟨rfl, by simp, _, rfl⟩) (by decide) (by decide) ⟨rfl, N143⟩
        refine own_ifY 188 X136 hx hby at_181 (by decide) (by decide) (own_fltL hc137).2.2.2 ?_
        refine own_iconst 189 (0 : Int32) X136 hx hby at_188 rfl (by decide) ?_
        refine own_istore 191 #[oJ q0, oS, oJ q1, oS, oJ q2, oS, oJ q3, oS, oI x4, oJ q1, oS, oJ q0, oS, oI (2 : Int32), oI (1 : Int32), oI (1 : Int32), oI (0 : Int32), oA b116, oI (1 : Int32), oI (1 : Int32), oI (0 : Int32)] X136 hx hby at_189 rfl rfl ?_
        refine own_goto 220 X136 hx hby at_191 (by decide) (by decide) ?_
        refine own_aload 222 X136 hx hby at_220 rfl rfl rfl ?_
        refine own_lload 224 X136 hx hby at_222 rfl rfl ?_
        refine own_virt (W := 0) 227 (rm5_23 l Z a0 hw [] w_NONE k_NONE W b116 b118_0 k118_0 b118_1 k118_1 b118_2 k118_2 q3 q1 q0 T136.heap n0 O136 E_b116_136 F_b116_droppedTotal_136 F_b116_end_136 F_b116_firsts_136 F_b116_head_136 F_b116_lasts_136 F_b116_totals_136 n_b116 V_b118_0_136 n_b118_0 V_b118_1_136 n_b118_1 V_b118_2_136 n_b118_2 ne_b116_b118_0 ne_b116_b118_1 ne_b116_b118_2 ne_b118_0_b118_1 ne_b118_0_b118_2 ne_b118_1_b118_2 hc137) X136 hx hby hZ hown (own_w hw 25 rfl) (own_w hw 26 rfl) (notFace_of_selects (args := #[]) (mvT hZ (own_w hw 28 rfl))) (own_w hw 28 rfl) (own_w hw 27 rfl) (own_w hw 10 rfl) (own_w hw 29 rfl) (by decide) (by rw [hml]; rfl) b116 [(.long q3)] [] pd_2 rfl at_224 rfl rfl E_b116_136 rfl rfl rfl (by decide) (by decide) (by decide) (by decide) ?_
        rintro _ T144 L144 X144 ⟨rfl, N144, e144⟩
        have N144 := Fr.app N136 N144
        show Go p e below _ (T144.setTop (mkF m 227 _ [(.int (0 : Int32))]))
        refine own_iload 229 X144 hx hby at_227 rfl rfl ?_
        refine own_icN 232 X144 hx hby at_229 rfl (by decide) ?_
        refine own_iconst 233 (1 : Int32) X144 hx hby at_232 rfl (by decide) ?_
        refine own_goto 237 X144 hx hby at_233 (by decide) (by decide) ?_
        exact own_ret (Q := own_Q1 n0) X144 hx hby hret hlk at_237 rfl (Or.inl ⟨rfl, by simp, _, rfl⟩) (by decide) (by decide) ⟨rfl, N144⟩
      · refine own_iand 64 (1 : Int32) X5 hx hby at_63 rfl hv115 ?_
        refine own_ifN 67 X5 hx hby at_64 rfl (by decide) ?_
        refine own_iconst 68 (1 : Int32) X5 hx hby at_67 rfl (by decide) ?_
        refine own_goto 72 X5 hx hby at_68 (by decide) (by decide) ?_
        refine own_istore 74 #[oJ q0, oS, oJ q1, oS, oJ q2, oS, oJ q3, oS, oI x4, oJ q1, oS, oJ q0, oS, oI (2 : Int32), oI (1 : Int32), oI (1 : Int32), oI (1 : Int32), oU, oU, oU, oU] X5 hx hby at_72 rfl rfl ?_
        refine own_new 77 6 X5 hx hby hZ hown (own_w hw 8 rfl) (own_w hw 9 rfl) (own_w hw 10 rfl) e5 at_74 rfl (by decide) (by decide) ?_
        intro T145 h145 b145 X145 e145 E145 g145 A145 D145
        have n_b145 : n0 ≤ b145 := Nat.le_trans (own_n0 O0) (Nat.le_of_eq g145.symm)
        have O145 := O0.ext E145
        have F_b145_firsts : Fld Z h145 b145 "com/example/meter/meter/store/Spans" "firsts" "[J" .null := D145 (Or.inl (own_w hw 20 rfl)) (ty := (.array .long)) (by decide)
        have F_b145_lasts : Fld Z h145 b145 "com/example/meter/meter/store/Spans" "lasts" "[J" .null := D145 (Or.inl (own_w hw 22 rfl)) (ty := (.array .long)) (by decide)
        have F_b145_totals : Fld Z h145 b145 "com/example/meter/meter/store/Spans" "totals" "[J" .null := D145 (Or.inl (own_w hw 24 rfl)) (ty := (.array .long)) (by decide)
        have F_b145_head : Fld Z h145 b145 "com/example/meter/meter/store/Spans" "head" "I" (.int (0 : Int32)) := D145 (Or.inl (own_w hw 31 rfl)) (ty := .int) (by decide)
        have F_b145_end : Fld Z h145 b145 "com/example/meter/meter/store/Spans" "end" "I" (.int (0 : Int32)) := D145 (Or.inl (own_w hw 33 rfl)) (ty := .int) (by decide)
        have F_b145_droppedTotal : Fld Z h145 b145 "com/example/meter/meter/store/Spans" "droppedTotal" "J" (.long (0 : Int64)) := D145 (Or.inl (own_w hw 60 rfl)) (ty := .long) (by decide)
        refine own_dup 78 X145 hx hby at_77 rfl rfl ?_
        refine own_spec (W := 1) 81 (rm3_5 l Z a0 hw [] w_NONE k_NONE W b145 h145 n0 O145 A145 F_b145_droppedTotal F_b145_end F_b145_firsts F_b145_head F_b145_lasts F_b145_totals n_b145) X145 hx hby hZ hown rfl (own_w hw 11 rfl) (own_w hw 12 rfl) (own_w hw 10 rfl) (own_w hw 13 rfl) (by decide) (by rw [hml]; rfl) b145 [] [(.ref b145)] pd_1 rfl at_78 rfl e145 rfl rfl rfl (by decide) (by decide) (by decide) (by decide) ?_
        rintro _ T146 L146 X146 ⟨rfl, N146, Kc146, E_b145_146, F_b145_droppedTotal_146, F_b145_end_146, F_b145_firsts_146, F_b145_head_146, F_b145_lasts_146, F_b145_totals_146⟩
        have N146 := Fr.app N5 N146
        have O146 := O145.keep Kc146 (allS n_b145 all0)
        show Go p e below _ (T146.setTop (mkF m 81 _ [(.ref b145)]))
        refine own_astore 83 #[oJ q0, oS, oJ q1, oS, oJ q2, oS, oJ q3, oS, oI x4, oJ q1, oS, oJ q0, oS, oI (2 : Int32), oI (1 : Int32), oI (1 : Int32), oI (1 : Int32), oA b145, oU, oU, oU] X146 hx hby at_81 rfl rfl rfl ?_
        refine own_iload 85 X146 hx hby at_83 rfl rfl ?_
        refine own_ifN 88 X146 hx hby at_85 rfl (by decide) ?_
        refine own_aload 90 X146 hx hby at_88 rfl rfl rfl ?_
        refine own_lload 92 X146 hx hby at_90 rfl rfl ?_
        refine own_lconst 93 (1 : Int64) X146 hx hby at_92 rfl (by decide) ?_
        refine own_virt (W := 0) 96 (rm6_14 l Z a0 hw [] w_NONE k_NONE W b145 q1 T146.heap n0 O146 E_b145_146 F_b145_droppedTotal_146 F_b145_end_146 F_b145_firsts_146 F_b145_head_146 F_b145_lasts_146 F_b145_totals_146 n_b145) X146 hx hby hZ hown (own_w hw 34 rfl) (own_w hw 35 rfl) (notFace_of_selects (args := #[]) (mvT hZ (own_w hw 37 rfl))) (own_w hw 37 rfl) (own_w hw 36 rfl) (own_w hw 10 rfl) (own_w hw 38 rfl) (by decide) (by rw [hml]; rfl) b145 [(.long q1), (.long (1 : Int64))] [] pd_7 rfl at_93 rfl rfl E_b145_146 rfl rfl rfl (by decide) (by decide) (by decide) (by decide) ?_
        rintro _ T147 L147 X147 ⟨b147_0, b147_1, b147_2, k147_0, k147_1, k147_2, rfl, N147, Kc147, n_b147_0, sz_b147_0, n_b147_1, sz_b147_1, n_b147_2, sz_b147_2, ne_b147_0_b147_1, ne_b147_0_b147_2, ne_b147_1_b147_2, E_b145_147, F_b145_droppedTotal_147, F_b145_end_147, F_b145_firsts_147, F_b145_head_147, F_b145_lasts_147, F_b145_totals_147, V_b147_0_147, V_b147_1_147, V_b147_2_147⟩
        have N147 := Fr.app N146 N147
        have ne_b145_b147_0 : b145 ≠ b147_0 := Nat.ne_of_lt (Nat.lt_of_lt_of_le E_b145_146.lt sz_b147_0)
        have ne_b145_b147_1 : b145 ≠ b147_1 := Nat.ne_of_lt (Nat.lt_of_lt_of_le E_b145_146.lt sz_b147_1)
        have ne_b145_b147_2 : b145 ≠ b147_2 := Nat.ne_of_lt (Nat.lt_of_lt_of_le E_b145_146.lt sz_b147_2)
        have O147 := O146.keep Kc147 (allS n_b145 all0)
        show Go p e below _ (T147.setTop (mkF m 96 _ []))
        refine own_iload 98 X147 hx hby at_96 rfl rfl ?_
        refine own_ifN 101 X147 hx hby at_98 rfl (by decide) ?_
        refine own_aload 103 X147 hx hby at_101 rfl rfl rfl ?_
        refine own_lload 105 X147 hx hby at_103 rfl rfl ?_
        refine own_lconst 106 (1 : Int64) X147 hx hby at_105 rfl (by decide) ?_
        refine own_virt (W := 0) 109 (rm6_21 l Z a0 hw [] w_NONE k_NONE W b145 b147_0 k147_0 b147_1 k147_1 b147_2 k147_2 q0 q1 T147.heap n0 O147 E_b145_147 F_b145_droppedTotal_147 F_b145_end_147 F_b145_firsts_147 F_b145_head_147 F_b145_lasts_147 F_b145_totals_147 n_b145 V_b147_0_147 n_b147_0 V_b147_1_147 n_b147_1 V_b147_2_147 n_b147_2 ne_b145_b147_0 ne_b145_b147_1 ne_b145_b147_2 ne_b147_0_b147_1 ne_b147_0_b147_2 ne_b147_1_b147_2) X147 hx hby hZ hown (own_w hw 34 rfl) (own_w hw 35 rfl) (notFace_of_selects (args := #[]) (mvT hZ (own_w hw 37 rfl))) (own_w hw 37 rfl) (own_w hw 36 rfl) (own_w hw 10 rfl) (own_w hw 38 rfl) (by decide) (by rw [hml]; rfl) b145 [(.long q0), (.long (1 : Int64))] [] pd_7 rfl at_106 rfl rfl E_b145_147 rfl rfl rfl (by decide) (by decide) (by decide) (by decide) ?_
        rintro _ T148 L148 X148 ⟨rfl, N148, Kc148, E_b145_148, F_b145_droppedTotal_148, F_b145_end_148, F_b145_firsts_148, F_b145_head_148, F_b145_lasts_148, F_b145_totals_148, V_b147_0_148, V_b147_1_148, V_b147_2_148⟩
        have N148 := Fr.app N147 N148
        have O148 := O147.keep Kc148 (allS n_b147_0 (allS n_b147_1 (allS n_b147_2 (allS n_b145 all0))))
        show Go p e below _ (T148.setTop (mkF m 109 _ []))
        refine own_iload 111 X148 hx hby at_109 rfl rfl ?_
        refine own_ifN 114 X148 hx hby at_111 rfl (by decide) ?_
        refine own_aload 116 X148 hx hby at_114 rfl rfl rfl ?_
        refine own_lload 118 X148 hx hby at_116 rfl rfl ?_
        by_cases hc171 : q2 < q1
        · refine own_virt (W := 0) 121 (rm11_24 l Z a0 hw [] w_NONE k_NONE W b145 b147_0 k147_0 b147_1 k147_1 b147_2 k147_2 q2 q1 q0 T148.heap n0 O148 E_b145_148 F_b145_droppedTotal_148 F_b145_end_148 F_b145_firsts_148 F_b145_head_148 F_b145_lasts_148 F_b145_totals_148 n_b145 V_b147_0_148 n_b147_0 V_b147_1_148 n_b147_1 V_b147_2_148 n_b147_2 ne_b145_b147_0 ne_b145_b147_1 ne_b145_b147_2 ne_b147_0_b147_1 ne_b147_0_b147_2 ne_b147_1_b147_2 hc171) X148 hx hby hZ hown (own_w hw 61 rfl) (own_w hw 62 rfl) (notFace_of_selects (args := #[]) (mvT hZ (own_w hw 64 rfl))) (own_w hw 64 rfl) (own_w hw 63 rfl) (own_w hw 10 rfl) (own_w hw 65 rfl) (by decide) (by rw [hml]; rfl) b145 [(.long q2)] [] pd_3 rfl at_118 rfl rfl E_b145_148 rfl rfl rfl (by decide) (by decide) (by decide) (by decide) ?_
          rintro _ T172 L172 X172 ⟨rfl, N172, e172⟩
          have N172 := Fr.app N148 N172
          show Go p e below _ (T172.setTop (mkF m 121 _ []))
          refine own_iload 123 X172 hx hby at_121 rfl rfl ?_
          refine own_ifN 126 X172 hx hby at_123 rfl (by decide) ?_
          refine own_iload 128 X172 hx hby at_126 rfl rfl ?_
          refine own_ifN 131 X172 hx hby at_128 rfl (by decide) ?_
          refine own_lload 133 X172 hx hby at_131 rfl rfl ?_
          refine own_lload 135 X172 hx hby at_133 rfl rfl ?_
          refine own_lcmp 136 (XT.cmpL q1 q2) X172 hx hby at_135 rfl rfl ?_
          refine own_ifN 139 X172 hx hby at_136 rfl (own_tltL hc171).2.2.2 ?_
          refine own_iconst 140 (1 : Int32) X172 hx hby at_139 rfl (by decide) ?_
          refine own_goto 144 X172 hx hby at_140 (by decide) (by decide) ?_
          refine own_istore 146 #[oJ q0, oS, oJ q1, oS, oJ q2, oS, oJ q3, oS, oI x4, oJ q1, oS, oJ q0, oS, oI (2 : Int32), oI (1 : Int32), oI (1 : Int32), oI (1 : Int32), oA b145, oI (1 : Int32), oU, oU] X172 hx hby at_144 rfl rfl ?_
          refine own_iload 148 X172 hx hby at_146 rfl rfl ?_
          refine own_ifN 151 X172 hx hby at_148 rfl (by decide) ?_
          refine own_iload 153 X172 hx hby at_151 rfl rfl ?_
          refine own_ifN 156 X172 hx hby at_153 rfl (by decide) ?_
          refine own_lload 158 X172 hx hby at_156 rfl rfl ?_
          refine own_lload 160 X172 hx hby at_158 rfl rfl ?_
          refine own_lcmp 161 (XT.cmpL q0 q2) X172 hx hby at_160 rfl rfl ?_
          refine own_ifN 164 X172 hx hby at_161 rfl (own_tltL (by have : -2 ^ 63 ≤ (q2).toInt ∧ (q2).toInt < 2 ^ 63 := own_rngJ q2; have : -2 ^ 63 ≤ (q0).toInt ∧ (q0).toInt < 2 ^ 63 := own_rngJ q0; have : -2 ^ 63 ≤ (q1).toInt ∧ (q1).toInt < 2 ^ 63 := own_rngJ q1; have : (q1).toInt < (q0).toInt := Int64.lt_iff_toInt_lt.mp hc2; have : (q2).toInt < (q1).toInt := Int64.lt_iff_toInt_lt.mp hc171; exact Int64.lt_iff_toInt_lt.mpr (by omega))).2.2.2 ?_
          refine own_iconst 165 (1 : Int32) X172 hx hby at_164 rfl (by decide) ?_
          refine own_goto 169 X172 hx hby at_165 (by decide) (by decide) ?_
          refine own_istore 171 #[oJ q0, oS, oJ q1, oS, oJ q2, oS, oJ q3, oS, oI x4, oJ q1, oS, oJ q0, oS, oI (2 : Int32), oI (1 : Int32), oI (1 : Int32), oI (1 : Int32), oA b145, oI (1 : Int32), oI (1 : Int32), oU] X172 hx hby at_169 rfl rfl ?_
          refine own_iload 173 X172 hx hby at_171 rfl rfl ?_
          refine own_ifN 176 X172 hx hby at_173 rfl (by decide) ?_
          refine own_lload 178 X172 hx hby at_176 rfl rfl ?_
          refine own_lload 180 X172 hx hby at_178 rfl rfl ?_
          refine own_lcmp 181 (XT.cmpL q1 q3) X172 hx hby at_180 rfl rfl ?_
          by_cases hc173 : q3 < q1
          · refine own_ifN 184 X172 hx hby at_181 rfl (own_tltL hc173).2.2.2 ?_
            refine own_iconst 185 (1 : Int32) X172 hx hby at_184 rfl (by decide) ?_
            refine own_goto 189 X172 hx hby at_185 (by decide) (by decide) ?_
            refine own_istore 191 #[oJ q0, oS, oJ q1, oS, oJ q2, oS, oJ q3, oS, oI x4, oJ q1, oS, oJ q0, oS, oI (2 : Int32), oI (1 : Int32), oI (1 : Int32), oI (1 : Int32), oA b145, oI (1 : Int32), oI (1 : Int32), oI (1 : Int32)] X172 hx hby at_189 rfl rfl ?_
            refine own_goto 220 X172 hx hby at_191 (by decide) (by decide) ?_
            refine own_aload 222 X172 hx hby at_220 rfl rfl rfl ?_
            refine own_lload 224 X172 hx hby at_222 rfl rfl ?_
            refine own_virt (W := 0) 227 (rm5_22 l Z a0 hw [] w_NONE k_NONE W b145 b147_0 k147_0 b147_1 k147_1 b147_2 k147_2 q3 q1 q0 T148.heap n0 O148 E_b145_148 F_b145_droppedTotal_148 F_b145_end_148 F_b145_firsts_148 F_b145_head_148 F_b145_lasts_148 F_b145_totals_148 n_b145 V_b147_0_148 n_b147_0 V_b147_1_148 n_b147_1 V_b147_2_148 n_b147_2 ne_b145_b147_0 ne_b145_b147_1 ne_b145_b147_2 ne_b147_0_b147_1 ne_b147_0_b147_2 ne_b147_1_b147_2 hc173) X172 hx hby hZ hown (own_w hw 25 rfl) (own_w hw 26 rfl) (notFace_of_selects (args := #[]) (mvT hZ (own_w hw 28 rfl))) (own_w hw 28 rfl) (own_w hw 27 rfl) (own_w hw 10 rfl) (own_w hw 29 rfl) (by decide) (by rw [hml]; rfl) b145 [(.long q3)] [] pd_2 rfl at_224 rfl e172 E_b145_148 rfl rfl rfl (by decide) (by decide) (by decide) (by decide) ?_
            rintro _ T174 L174 X174 ⟨rfl, N174, e174⟩
            have N174 := Fr.app N172 N174
            show Go p e below _ (T174.setTop (mkF m 227 _ [(.int (1 : Int32))]))
            refine own_iload 229 X174 hx hby at_227 rfl rfl ?_
            refine own_icN 232 X174 hx hby at_229 rfl (by decide) ?_
            refine own_iconst 233 (1 : Int32) X174 hx hby at_232 rfl (by decide) ?_
            refine own_goto 237 X174 hx hby at_233 (by decide) (by decide) ?_
            exact own_ret (Q := own_Q1 n0) X174 hx hby hret hlk at_237 rfl (Or.inl ⟨rfl, by simp, _, rfl⟩) (by decide) (by decide) ⟨rfl, N174⟩
          refine own_ifY 188 X172 hx hby at_181 (by decide) (by decide) (own_fltL hc173).2.2.2 ?_
          refine own_iconst 189 (0 : Int32) X172 hx hby at_188 rfl (by decide) ?_
          refine own_istore 191 #[oJ q0, oS, oJ q1, oS, oJ q2, oS, oJ q3, oS, oI x4, oJ q1, oS, oJ q0, oS, oI (2 : Int32), oI (1 : Int32), oI (1 : Int32), oI (1 : Int32), oA b145, oI (1 : Int32), oI (1 : Int32), oI (0 : Int32)] X172 hx hby at_189 rfl rfl ?_
          refine own_goto 220 X172 hx hby at_191 (by decide) (by decide) ?_
          refine own_aload 222 X172 hx hby at_220 rfl rfl rfl ?_
          refine own_lload 224 X172 hx hby at_222 rfl rfl ?_
          refine own_virt (W := 0) 227 (rm5_23 l Z a0 hw [] w_NONE k_NONE W b145 b147_0 k147_0 b147_1 k147_1 b147_2 k147_2 q3 q1 q0 T148.heap n0 O148 E_b145_148 F_b145_droppedTotal_148 F_b145_end_148 F_b145_firsts_148 F_b145_head_148 F_b145_lasts_148 F_b145_totals_148 n_b145 V_b147_0_148 n_b147_0 V_b147_1_148 n_b147_1 V_b147_2_148 n_b147_2 ne_b145_b147_0 ne_b145_b147_1 ne_b145_b147_2 ne_b147_0_b147_1 ne_b147_0_b147_2 ne_b147_1_b147_2 hc173) X172 hx hby hZ hown (own_w hw 25 rfl) (own_w hw 26 rfl) (notFace_of_selects (args := #[]) (mvT hZ (own_w hw 28 rfl))) (own_w hw 28 rfl) (own_w hw 27 rfl) (own_w hw 10 rfl) (own_w hw 29 rfl) (by decide) (by rw [hml]; rfl) b145 [(.long q3)] [] pd_2 rfl at_224 rfl e172 E_b145_148 rfl rfl rfl (by decide) (by decide) (by decide) (by decide) ?_
          rintro _ T175 L175 X175 ⟨rfl, N175, e175⟩
          have N175 := Fr.app N172 N175
          show Go p e below _ (T175.setTop (mkF m 227 _ [(.int (0 : Int32))]))
          refine own_iload 229 X175 hx hby at_227 rfl rfl ?_
          refine own_icN 232 X175 hx hby at_229 rfl (by decide) ?_
          refine own_iconst 233 (1 : Int32) X175 hx hby at_232 rfl (by decide) ?_
          refine own_goto 237 X175 hx hby at_233 (by decide) (by decide) ?_
          exact own_ret (Q := own_Q1 n0) X175 hx hby hret hlk at_237 rfl (Or.inl ⟨rfl, by simp, _, rfl⟩) (by decide) (by decide) ⟨rfl, N175⟩
        by_cases hc176 : q2 < q0
        · refine own_virt (W := 0) 121 (rm11_25 l Z a0 hw [] w_NONE k_NONE W b145 b147_0 k147_0 b147_1 k147_1 b147_2 k147_2 q2 q1 q0 T148.heap n0 O148 E_b145_148 F_b145_droppedTotal_148 F_b145_end_148 F_b145_firsts_148 F_b145_head_148 F_b145_lasts_148 F_b145_totals_148 n_b145 V_b147_0_148 n_b147_0 V_b147_1_148 n_b147_1 V_b147_2_148 n_b147_2 ne_b145_b147_0 ne_b145_b147_1 ne_b145_b147_2 ne_b147_0_b147_1 ne_b147_0_b147_2 ne_b147_1_b147_2 hc171 hc176) X148 hx hby hZ hown (own_w hw 61 rfl) (own_w hw 62 rfl) (notFace_of_selects (args := #[]) (mvT hZ (own_w hw 64 rfl))) (own_w hw 64 rfl) (own_w hw 63 rfl) (own_w hw 10 rfl) (own_w hw 65 rfl) (by decide) (by rw [hml]; rfl) b145 [(.long q2)] [] pd_3 rfl at_118 rfl rfl E_b145_148 rfl rfl rfl (by decide) (by decide) (by decide) (by decide) ?_
          rintro _ T177 L177 X177 ⟨rfl, N177, Kc177, E_b145_177, F_b145_droppedTotal_177, F_b145_end_177, F_b145_firsts_177, F_b145_head_177, F_b145_lasts_177, F_b145_totals_177, V_b147_0_177, V_b147_1_177, V_b147_2_177⟩
          have N177 := Fr.app N148 N177
          have O177 := O148.keep Kc177 (allS n_b145 all0)
          show Go p e below _ (T177.setTop (mkF m 121 _ []))
          refine own_iload 123 X177 hx hby at_121 rfl rfl ?_
          refine own_ifN 126 X177 hx hby at_123 rfl (by decide) ?_
          refine own_iload 128 X177 hx hby at_126 rfl rfl ?_
          refine own_ifN 131 X177 hx hby at_128 rfl (by decide) ?_
          refine own_lload 133 X177 hx hby at_131 rfl rfl ?_
          refine own_lload 135 X177 hx hby at_133 rfl rfl ?_
          refine own_lcmp 136 (XT.cmpL q1 q2) X177 hx hby at_135 rfl rfl ?_
          refine own_ifY 143 X177 hx hby at_136 (by decide) (by decide) (own_fltL hc171).2.2.2 ?_
          refine own_iconst 144 (0 : Int32) X177 hx hby at_143 rfl (by decide) ?_
          refine own_istore 146 #[oJ q0, oS, oJ q1, oS, oJ q2, oS, oJ q3, oS, oI x4, oJ q1, oS, oJ q0, oS, oI (2 : Int32), oI (1 : Int32), oI (1 : Int32), oI (1 : Int32), oA b145, oI (0 : Int32), oU, oU] X177 hx hby at_144 rfl rfl ?_
          refine own_iload 148 X177 hx hby at_146 rfl rfl ?_
          refine own_ifN 151 X177 hx hby at_148 rfl (by decide) ?_
          refine own_iload 153 X177 hx hby at_151 rfl rfl ?_
          refine own_ifN 156 X177 hx hby at_153 rfl (by decide) ?_
          refine own_lload 158 X177 hx hby at_156 rfl rfl ?_
          refine own_lload 160 X177 hx hby at_158 rfl rfl ?_
          refine own_lcmp 161 (XT.cmpL q0 q2) X177 hx hby at_160 rfl rfl ?_
          refine own_ifN 164 X177 hx hby at_161 rfl (own_tltL hc176).2.2.2 ?_
          refine own_iconst 165 (1 : Int32) X177 hx hby at_164 rfl (by decide) ?_
          refine own_goto 169 X177 hx hby at_165 (by decide) (by decide) ?_
          refine own_istore 171 #[oJ q0, oS, oJ q1, oS, oJ q2, oS, oJ q3, oS, oI x4, oJ q1, oS, oJ q0, oS, oI (2 : Int32), oI (1 : Int32), oI (1 : Int32), oI (1 : Int32), oA b145, oI (0 : Int32), oI (1 : Int32), oU] X177 hx hby at_169 rfl rfl ?_
          refine own_iload 173 X177 hx hby at_171 rfl rfl ?_
          refine own_ifY 194 X177 hx hby at_173 (by decide) (by decide) (by decide) ?_
          refine own_iload 196 X177 hx hby at_194 rfl rfl ?_
          refine own_ifN 199 X177 hx hby at_196 rfl (by decide) ?_
          refine own_lload 201 X177 hx hby at_199 rfl rfl ?_
          refine own_lload 203 X177 hx hby at_201 rfl rfl ?_
          refine own_lcmp 204 (XT.cmpL q0 q3) X177 hx hby at_203 rfl rfl ?_
          by_cases hc178 : q3 < q0
          · refine own_ifN 207 X177 hx hby at_204 rfl (own_tltL hc178).2.2.2 ?_
            refine own_iconst 208 (1 : Int32) X177 hx hby at_207 rfl (by decide) ?_
            refine own_goto 212 X177 hx hby at_208 (by decide) (by decide) ?_
            refine own_istore 214 #[oJ q0, oS, oJ q1, oS, oJ q2, oS, oJ q3, oS, oI x4, oJ q1, oS, oJ q0, oS, oI (2 : Int32), oI (1 : Int32), oI (1 : Int32), oI (1 : Int32), oA b145, oI (0 : Int32), oI (1 : Int32), oI (1 : Int32)] X177 hx hby at_212 rfl rfl ?_
            refine own_goto 220 X177 hx hby at_214 (by decide) (by decide) ?_
            refine own_aload 222 X177 hx hby at_220 rfl rfl rfl ?_
            refine own_lload 224 X177 hx hby at_222 rfl rfl ?_
            refine own_virt (W := 0) 227 (rm5_27 l Z a0 hw [] w_NONE k_NONE W b145 b147_0 k147_0 b147_1 k147_1 b147_2 k147_2 q3 q1 q0 T177.heap n0 O177 E_b145_177 F_b145_droppedTotal_177 F_b145_end_177 F_b145_firsts_177 F_b145_head_177 F_b145_lasts_177 F_b145_totals_177 n_b145 V_b147_0_177 n_b147_0 V_b147_1_177 n_b147_1 V_b147_2_177 n_b147_2 ne_b145_b147_0 ne_b145_b147_1 ne_b145_b147_2 ne_b147_0_b147_1 ne_b147_0_b147_2 ne_b147_1_b147_2 hc178) X177 hx hby hZ hown (own_w hw 25 rfl) (own_w hw 26 rfl) (notFace_of_selects (args := #[]) (mvT hZ (own_w hw 28 rfl))) (own_w hw 28 rfl) (own_w hw 27 rfl) (own_w hw 10 rfl) (own_w hw 29 rfl) (by decide) (by rw [hml]; rfl) b145 [(.long q3)] [] pd_2 rfl at_224 rfl rfl E_b145_177 rfl rfl rfl (by decide) (by decide) (by decide) (by decide) ?_
            rintro _ T184 L184 X184 ⟨rfl, N184, e184⟩
            have N184 := Fr.app N177 N184
            show Go p e below _ (T184.setTop (mkF m 227 _ [(.int (1 : Int32))]))
            refine own_iload 229 X184 hx hby at_227 rfl rfl ?_
            refine own_icN 232 X184 hx hby at_229 rfl (by decide) ?_
            refine own_iconst 233 (1 : Int32) X184 hx hby at_232 rfl (by decide) ?_
            refine own_goto 237 X184 hx hby at_233 (by decide) (by decide) ?_
            exact own_ret (Q := own_Q1 n0) X184 hx hby hret hlk at_237 rfl (Or.inl ⟨rfl, by simp, _, rfl⟩) (by decide) (by decide) ⟨rfl, N184⟩
          refine own_ifY 211 X177 hx hby at_204 (by decide) (by decide) (own_fltL hc178).2.2.2 ?_
          refine own_iconst 212 (0 : Int32) X177 hx hby at_211 rfl (by decide) ?_
          refine own_istore 214 #[oJ q0, oS, oJ q1, oS, oJ q2, oS, oJ q3, oS, oI x4, oJ q1, oS, oJ q0, oS, oI (2 : Int32), oI (1 : Int32), oI (1 : Int32), oI (1 : Int32), oA b145, oI (0 : Int32), oI (1 : Int32), oI (0 : Int32)] X177 hx hby at_212 rfl rfl ?_
          refine own_goto 220 X177 hx hby at_214 (by decide) (by decide) ?_
          refine own_aload 222 X177 hx hby at_220 rfl rfl rfl ?_
          refine own_lload 224 X177 hx hby at_222 rfl rfl ?_
          refine own_virt (W := 0) 227 (rm5_28 l Z a0 hw [] w_NONE k_NONE W b145 b147_0 k147_0 b147_1 k147_1 b147_2 k147_2 q3 q1 q0 T177.heap n0 O177 E_b145_177 F_b145_droppedTotal_177 F_b145_end_177 F_b145_firsts_177 F_b145_head_177 F_b145_lasts_177 F_b145_totals_177 n_b145 V_b147_0_177 n_b147_0 V_b147_1_177 n_b147_1 V_b147_2_177 n_b147_2 ne_b145_b147_0 ne_b145_b147_1 ne_b145_b147_2 ne_b147_0_b147_1 ne_b147_0_b147_2 ne_b147_1_b147_2 hc178) X177 hx hby hZ hown (own_w hw 25 rfl) (own_w hw 26 rfl) (notFace_of_selects (args := #[]) (mvT hZ (own_w hw 28 rfl))) (own_w hw 28 rfl) (own_w hw 27 rfl) (own_w hw 10 rfl) (own_w hw 29 rfl) (by decide) (by rw [hml]; rfl) b145 [(.long q3)] [] pd_2 rfl at_224 rfl rfl E_b145_177 rfl rfl rfl (by decide) (by decide) (by decide) (by decide) ?_
          rintro _ T185 L185 X185 ⟨rfl, N185, e185⟩
          have N185 := Fr.app N177 N185
          show Go p e below _ (T185.setTop (mkF m 227 _ [(.int (0 : Int32))]))
          refine own_iload 229 X185 hx hby at_227 rfl rfl ?_
          refine own_icN 232 X185 hx hby at_229 rfl (by decide) ?_
          refine own_iconst 233 (1 : Int32) X185 hx hby at_232 rfl (by decide) ?_
          refine own_goto 237 X185 hx hby at_233 (by decide) (by decide) ?_
          exact own_ret (Q := own_Q1 n0) X185 hx hby hret hlk at_237 rfl (Or.inl ⟨rfl, by simp, _, rfl⟩) (by decide) (by decide) ⟨rfl, N185⟩
        refine own_virt (W := 0) 121 (rm11_26 l Z a0 hw [] w_NONE k_NONE W b145 b147_0 k147_0 b147_1 k147_1 b147_2 k147_2 q2 q1 q0 T148.heap n0 O148 E_b145_148 F_b145_droppedTotal_148 F_b145_end_148 F_b145_firsts_148 F_b145_head_148 F_b145_lasts_148 F_b145_totals_148 n_b145 V_b147_0_148 n_b147_0 V_b147_1_148 n_b147_1 V_b147_2_148 n_b147_2 ne_b145_b147_0 ne_b145_b147_1 ne_b145_b147_2 ne_b147_0_b147_1 ne_b147_0_b147_2 ne_b147_1_b147_2 hc171 hc176) X148 hx hby hZ hown (own_w hw 61 rfl) (own_w hw 62 rfl) (notFace_of_selects (args := #[]) (mvT hZ (own_w hw 64 rfl))) (own_w hw 64 rfl) (own_w hw 63 rfl) (own_w hw 10 rfl) (own_w hw 65 rfl) (by decide) (by rw [hml]; rfl) b145 [(.long q2)] [] pd_3 rfl at_118 rfl rfl E_b145_148 rfl rfl rfl (by decide) (by decide) (by decide) (by decide) ?_
        rintro _ T186 L186 X186 ⟨rfl, N186, Kc186, E_b145_186, F_b145_droppedTotal_186, F_b145_end_186, F_b145_firsts_186, F_b145_head_186, F_b145_lasts_186, F_b145_totals_186, V_b147_0_186, V_b147_1_186, V_b147_2_186⟩
        have N186 := Fr.app N148 N186
        have O186 := O148.keep Kc186 (allS n_b145 all0)
        show Go p e below _ (T186.setTop (mkF m 121 _ []))
        refine own_iload 123 X186 hx hby at_121 rfl rfl ?_
        refine own_ifN 126 X186 hx hby at_123 rfl (by decide) ?_
        refine own_iload 128 X186 hx hby at_126 rfl rfl ?_
        refine own_ifN 131 X186 hx hby at_128 rfl (by decide) ?_
        refine own_lload 133 X186 hx hby at_131 rfl rfl ?_
        refine own_lload 135 X186 hx hby at_133 rfl rfl ?_
        refine own_lcmp 136 (XT.cmpL q1 q2) X186 hx hby at_135 rfl rfl ?_
        refine own_ifY 143 X186 hx hby at_136 (by decide) (by decide) (own_fltL hc171).2.2.2 ?_
        refine own_iconst 144 (0 : Int32) X186 hx hby at_143 rfl (by decide) ?_
        refine own_istore 146 #[oJ q0, oS, oJ q1, oS, oJ q2, oS, oJ q3, oS, oI x4, oJ q1, oS, oJ q0, oS, oI (2 : Int32), oI (1 : Int32), oI (1 : Int32), oI (1 : Int32), oA b145, oI (0 : Int32), oU, oU] X186 hx hby at_144 rfl rfl ?_
        refine own_iload 148 X186 hx hby at_146 rfl rfl ?_
        refine own_ifN 151 X186 hx hby at_148 rfl (by decide) ?_
        refine own_iload 153 X186 hx hby at_151 rfl rfl ?_
        refine own_ifN 156 X186 hx hby at_153 rfl (by decide) ?_
        refine own_lload 158 X186 hx hby at_156 rfl rfl ?_
        refine own_lload 160 X186 hx hby at_158 rfl rfl ?_
        refine own_lcmp 161 (XT.cmpL q0 q2) X186 hx hby at_160 rfl rfl ?_
        refine own_ifY 168 X186 hx hby at_161 (by decide) (by decide) (own_fltL hc176).2.2.2 ?_
        refine own_iconst 169 (0 : Int32) X186 hx hby at_168 rfl (by decide) ?_
        refine own_istore 171 #[oJ q0, oS, oJ q1, oS, oJ q2, oS, oJ q3, oS, oI x4, oJ q1, oS, oJ q0, oS, oI (2 : Int32), oI (1 : Int32), oI (1 : Int32), oI (1 : Int32), oA b145, oI (0 : Int32), oI (0 : Int32), oU] X186 hx hby at_169 rfl rfl ?_
        refine own_iload 173 X186 hx hby at_171 rfl rfl ?_
        refine own_ifY 194 X186 hx hby at_173 (by decide) (by decide) (by decide) ?_
        refine own_iload 196 X186 hx hby at_194 rfl rfl ?_
        refine own_ifY 217 X186 hx hby at_196 (by decide) (by decide) (by decide) ?_
        refine own_iconst 218 (1 : Int32) X186 hx hby at_217 rfl (by decide) ?_
        refine own_istore 220 #[oJ q0, oS, oJ q1, oS, oJ q2, oS, oJ q3, oS, oI x4, oJ q1, oS, oJ q0, oS, oI (2 : Int32), oI (1 : Int32), oI (1 : Int32), oI (1 : Int32), oA b145, oI (0 : Int32), oI (0 : Int32), oI (1 : Int32)] X186 hx hby at_218 rfl rfl ?_
        refine own_aload 222 X186 hx hby at_220 rfl rfl rfl ?_
        refine own_lload 224 X186 hx hby at_222 rfl rfl ?_
        refine own_virt (W := 0) 227 (rm5_29 l Z a0 hw [] w_NONE k_NONE W b145 b147_0 k147_0 b147_1 k147_1 b147_2 k147_2 q3 q1 q0 T186.heap n0 O186 E_b145_186 F_b145_droppedTotal_186 F_b145_end_186 F_b145_firsts_186 F_b145_head_186 F_b145_lasts_186 F_b145_totals_186 n_b145 V_b147_0_186 n_b147_0 V_b147_1_186 n_b147_1 V_b147_2_186 n_b147_2 ne_b145_b147_0 ne_b145_b147_1 ne_b145_b147_2 ne_b147_0_b147_1 ne_b147_0_b147_2 ne_b147_1_b147_2) X186 hx hby hZ hown (own_w hw 25 rfl) (own_w hw 26 rfl) (notFace_of_selects (args := #[]) (mvT hZ (own_w hw 28 rfl))) (own_w hw 28 rfl) (own_w hw 27 rfl) (own_w hw 10 rfl) (own_w hw 29 rfl) (by decide) (by rw [hml]; rfl) b145 [(.long q3)] [] pd_2 rfl at_224 rfl rfl E_b145_186 rfl rfl rfl (by decide) (by decide) (by decide) (by decide) ?_
        rintro _ T189 L189 X189 ⟨rfl, N189, e189⟩
        have N189 := Fr.app N186 N189
        show Go p e below _ (T189.setTop (mkF m 227 _ [(.int (1 : Int32))]))
        refine own_iload 229 X189 hx hby at_227 rfl rfl ?_
        refine own_icN 232 X189 hx hby at_229 rfl (by decide) ?_
        refine own_iconst 233 (1 : Int32) X189 hx hby at_232 rfl (by decide) ?_
        refine own_goto 237 X189 hx hby at_233 (by decide) (by decide) ?_
        exact own_ret (Q := own_Q1 n0) X189 hx hby hret hlk at_237 rfl (Or.inl ⟨rfl, by simp, _, rfl⟩) (by decide) (by decide) ⟨rfl, N189⟩
  refine own_callS (W := 0) 5 (rm1_2 l Z a0 hw [] w_NONE k_NONE W q0 q1 h0 n0 O0 hc2) X0 hx hby hZ hown (own_w hw 0 rfl) (own_w hw 1 rfl) (own_w hw 2 rfl) (own_w hw 3 rfl) (by decide) (by rw [hml]; rfl) [(.long q0), (.long q1)] [] pd_0 rfl at_2 rfl e0 rfl rfl rfl (by decide) (by decide) (by decide) (by decide) ?_
  rintro _ T190 L190 X190 ⟨rfl, N190, e190⟩
  have N190 := Fr.app N0 N190
  show Go p e below _ (T190.setTop (mkF m 5 _ [(.long q0)]))
  refine own_lstore 7 #[oJ q0, oS, oJ q1, oS, oJ q2, oS, oJ q3, oS, oI x4, oJ q0, oS, oU, oU, oU, oU, oU, oU, oU, oU, oU, oU] X190 hx hby at_5 rfl rfl ?_
  refine own_lload_n 8 X190 hx hby at_7 rfl rfl ?_
  refine own_lload_n 9 X190 hx hby at_8 rfl rfl ?_
  by_cases hc191 : q0 < q1
  · refine own_callS (W := 0) 12 (rm2_3 l Z a0 hw [] w_NONE k_NONE W q0 q1 h0 n0 O0 hc191) X190 hx hby hZ hown (own_w hw 4 rfl) (own_w hw 5 rfl) (own_w hw 2 rfl) (own_w hw 6 rfl) (by decide) (by rw [hml]; rfl) [(.long q0), (.long q1)] [] pd_0 rfl at_9 rfl e190 rfl rfl rfl (by decide) (by decide) (by decide) (by decide) ?_
    rintro _ T192 L192 X192 ⟨rfl, N192, e192⟩
    have N192 := Fr.app N190 N192
    show Go p e below _ (T192.setTop (mkF m 12 _ [(.long q1)]))
    refine own_lstore 14 #[oJ q0, oS, oJ q1, oS, oJ q2, oS, oJ q3, oS, oI x4, oJ q0, oS, oJ q1, oS, oU, oU, oU, oU, oU, oU, oU, oU] X192 hx hby at_12 rfl rfl ?_
    refine own_iload 16 X192 hx hby at_14 rfl rfl ?_
    refine own_ldc 18 X192 hx hby hZ hown (own_w hw 7 rfl) at_16 rfl ?_
    refine own_iand 19 (x4 &&& (2147483647 : Int32)) X192 hx hby at_18 rfl rfl ?_
    refine own_iconst 20 (3 : Int32) X192 hx hby at_19 rfl (by decide) ?_
    rcases own_mod3 x4 with hv193 | hv193 | hv193
    · refine own_irem 21 (0 : Int32) X192 hx hby at_20 rfl (by decide) hv193 ?_
      refine own_istore 23 #[oJ q0, oS, oJ q1, oS, oJ q2, oS, oJ q3, oS, oI x4, oJ q0, oS, oJ q1, oS, oI (0 : Int32), oU, oU, oU, oU, oU, oU, oU] X192 hx hby at_21 rfl rfl ?_
      refine own_iload 25 X192 hx hby at_23 rfl rfl ?_
      refine own_iconst 26 (1 : Int32) X192 hx hby at_25 rfl (by decide) ?_
      refine own_icY 33 X192 hx hby at_26 (by decide) (by decide) (by decide) ?_
      refine own_iconst 34 (0 : Int32) X192 hx hby at_33 rfl (by decide) ?_
      refine own_istore 36 #[oJ q0, oS, oJ q1, oS, oJ q2, oS, oJ q3, oS, oI x4, oJ q0, oS, oJ q1, oS, oI (0 : Int32), oI (0 : Int32), oU, oU, oU, oU, oU, oU] X192 hx hby at_34 rfl rfl ?_
      refine own_iload 38 X192 hx hby at_36 rfl rfl ?_
      refine own_iconst 39 (2 : Int32) X192 hx hby at_38 rfl (by decide) ?_
      refine own_icY 54 X192 hx hby at_39 (by decide) (by decide) (by decide) ?_
      refine own_iconst 55 (0 : Int32) X192 hx hby at_54 rfl (by decide) ?_
      refine own_istore 57 #[oJ q0, oS, oJ q1, oS, oJ q2, oS, oJ q3, oS, oI x4, oJ q0, oS, oJ q1, oS, oI (0 : Int32), oI (0 : Int32), oI (0 : Int32), oU, oU, oU, oU, oU] X192 hx hby at_55 rfl rfl ?_
      refine own_iload 59 X192 hx hby at_57 rfl rfl ?_
      refine own_bipush 61 (8 : Int32) X192 hx hby at_59 rfl (by decide) ?_
      obtain ⟨v194, dv194⟩ : ∃ z, z = (XT.ushr x4 (8 : Int32)) := ⟨_, rfl⟩
      refine own_iushr 62 v194 X192 hx hby at_61 rfl dv194.symm ?_
      refine own_iconst 63 (1 : Int32) X192 hx hby at_62 rfl (by decide) ?_
      rcases own_and1 v194 with hv195 | hv195
      · refine own_iand 64 (0 : Int32) X192 hx hby at_63 rfl hv195 ?_
        refine own_ifY 71 X192 hx hby at_64 (by decide) (by decide) (by decide) ?_
        refine own_iconst 72 (0 : Int32) X192 hx hby at_71 rfl (by decide) ?_
        refine own_istore 74 #[oJ q0, oS, oJ q1, oS, oJ q2, oS, oJ q3, oS, oI x4, oJ q0, oS, oJ q1, oS, oI (0 : Int32), oI (0 : Int32), oI (0 : Int32), oI (0 : Int32), oU, oU, oU, oU] X192 hx hby at_72 rfl rfl ?_
        refine own_new 77 6 X192 hx hby hZ hown (own_w hw 8 rfl) (own_w hw 9 rfl) (own_w hw 10 rfl) e192 at_74 rfl (by decide) (by decide) ?_
        intro T196 h196 b196 X196 e196 E196 g196 A196 D196
        have n_b196 : n0 ≤ b196 := Nat.le_trans (own_n0 O0) (Nat.le_of_eq g196.symm)
        have O196 := O0.ext E196
        have F_b196_firsts : Fld Z h196 b196 "com/example/meter/meter/store/Spans" "firsts" "[J" .null := D196 (Or.inl (own_w hw 20 rfl)) (ty := (.array .long)) (by decide)
        have F_b196_lasts : Fld Z h196 b196 "com/example/meter/meter/store/Spans" "lasts" "[J" .null := D196 (Or.inl (own_w hw 22 rfl)) (ty := (.array .long)) (by decide)
        have F_b196_totals : Fld Z h196 b196 "com/example/meter/meter/store/Spans" "totals" "[J" .null := D196 (Or.inl (own_w hw 24 rfl)) (ty := (.array .long)) (by decide)
        have F_b196_head : Fld Z h196 b196 "com/example/meter/meter/store/Spans" "head" "I" (.int (0 : Int32)) := D196 (Or.inl (own_w hw 31 rfl)) (ty := .int) (by decide)
        have F_b196_end : Fld Z h196 b196 "com/example/meter/meter/store/Spans" "end" "I" (.int (0 : Int32)) := D196 (Or.inl (own_w hw 33 rfl)) (ty := .int) (by decide)
        have F_b196_droppedTotal : Fld Z h196 b196 "com/example/meter/meter/store/Spans" "droppedTotal" "J" (.long (0 : Int64)) := D196 (Or.inl (own_w hw 60 rfl)) (ty := .long) (by decide)
        refine own_dup 78 X196 hx hby at_77 rfl rfl ?_
        refine own_spec (W := 1) 81 (rm3_5 l Z a0 hw [] w_NONE k_NONE W b196 h196 n0 O196 A196 F_b196_droppedTotal F_b196_end F_b196_firsts F_b196_head F_b196_lasts F_b196_totals n_b196) X196 hx hby hZ hown rfl (own_w hw 11 rfl) (own_w hw 12 rfl) (own_w hw 10 rfl) (own_w hw 13 rfl) (by decide) (by rw [hml]; rfl) b196 [] [(.ref b196)] pd_1 rfl at_78 rfl e196 rfl rfl rfl (by decide) (by decide) (by decide) (by decide) ?_
        rintro _ T197 L197 X197 ⟨rfl, N197, Kc197, E_b196_197, F_b196_droppedTotal_197, F_b196_end_197, F_b196_firsts_197, F_b196_head_197, F_b196_lasts_197, F_b196_totals_197⟩
        have N197 := Fr.app N192 N197
        have O197 := O196.keep Kc197 (allS n_b196 all0)
        show Go p e below _ (T197.setTop (mkF m 81 _ [(.ref b196)]))
        refine own_astore 83 #[oJ q0, oS, oJ q1, oS, oJ q2, oS, oJ q3, oS, oI x4, oJ q0, oS, oJ q1, oS, oI (0 : Int32), oI (0 : Int32), oI (0 : Int32), oI (0 : Int32), oA b196, oU, oU, oU] X197 hx hby at_81 rfl rfl rfl ?_
        refine own_iload 85 X197 hx hby at_83 rfl rfl ?_
        refine own_ifY 96 X197 hx hby at_85 (by decide) (by decide) (by decide) ?_
        refine own_iload 98 X197 hx hby at_96 rfl rfl ?_
        refine own_ifY 109 X197 hx hby at_98 (by decide) (by decide) (by decide) ?_
        refine own_iload 111 X197 hx hby at_109 rfl rfl ?_
        refine own_ifY 121 X197 hx hby at_111 (by decide) (by decide) (by decide) ?_
        refine own_iload 123 X197 hx hby at_121 rfl rfl ?_
        refine own_ifY 143 X197 hx hby at_123 (by decide) (by decide) (by decide) ?_
        refine own_iconst 144 (0 : Int32) X197 hx hby at_143 rfl (by decide) ?_
        refine own_istore 146 #[oJ q0, oS, oJ q1, oS, oJ q2, oS, oJ q3, oS, oI x4, oJ q0, oS, oJ q1, oS, oI (0 : Int32), oI (0 : Int32), oI (0 : Int32), oI (0 : Int32), oA b196, oI (0 : Int32), oU, oU] X197 hx hby at_144 rfl rfl ?_
        refine own_iload 148 X197 hx hby at_146 rfl rfl ?_
        refine own_ifY 168 X197 hx hby at_148 (by decide) (by decide) (by decide) ?_
        refine own_iconst 169 (0 : Int32) X197 hx hby at_168 rfl (by decide) ?_
        refine own_istore 171 #[oJ q0, oS, oJ q1, oS, oJ q2, oS, oJ q3, oS, oI x4, oJ q0, oS, oJ q1, oS, oI (0 : Int32), oI (0 : Int32), oI (0 : Int32), oI (0 : Int32), oA b196, oI (0 : Int32), oI (0 : Int32), oU] X197 hx hby at_169 rfl rfl ?_
        refine own_iload 173 X197 hx hby at_171 rfl rfl ?_
        refine own_ifY 194 X197 hx hby at_173 (by decide) (by decide) (by decide) ?_
        refine own_iload 196 X197 hx hby at_194 rfl rfl ?_
        refine own_ifY 217 X197 hx hby at_196 (by decide) (by decide) (by decide) ?_
        refine own_iconst 218 (1 : Int32) X197 hx hby at_217 rfl (by decide) ?_
        refine own_istore 220 #[oJ q0, oS, oJ q1, oS, oJ q2, oS, oJ q3, oS, oI x4, oJ q0, oS, oJ q1, oS, oI (0 : Int32), oI (0 : Int32), oI (0 : Int32), oI (0 : Int32), oA b196, oI (0 : Int32), oI (0 : Int32), oI (1 : Int32)] X197 hx hby at_218 rfl rfl ?_
        refine own_aload 222 X197 hx hby at_220 rfl rfl rfl ?_
        refine own_lload 224 X197 hx hby at_222 rfl rfl ?_
        refine own_virt (W := 0) 227 (rm5_6 l Z a0 hw [] w_NONE k_NONE W b196 q3 T197.heap n0 O197 E_b196_197 F_b196_droppedTotal_197 F_b196_end_197 F_b196_firsts_197 F_b196_head_197 F_b196_lasts_197 F_b196_totals_197 n_b196) X197 hx hby hZ hown (own_w hw 25 rfl) (own_w hw 26 rfl) (notFace_of_selects (args := #[]) (mvT hZ (own_w hw 28 rfl))) (own_w hw 28 rfl) (own_w hw 27 rfl) (own_w hw 10 rfl) (own_w hw 29 rfl) (by decide) (by rw [hml]; rfl) b196 [(.long q3)] [] pd_2 rfl at_224 rfl rfl E_b196_197 rfl rfl rfl (by decide) (by decide) (by decide) (by decide) ?_
        rintro _ T198 L198 X198 ⟨rfl, N198, e198⟩
        have N198 := Fr.app N197 N198
        show Go p e below _ (T198.setTop (mkF m 227 _ [(.int (1 : Int32))]))
        refine own_iload 229 X198 hx hby at_227 rfl rfl ?_
        refine own_icN 232 X198 hx hby at_229 rfl (by decide) ?_
        refine own_iconst 233 (1 : Int32) X198 hx hby at_232 rfl (by decide) ?_
        refine own_goto 237 X198 hx hby at_233 (by decide) (by decide) ?_
        exact own_ret (Q := own_Q1 n0) X198 hx hby hret hlk at_237 rfl (Or.inl ⟨rfl, by simp, _, rfl⟩) (by decide) (by decide) ⟨rfl, N198⟩
      · refine own_iand 64 (1 : Int32) X192 hx hby at_63 rfl hv195 ?_
        refine own_ifN 67 X192 hx hby at_64 rfl (by decide) ?_
        refine own_iconst 68 (1 : Int32) X192 hx hby at_67 rfl (by decide) ?_
        refine own_goto 72 X192 hx hby at_68 (by decide) (by decide) ?_
        refine own_istore 74 #[oJ q0, oS, oJ q1, oS, oJ q2, oS, oJ q3, oS, oI x4, oJ q0, oS, oJ q1, oS, oI (0 : Int32), oI (0 : Int32), oI (0 : Int32), oI (1 : Int32), oU, oU, oU, oU] X192 hx hby at_72 rfl rfl ?_
        refine own_new 77 6 X192 hx hby hZ hown (own_w hw 8 rfl) (own_w hw 9 rfl) (own_w hw 10 rfl) e192 at_74 rfl (by decide) (by decide) ?_
        intro T199 h199 b199 X199 e199 E199 g199 A199 D199
        have n_b199 : n0 ≤ b199 := Nat.le_trans (own_n0 O0) (Nat.le_of_eq g199.symm)
        have O199 := O0.ext E199
        have F_b199_firsts : Fld Z h199 b199 "com/example/meter/meter/store/Spans" "firsts" "[J" .null := D199 (Or.inl (own_w hw 20 rfl)) (ty := (.array .long)) (by decide)
        have F_b199_lasts : Fld Z h199 b199 "com/example/meter/meter/store/Spans" "lasts" "[J" .null := D199 (Or.inl (own_w hw 22 rfl)) (ty := (.array .long)) (by decide)
        have F_b199_totals : Fld Z h199 b199 "com/example/meter/meter/store/Spans" "totals" "[J" .null := D199 (Or.inl (own_w hw 24 rfl)) (ty := (.array .long)) (by decide)
        have F_b199_head : Fld Z h199 b199 "com/example/meter/meter/store/Spans" "head" "I" (.int (0 : Int32)) := D199 (Or.inl (own_w hw 31 rfl)) (ty := .int) (by decide)
        have F_b199_end : Fld Z h199 b199 "com/example/meter/meter/store/Spans" "end" "I" (.int (0 : Int32)) := D199 (Or.inl (own_w hw 33 rfl)) (ty := .int) (by decide)
        have F_b199_droppedTotal : Fld Z h199 b199 "com/example/meter/meter/store/Spans" "droppedTotal" "J" (.long (0 : Int64)) := D199 (Or.inl (own_w hw 60 rfl)) (ty := .long) (by decide)
        refine own_dup 78 X199 hx hby at_77 rfl rfl ?_
        refine own_spec (W := 1) 81 (rm3_5 l Z a0 hw [] w_NONE k_NONE W b199 h199 n0 O199 A199 F_b199_droppedTotal F_b199_end F_b199_firsts F_b199_head F_b199_lasts F_b199_totals n_b199) X199 hx hby hZ hown rfl (own_w hw 11 rfl) (own_w hw 12 rfl) (own_w hw 10 rfl) (own_w hw 13 rfl) (by decide) (by rw [hml]; rfl) b199 [] [(.ref b199)] pd_1 rfl at_78 rfl e199 rfl rfl rfl (by decide) (by decide) (by decide) (by decide) ?_
        rintro _ T200 L200 X200 ⟨rfl, N200, Kc200, E_b199_200, F_b199_droppedTotal_200, F_b199_end_200, F_b199_firsts_200, F_b199_head_200, F_b199_lasts_200, F_b199_totals_200⟩
        have N200 := Fr.app N192 N200
        have O200 := O199.keep Kc200 (allS n_b199 all0)
        show Go p e below _ (T200.setTop (mkF m 81 _ [(.ref b199)]))
        refine own_astore 83 #[oJ q0, oS, oJ q1, oS, oJ q2, oS, oJ q3, oS, oI x4, oJ q0, oS, oJ q1, oS, oI (0 : Int32), oI (0 : Int32), oI (0 : Int32), oI (1 : Int32), oA b199, oU, oU, oU] X200 hx hby at_81 rfl rfl rfl ?_
        refine own_iload 85 X200 hx hby at_83 rfl rfl ?_
        refine own_ifY 96 X200 hx hby at_85 (by decide) (by decide) (by decide) ?_
        refine own_iload 98 X200 hx hby at_96 rfl rfl ?_
        refine own_ifY 109 X200 hx hby at_98 (by decide) (by decide) (by decide) ?_
        refine own_iload 111 X200 hx hby at_109 rfl rfl ?_
        refine own_ifN 114 X200 hx hby at_111 rfl (by decide) ?_
        refine own_aload 116 X200 hx hby at_114 rfl rfl rfl ?_
        refine own_lload 118 X200 hx hby at_116 rfl rfl ?_
        refine own_virt (W := 0) 121 (rm11_7 l Z a0 hw [] w_NONE k_NONE W b199 q2 T200.heap n0 O200 E_b199_200 F_b199_droppedTotal_200 F_b199_end_200 F_b199_firsts_200 F_b199_head_200 F_b199_lasts_200 F_b199_totals_200 n_b199) X200 hx hby hZ hown (own_w hw 61 rfl) (own_w hw 62 rfl) (notFace_of_selects (args := #[]) (mvT hZ (own_w hw 64 rfl))) (own_w hw 64 rfl) (own_w hw 63 rfl) (own_w hw 10 rfl) (own_w hw 65 rfl) (by decide) (by rw [hml]; rfl) b199 [(.long q2)] [] pd_3 rfl at_118 rfl rfl E_b199_200 rfl rfl rfl (by decide) (by decide) (by decide) (by decide) ?_
        rintro _ T201 L201 X201 ⟨rfl, N201, e201⟩
        have N201 := Fr.app N200 N201
        show Go p e below _ (T201.setTop (mkF m 121 _ []))
        refine own_iload 123 X201 hx hby at_121 rfl rfl ?_
        refine own_ifY 143 X201 hx hby at_123 (by decide) (by decide) (by decide) ?_
        refine own_iconst 144 (0 : Int32) X201 hx hby at_143 rfl (by decide) ?_
        refine own_istore 146 #[oJ q0, oS, oJ q1, oS, oJ q2, oS, oJ q3, oS, oI x4, oJ q0, oS, oJ q1, oS, oI (0 : Int32), oI (0 : Int32), oI (0 : Int32), oI (1 : Int32), oA b199, oI (0 : Int32), oU, oU] X201 hx hby at_144 rfl rfl ?_
        refine own_iload 148 X201 hx hby at_146 rfl rfl ?_
        refine own_ifY 168 X201 hx hby at_148 (by decide) (by decide) (by decide) ?_
        refine own_iconst 169 (0 : Int32) X201 hx hby at_168 rfl (by decide) ?_
        refine own_istore 171 #[oJ q0, oS, oJ q1, oS, oJ q2, oS, oJ q3, oS, oI x4, oJ q0, oS, oJ q1, oS, oI (0 : Int32), oI (0 : Int32), oI (0 : Int32), oI (1 : Int32), oA b199, oI (0 : Int32), oI (0 : Int32), oU] X201 hx hby at_169 rfl rfl ?_
        refine own_iload 173 X201 hx hby at_171 rfl rfl ?_
        refine own_ifY 194 X201 hx hby at_173 (by decide) (by decide) (by decide) ?_
        refine own_iload 196 X201 hx hby at_194 rfl rfl ?_
        refine own_ifY 217 X201 hx hby at_196 (by decide) (by decide) (by decide) ?_
        refine own_iconst 218 (1 : Int32) X201 hx hby at_217 rfl (by decide) ?_
        refine own_istore 220 #[oJ q0, oS, oJ q1, oS, oJ q2, oS, oJ q3, oS, oI x4, oJ q0, oS, oJ q1, oS, oI (0 : Int32), oI (0 : Int32), oI (0 : Int32), oI (1 : Int32), oA b199, oI (0 : Int32), oI (0 : Int32), oI (1 : Int32)] X201 hx hby at_218 rfl rfl ?_
        refine own_aload 222 X201 hx hby at_220 rfl rfl rfl ?_
        refine own_lload 224 X201 hx hby at_222 rfl rfl ?_
        refine own_virt (W := 0) 227 (rm5_6 l Z a0 hw [] w_NONE k_NONE W b199 q3 T200.heap n0 O200 E_b199_200 F_b199_droppedTotal_200 F_b199_end_200 F_b199_firsts_200 F_b199_head_200 F_b199_lasts_200 F_b199_totals_200 n_b199) X201 hx hby hZ hown (own_w hw 25 rfl) (own_w hw 26 rfl) (notFace_of_selects (args := #[]) (mvT hZ (own_w hw 28 rfl))) (own_w hw 28 rfl) (own_w hw 27 rfl) (own_w hw 10 rfl) (own_w hw 29 rfl) (by decide) (by rw [hml]; rfl) b199 [(.long q3)] [] pd_2 rfl at_224 rfl e201 E_b199_200 rfl rfl rfl (by decide) (by decide) (by decide) (by decide) ?_
        rintro _ T202 L202 X202 ⟨rfl, N202, e202⟩
        have N202 := Fr.app N201 N202
        show Go p e below _ (T202.setTop (mkF m 227 _ [(.int (1 : Int32))]))
        refine own_iload 229 X202 hx hby at_227 rfl rfl ?_
        refine own_icN 232 X202 hx hby at_229 rfl (by decide) ?_
        refine own_iconst 233 (1 : Int32) X202 hx hby at_232 rfl (by decide) ?_
        refine own_goto 237 X202 hx hby at_233 (by decide) (by decide) ?_
        exact own_ret (Q := own_Q1 n0) X202 hx hby hret hlk at_237 rfl (Or.inl ⟨rfl, by simp, _, rfl⟩) (by decide) (by decide) ⟨rfl, N202⟩
    · refine own_irem 21 (1 : Int32) X192 hx hby at_20 rfl (by decide) hv193 ?_
      refine own_istore 23 #[oJ q0, oS, oJ q1, oS, oJ q2, oS, oJ q3, oS, oI x4, oJ q0, oS, oJ q1, oS, oI (1 : Int32), oU, oU, oU, oU, oU, oU, oU] X192 hx hby at_21 rfl rfl ?_
      refine own_iload 25 X192 hx hby at_23 rfl rfl ?_
      refine own_iconst 26 (1 : Int32) X192 hx hby at_25 rfl (by decide) ?_
      refine own_icN 29 X192 hx hby at_26 rfl (by decide) ?_
      refine own_iconst 30 (1 : Int32) X192 hx hby at_29 rfl (by decide) ?_
      refine own_goto 34 X192 hx hby at_30 (by decide) (by decide) ?_
      refine own_istore 36 #[oJ q0, oS, oJ q1, oS, oJ q2, oS, oJ q3, oS, oI x4, oJ q0, oS, oJ q1, oS, oI (1 : Int32), oI (1 : Int32), oU, oU, oU, oU, oU, oU] X192 hx hby at_34 rfl rfl ?_
      refine own_iload 38 X192 hx hby at_36 rfl rfl ?_
      refine own_iconst 39 (2 : Int32) X192 hx hby at_38 rfl (by decide) ?_
      refine own_icY 54 X192 hx hby at_39 (by decide) (by decide) (by decide) ?_
      refine own_iconst 55 (0 : Int32) X192 hx hby at_54 rfl (by decide) ?_
      refine own_istore 57 #[oJ q0, oS, oJ q1, oS, oJ q2, oS, oJ q3, oS, oI x4, oJ q0, oS, oJ q1, oS, oI (1 : Int32), oI (1 : Int32), oI (0 : Int32), oU, oU, oU, oU, oU] X192 hx hby at_55 rfl rfl ?_
      refine own_iload 59 X192 hx hby at_57 rfl rfl ?_
      refine own_bipush 61 (8 : Int32) X192 hx hby at_59 rfl (by decide) ?_
      obtain ⟨v203, dv203⟩ : ∃ z, z = (XT.ushr x4 (8 : Int32)) := ⟨_, rfl⟩
      refine own_iushr 62 v203 X192 hx hby at_61 rfl dv203.symm ?_
      refine own_iconst 63 (1 : Int32) X192 hx hby at_62 rfl (by decide) ?_
      rcases own_and1 v203 with hv204 | hv204
      · refine own_iand 64 (0 : Int32) X192 hx hby at_63 rfl hv204 ?_
        refine own_ifY 71 X192 hx hby at_64 (by decide) (by decide) (by decide) ?_
        refine own_iconst 72 (0 : Int32) X192 hx hby at_71 rfl (by decide) ?_
        refine own_istore 74 #[oJ q0, oS, oJ q1, oS, oJ q2, oS, oJ q3, oS, oI x4, oJ q0, oS, oJ q1, oS, oI (1 : Int32), oI (1 : Int32), oI (0 : Int32), oI (0 : Int32), oU, oU, oU, oU] X192 hx hby at_72 rfl rfl ?_
        refine own_new 77 6 X192 hx hby hZ hown (own_w hw 8 rfl) (own_w hw 9 rfl) (own_w hw 10 rfl) e192 at_74 rfl (by decide) (by decide) ?_
        intro T205 h205 b205 X205 e205 E205 g205 A205 D205
        have n_b205 : n0 ≤ b205 := Nat.le_trans (own_n0 O0) (Nat.le_of_eq g205.symm)
        have O205 := O0.ext E205
        have F_b205_firsts : Fld Z h205 b205 "com/example/meter/meter/store/Spans" "firsts" "[J" .null := D205 (Or.inl (own_w hw 20 rfl)) (ty := (.array .long)) (by decide)
        have F_b205_lasts : Fld Z h205 b205 "com/example/meter/meter/store/Spans" "lasts" "[J" .null := D205 (Or.inl (own_w hw 22 rfl)) (ty := (.array .long)) (by decide)
        have F_b205_totals : Fld Z h205 b205 "com/example/meter/meter/store/Spans" "totals" "[J" .null := D205 (Or.inl (own_w hw 24 rfl)) (ty := (.array .long)) (by decide)
        have F_b205_head : Fld Z h205 b205 "com/example/meter/meter/store/Spans" "head" "I" (.int (0 : Int32)) := D205 (Or.inl (own_w hw 31 rfl)) (ty := .int) (by decide)
        have F_b205_end : Fld Z h205 b205 "com/example/meter/meter/store/Spans" "end" "I" (.int (0 : Int32)) := D205 (Or.inl (own_w hw 33 rfl)) (ty := .int) (by decide)
        have F_b205_droppedTotal : Fld Z h205 b205 "com/example/meter/meter/store/Spans" "droppedTotal" "J" (.long (0 : Int64)) := D205 (Or.inl (own_w hw 60 rfl)) (ty := .long) (by decide)
        refine own_dup 78 X205 hx hby at_77 rfl rfl ?_
        refine own_spec (W := 1) 81 (rm3_5 l Z a0 hw [] w_NONE k_NONE W b205 h205 n0 O205 A205 F_b205_droppedTotal F_b205_end F_b205_firsts F_b205_head F_b205_lasts F_b205_totals n_b205) X205 hx hby hZ hown rfl (own_w hw 11 rfl) (own_w hw 12 rfl) (own_w hw 10 rfl) (own_w hw 13 rfl) (by decide) (by rw [hml]; rfl) b205 [] [(.ref b205)] pd_1 rfl at_78 rfl e205 rfl rfl rfl (by decide) (by decide) (by decide) (by decide) ?_
        rintro _ T206 L206 X206 ⟨rfl, N206, Kc206, E_b205_206, F_b205_droppedTotal_206, F_b205_end_206, F_b205_firsts_206, F_b205_head_206, F_b205_lasts_206, F_b205_totals_206⟩
        have N206 := Fr.app N192 N206
        have O206 := O205.keep Kc206 (allS n_b205 all0)
        show Go p e below _ (T206.setTop (mkF m 81 _ [(.ref b205)]))
        refine own_astore 83 #[oJ q0, oS, oJ q1, oS, oJ q2, oS, oJ q3, oS, oI x4, oJ q0, oS, oJ q1, oS, oI (1 : Int32), oI (1 : Int32), oI (0 : Int32), oI (0 : Int32), oA b205, oU, oU, oU] X206 hx hby at_81 rfl rfl rfl ?_
        refine own_iload 85 X206 hx hby at_83 rfl rfl ?_
        refine own_ifN 88 X206 hx hby at_85 rfl (by decide) ?_
        refine own_aload 90 X206 hx hby at_88 rfl rfl rfl ?_
        refine own_lload 92 X206 hx hby at_90 rfl rfl ?_
        refine own_lconst 93 (1 : Int64) X206 hx hby at_92 rfl (by decide) ?_
        refine own_virt (W := 0) 96 (rm6_14 l Z a0 hw [] w_NONE k_NONE W b205 q0 T206.heap n0 O206 E_b205_206 F_b205_droppedTotal_206 F_b205_end_206 F_b205_firsts_206 F_b205_head_206 F_b205_lasts_206 F_b205_totals_206 n_b205) X206 hx hby hZ hown (own_w hw 34 rfl) (own_w hw 35 rfl) (notFace_of_selects (args := #[]) (mvT hZ (own_w hw 37 rfl))) (own_w hw 37 rfl) (own_w hw 36 rfl) (own_w hw 10 rfl) (own_w hw 38 rfl) (by decide) (by rw [hml]; rfl) b205 [(.long q0), (.long (1 : Int64))] [] pd_7 rfl at_93 rfl rfl E_b205_206 rfl rfl rfl (by decide) (by decide) (by decide) (by decide) ?_
        rintro _ T207 L207 X207 ⟨b207_0, b207_1, b207_2, k207_0, k207_1, k207_2, rfl, N207, Kc207, n_b207_0, sz_b207_0, n_b207_1, sz_b207_1, n_b207_2, sz_b207_2, ne_b207_0_b207_1, ne_b207_0_b207_2, ne_b207_1_b207_2, E_b205_207, F_b205_droppedTotal_207, F_b205_end_207, F_b205_firsts_207, F_b205_head_207, F_b205_lasts_207, F_b205_totals_207, V_b207_0_207, V_b207_1_207, V_b207_2_207⟩
        have N207 := Fr.app N206 N207
        have ne_b205_b207_0 : b205 ≠ b207_0 := Nat.ne_of_lt (Nat.lt_of_lt_of_le E_b205_206.lt sz_b207_0)
        have ne_b205_b207_1 : b205 ≠ b207_1 := Nat.ne_of_lt (Nat.lt_of_lt_of_le E_b205_206.lt sz_b207_1)
        have ne_b205_b207_2 : b205 ≠ b207_2 := Nat.ne_of_lt (Nat.lt_of_lt_of_le E_b205_206.lt sz_b207_2)
        have O207 := O206.keep Kc207 (allS n_b205 all0)
        show Go p e below _ (T207.setTop (mkF m 96 _ []))
        refine own_iload 98 X207 hx hby at_96 rfl rfl ?_
        refine own_ifY 109 X207 hx hby at_98 (by decide) (by decide) (by decide) ?_
        refine own_iload 111 X207 hx hby at_109 rfl rfl ?_
        refine own_ifY 121 X207 hx hby at_111 (by decide) (by decide) (by decide) ?_
        refine own_iload 123 X207 hx hby at_121 rfl rfl ?_
        refine own_ifN 126 X207 hx hby at_123 rfl (by decide) ?_
        refine own_iload 128 X207 hx hby at_126 rfl rfl ?_
        refine own_ifY 139 X207 hx hby at_128 (by decide) (by decide) (by decide) ?_
        refine own_iconst 140 (1 : Int32) X207 hx hby at_139 rfl (by decide) ?_
        refine own_goto 144 X207 hx hby at_140 (by decide) (by decide) ?_
        refine own_istore 146 #[oJ q0, oS, oJ q1, oS, oJ q2, oS, oJ q3, oS, oI x4, oJ q0, oS, oJ q1, oS, oI (1 : Int32), oI (1 : Int32), oI (0 : Int32), oI (0 : Int32), oA b205, oI (1 : Int32), oU, oU] X207 hx hby at_144 rfl rfl ?_
        refine own_iload 148 X207 hx hby at_146 rfl rfl ?_
        refine own_ifY 168 X207 hx hby at_148 (by decide) (by decide) (by decide) ?_
        refine own_iconst 169 (0 : Int32) X207 hx hby at_168 rfl (by decide) ?_
        refine own_istore 171 #[oJ q0, oS, oJ q1, oS, oJ q2, oS, oJ q3, oS, oI x4, oJ q0, oS, oJ q1, oS, oI (1 : Int32), oI (1 : Int32), oI (0 : Int32), oI (0 : Int32), oA b205, oI (1 : Int32), oI (0 : Int32), oU] X207 hx hby at_169 rfl rfl ?_
        refine own_iload 173 X207 hx hby at_171 rfl rfl ?_
        refine own_ifN 176 X207 hx hby at_173 rfl (by decide) ?_
        refine own_lload 178 X207 hx hby at_176 rfl rfl ?_
        refine own_lload 180 X207 hx hby at_178 rfl rfl ?_
        refine own_lcmp 181 (XT.cmpL q0 q3) X207 hx hby at_180 rfl rfl ?_
        by_cases hc208 : q3 < q0
        · refine own_ifN 184 X207 hx hby at_181 rfl (own_tltL hc208).2.2.2 ?_
          refine own_iconst 185 (1 : Int32) X207 hx hby at_184 rfl (by decide) ?_
          refine own_goto 189 X207 hx hby at_185 (by decide) (by decide) ?_
          refine own_istore 191 #[oJ q0, oS, oJ q1, oS, oJ q2, oS, oJ q3, oS, oI x4, oJ q0, oS, oJ q1, oS, oI (1 : Int32), oI (1 : Int32), oI (0 : Int32), oI (0 : Int32), oA b205, oI (1 : Int32), oI (0 : Int32), oI (1 : Int32)] X207 hx hby at_189 rfl rfl ?_
          refine own_goto 220 X207 hx hby at_191 (by decide) (by decide) ?_
          refine own_aload 222 X207 hx hby at_220 rfl rfl rfl ?_
          refine own_lload 224 X207 hx hby at_222 rfl rfl ?_
          refine own_virt (W := 0) 227 (rm5_15 l Z a0 hw [] w_NONE k_NONE W b205 b207_0 k207_0 b207_1 k207_1 b207_2 k207_2 q3 q0 T207.heap n0 O207 E_b205_207 F_b205_droppedTotal_207 F_b205_end_207 F_b205_firsts_207 F_b205_head_207 F_b205_lasts_207 F_b205_totals_207 n_b205 V_b207_0_207 n_b207_0 V_b207_1_207 n_b207_1 V_b207_2_207 n_b207_2 ne_b205_b207_0 ne_b205_b207_1 ne_b205_b207_2 ne_b207_0_b207_1 ne_b207_0_b207_2 ne_b207_1_b207_2 hc208) X207 hx hby hZ hown (own_w hw 25 rfl) (own_w hw 26 rfl) (notFace_of_selects (args := #[]) (mvT hZ (own_w hw 28 rfl))) (own_w hw 28 rfl) (own_w hw 27 rfl) (own_w hw 10 rfl) (own_w hw 29 rfl) (by decide) (by rw [hml]; rfl) b205 [(.long q3)] [] pd_2 rfl at_224 rfl rfl E_b205_207 rfl rfl rfl (by decide) (by decide) (by decide) (by decide) ?_
          rintro _ T209 L209 X209 ⟨rfl, N209, e209⟩
          have N209 := Fr.app N207 N209
          show Go p e below _ (T209.setTop (mkF m 227 _ [(.int (1 : Int32))]))
          refine own_iload 229 X209 hx hby at_227 rfl rfl ?_
          refine own_icN 232 X209 hx hby at_229 rfl (by decide) ?_
          refine own_iconst 233 (1 : Int32) X209 hx hby at_232 rfl (by decide) ?_
          refine own_goto 237 X209 hx hby at_233 (by decide) (by decide) ?_
          exact own_ret (Q := own_Q1 n0) X209 hx hby hret hlk at_237 rfl (Or.inl ⟨rfl, by simp, _, rfl⟩) (by decide) (by decide) ⟨rfl, N209⟩
        refine own_ifY 188 X207 hx hby at_181 (by decide) (by decide) (own_fltL hc208).2.2.2 ?_
        refine own_iconst 189 (0 : Int32) X207 hx hby at_188 rfl (by decide) ?_
        refine own_istore 191 #[oJ q0, oS, oJ q1, oS, oJ q2, oS, oJ q3, oS, oI x4, oJ q0, oS, oJ q1, oS, oI (1 : Int32), oI (1 : Int32), oI (0 : Int32), oI (0 : Int32), oA b205, oI (1 : Int32), oI (0 : Int32), oI (0 : Int32)] X207 hx hby at_189 rfl rfl ?_
        refine own_goto 220 X207 hx hby at_191 (by decide) (by decide) ?_
        refine own_aload 222 X207 hx hby at_220 rfl rfl rfl ?_
        refine own_lload 224 X207 hx hby at_222 rfl rfl ?_
        refine own_virt (W := 0) 227 (rm5_16 l Z a0 hw [] w_NONE k_NONE W b205 b207_0 k207_0 b207_1 k207_1 b207_2 k207_2 q3 q0 T207.heap n0 O207 E_b205_207 F_b205_droppedTotal_207 F_b205_end_207 F_b205_firsts_207 F_b205_head_207 F_b205_lasts_207 F_b205_totals_207 n_b205 V_b207_0_207 n_b207_0 V_b207_1_207 n_b207_1 V_b207_2_207 n_b207_2 ne_b205_b207_0 ne_b205_b207_1 ne_b205_b207_2 ne_b207_0_b207_1 ne_b207_0_b207_2 ne_b207_1_b207_2 hc208) X207 hx hby hZ hown (own_w hw 25 rfl) (own_w hw 26 rfl) (notFace_of_selects (args := #[]) (mvT hZ (own_w hw 28 rfl))) (own_w hw 28 rfl) (own_w hw 27 rfl) (own_w hw 10 rfl) (own_w hw 29 rfl) (by decide) (by rw [hml]; rfl) b205 [(.long q3)] [] pd_2 rfl at_224 rfl rfl E_b205_207 rfl rfl rfl (by decide) (by decide) (by decide) (by decide) ?_
        rintro _ T210 L210 X210 ⟨rfl, N210, e210⟩
        have N210 := Fr.app N207 N210
        show Go p e below _ (T210.setTop (mkF m 227 _ [(.int (0 : Int32))]))
        refine own_iload 229 X210 hx hby at_227 rfl rfl ?_
        refine own_icN 232 X210 hx hby at_229 rfl (by decide) ?_
        refine own_iconst 233 (1 : Int32) X210 hx hby at_232 rfl (by decide) ?_
        refine own_goto 237 X210 hx hby at_233 (by decide) (by decide) ?_
        exact own_ret (Q := own_Q1 n0) X210 hx hby hret hlk at_237 rfl (Or.inl ⟨rfl, by simp, _, rfl⟩) (by decide) (by decide) ⟨rfl, N210⟩
      · refine own_iand 64 (1 : Int32) X192 hx hby at_63 rfl hv204 ?_
        refine own_ifN 67 X192 hx hby at_64 rfl (by decide) ?_
        refine own_iconst 68 (1 : Int32) X192 hx hby at_67 rfl (by decide) ?_
        refine own_goto 72 X192 hx hby at_68 (by decide) (by decide) ?_
        refine own_istore 74 #[oJ q0, oS, oJ q1, oS, oJ q2, oS, oJ q3, oS, oI x4, oJ q0, oS, oJ q1, oS, oI (1 : Int32), oI (1 : Int32), oI (0 : Int32), oI (1 : Int32), oU, oU, oU, oU] X192 hx hby at_72 rfl rfl ?_
        refine own_new 77 6 X192 hx hby hZ hown (own_w hw 8 rfl) (own_w hw 9 rfl) (own_w hw 10 rfl) e192 at_74 rfl (by decide) (by decide) ?_
        intro T211 h211 b211 X211 e211 E211 g211 A211 D211
        have n_b211 : n0 ≤ b211 := Nat.le_trans (own_n0 O0) (Nat.le_of_eq g211.symm)
        have O211 := O0.ext E211
        have F_b211_firsts : Fld Z h211 b211 "com/example/meter/meter/store/Spans" "firsts" "[J" .null := D211 (Or.inl (own_w hw 20 rfl)) (ty := (.array .long)) (by decide)
        have F_b211_lasts : Fld Z h211 b211 "com/example/meter/meter/store/Spans" "lasts" "[J" .null := D211 (Or.inl (own_w hw 22 rfl)) (ty := (.array .long)) (by decide)
        have F_b211_totals : Fld Z h211 b211 "com/example/meter/meter/store/Spans" "totals" "[J" .null := D211 (Or.inl (own_w hw 24 rfl)) (ty := (.array .long)) (by decide)
        have F_b211_head : Fld Z h211 b211 "com/example/meter/meter/store/Spans" "head" "I" (.int (0 : Int32)) := D211 (Or.inl (own_w hw 31 rfl)) (ty := .int) (by decide)
        have F_b211_end : Fld Z h211 b211 "com/example/meter/meter/store/Spans" "end" "I" (.int (0 : Int32)) := D211 (Or.inl (own_w hw 33 rfl)) (ty := .int) (by decide)
        have F_b211_droppedTotal : Fld Z h211 b211 "com/example/meter/meter/store/Spans" "droppedTotal" "J" (.long (0 : Int64)) := D211 (Or.inl (own_w hw 60 rfl)) (ty := .long) (by decide)
        refine own_dup 78 X211 hx hby at_77 rfl rfl ?_
        refine own_spec (W := 1) 81 (rm3_5 l Z a0 hw [] w_NONE k_NONE W b211 h211 n0 O211 A211 F_b211_droppedTotal F_b211_end F_b211_firsts F_b211_head F_b211_lasts F_b211_totals n_b211) X211 hx hby hZ hown rfl (own_w hw 11 rfl) (own_w hw 12 rfl) (own_w hw 10 rfl) (own_w hw 13 rfl) (by decide) (by rw [hml]; rfl) b211 [] [(.ref b211)] pd_1 rfl at_78 rfl e211 rfl rfl rfl (by decide) (by decide) (by decide) (by decide) ?_
        rintro _ T212 L212 X212 ⟨rfl, N212, Kc212, E_b211_212, F_b211_droppedTotal_212, F_b211_end_212, F_b211_firsts_212, F_b211_head_212, F_b211_lasts_212, F_b211_totals_212⟩
        have N212 := Fr.app N192 N212
        have O212 := O211.keep Kc212 (allS n_b211 all0)
        show Go p e below _ (T212.setTop (mkF m 81 _ [(.ref b211)]))
        refine own_astore 83 #[oJ q0, oS, oJ q1, oS, oJ q2, oS, oJ q3, oS, oI x4, oJ q0, oS, oJ q1, oS, oI (1 : Int32), oI (1 : Int32), oI (0 : Int32), oI (1 : Int32), oA b211, oU, oU, oU] X212 hx hby at_81 rfl rfl rfl ?_
        refine own_iload 85 X212 hx hby at_83 rfl rfl ?_
        refine own_ifN 88 X212 hx hby at_85 rfl (by decide) ?_
        refine own_aload 90 X212 hx hby at_88 rfl rfl rfl ?_
        refine own_lload 92 X212 hx hby at_90 rfl rfl ?_
        refine own_lconst 93 (1 : Int64) X212 hx hby at_92 rfl (by decide) ?_
        refine own_virt (W := 0) 96 (rm6_14 l Z a0 hw [] w_NONE k_NONE W b211 q0 T212.heap n0 O212 E_b211_212 F_b211_droppedTotal_212 F_b211_end_212 F_b211_firsts_212 F_b211_head_212 F_b211_lasts_212 F_b211_totals_212 n_b211) X212 hx hby hZ hown (own_w hw 34 rfl) (own_w hw 35 rfl) (notFace_of_selects (args := #[]) (mvT hZ (own_w hw 37 rfl))) (own_w hw 37 rfl) (own_w hw 36 rfl) (own_w hw 10 rfl) (own_w hw 38 rfl) (by decide) (by rw [hml]; rfl) b211 [(.long q0), (.long (1 : Int64))] [] pd_7 rfl at_93 rfl rfl E_b211_212 rfl rfl rfl (by decide) (by decide) (by decide) (by decide) ?_
        rintro _ T213 L213 X213 ⟨b213_0, b213_1, b213_2, k213_0, k213_1, k213_2, rfl, N213, Kc213, n_b213_0, sz_b213_0, n_b213_1, sz_b213_1, n_b213_2, sz_b213_2, ne_b213_0_b213_1, ne_b213_0_b213_2, ne_b213_1_b213_2, E_b211_213, F_b211_droppedTotal_213, F_b211_end_213, F_b211_firsts_213, F_b211_head_213, F_b211_lasts_213, F_b211_totals_213, V_b213_0_213, V_b213_1_213, V_b213_2_213⟩
        have N213 := Fr.app N212 N213
        have ne_b211_b213_0 : b211 ≠ b213_0 := Nat.ne_of_lt (Nat.lt_of_lt_of_le E_b211_212.lt sz_b213_0)
        have ne_b211_b213_1 : b211 ≠ b213_1 := Nat.ne_of_lt (Nat.lt_of_lt_of_le E_b211_212.lt sz_b213_1)
        have ne_b211_b213_2 : b211 ≠ b213_2 := Nat.ne_of_lt (Nat.lt_of_lt_of_le E_b211_212.lt sz_b213_2)
        have O213 := O212.keep Kc213 (allS n_b211 all0)
        show Go p e below _ (T213.setTop (mkF m 96 _ []))
        refine own_iload 98 X213 hx hby at_96 rfl rfl ?_
        refine own_ifY 109 X213 hx hby at_98 (by decide) (by decide) (by decide) ?_
        refine own_iload 111 X213 hx hby at_109 rfl rfl ?_
        refine own_ifN 114 X213 hx hby at_111 rfl (by decide) ?_
        refine own_aload 116 X213 hx hby at_114 rfl rfl rfl ?_
        refine own_lload 118 X213 hx hby at_116 rfl rfl ?_
        by_cases hc214 : q2 < q0
        · refine own_virt (W := 0) 121 (rm11_17 l Z a0 hw [] w_NONE k_NONE W b211 b213_0 k213_0 b213_1 k213_1 b213_2 k213_2 q2 q0 T213.heap n0 O213 E_b211_213 F_b211_droppedTotal_213 F_b211_end_213 F_b211_firsts_213 F_b211_head_213 F_b211_lasts_213 F_b211_totals_213 n_b211 V_b213_0_213 n_b213_0 V_b213_1_213 n_b213_1 V_b213_2_213 n_b213_2 ne_b211_b213_0 ne_b211_b213_1 ne_b211_b213_2 ne_b213_0_b213_1 ne_b213_0_b213_2 ne_b213_1_b213_2 hc214) X213 hx hby hZ hown (own_w hw 61 rfl) (own_w hw 62 rfl) (notFace_of_selects (args := #[]) (mvT hZ (own_w hw 64 rfl))) (own_w hw 64 rfl) (own_w hw 63 rfl) (own_w hw 10 rfl) (own_w hw 65 rfl) (by decide) (by rw [hml]; rfl) b211 [(.long q2)] [] pd_3 rfl at_118 rfl rfl E_b211_213 rfl rfl rfl (by decide) (by decide) (by decide) (by decide) ?_
          rintro _ T215 L215 X215 ⟨rfl, N215, e215⟩
          have N215 := Fr.app N213 N215
          show Go p e below _ (T215.setTop (mkF m 121 _ []))
          refine own_iload 123 X215 hx hby at_121 rfl rfl ?_
          refine own_ifN 126 X215 hx hby at_123 rfl (by decide) ?_
          refine own_iload 128 X215 hx hby at_126 rfl rfl ?_
          refine own_ifN 131 X215 hx hby at_128 rfl (by decide) ?_
          refine own_lload 133 X215 hx hby at_131 rfl rfl ?_
          refine own_lload 135 X215 hx hby at_133 rfl rfl ?_
          refine own_lcmp 136 (XT.cmpL q0 q2) X215 hx hby at_135 rfl rfl ?_
          refine own_ifN 139 X215 hx hby at_136 rfl (own_tltL hc214).2.2.2 ?_
          refine own_iconst 140 (1 : Int32) X215 hx hby at_139 rfl (by decide) ?_
          refine own_goto 144 X215 hx hby at_140 (by decide) (by decide) ?_
          refine own_istore 146 #[oJ q0, oS, oJ q1, oS, oJ q2, oS, oJ q3, oS, oI x4, oJ q0, oS, oJ q1, oS, oI (1 : Int32), oI (1 : Int32), oI (0 : Int32), oI (1 : Int32), oA b211, oI (1 : Int32), oU, oU] X215 hx hby at_144 rfl rfl ?_
          refine own_iload 148 X215 hx hby at_146 rfl rfl ?_
          refine own_ifY 168 X215 hx hby at_148 (by decide) (by decide) (by decide) ?_
          refine own_iconst 169 (0 : Int32) X215 hx hby at_168 rfl (by decide) ?_
          refine own_istore 171 #[oJ q0, oS, oJ q1, oS, oJ q2, oS, oJ q3, oS, oI x4, oJ q0, oS, oJ q1, oS, oI (1 : Int32), oI (1 : Int32), oI (0 : Int32), oI (1 : Int32), oA b211, oI (1 : Int32), oI (0 : Int32), oU] X215 hx hby at_169 rfl rfl ?_
          refine own_iload 173 X215 hx hby at_171 rfl rfl ?_
          refine own_ifN 176 X215 hx hby at_173 rfl (by decide) ?_
          refine own_lload 178 X215 hx hby at_176 rfl rfl ?_
          refine own_lload 180 X215 hx hby at_178 rfl rfl ?_
          refine own_lcmp 181 (XT.cmpL q0 q3) X215 hx hby at_180 rfl rfl ?_
          by_cases hc216 : q3 < q0
          · refine own_ifN 184 X215 hx hby at_181 rfl (own_tltL hc216).2.2.2 ?_
            refine own_iconst 185 (1 : Int32) X215 hx hby at_184 rfl (by decide) ?_
            refine own_goto 189 X215 hx hby at_185 (by decide) (by decide) ?_
            refine own_istore 191 #[oJ q0, oS, oJ q1, oS, oJ q2, oS, oJ q3, oS, oI x4, oJ q0, oS, oJ q1, oS, oI (1 : Int32), oI (1 : Int32), oI (0 : Int32), oI (1 : Int32), oA b211, oI (1 : Int32), oI (0 : Int32), oI (1 : Int32)] X215 hx hby at_189 rfl rfl ?_
            refine own_goto 220 X215 hx hby at_191 (by decide) (by decide) ?_
            refine own_aload 222 X215 hx hby at_220 rfl rfl rfl ?_
            refine own_lload 224 X215 hx hby at_222 rfl rfl ?_
            refine own_virt (W := 0) 227 (rm5_15 l Z a0 hw [] w_NONE k_NONE W b211 b213_0 k213_0 b213_1 k213_1 b213_2 k213_2 q3 q0 T213.heap n0 O213 E_b211_213 F_b211_droppedTotal_213 F_b211_end_213 F_b211_firsts_213 F_b211_head_213 F_b211_lasts_213 F_b211_totals_213 n_b211 V_b213_0_213 n_b213_0 V_b213_1_213 n_b213_1 V_b213_2_213 n_b213_2 ne_b211_b213_0 ne_b211_b213_1 ne_b211_b213_2 ne_b213_0_b213_1 ne_b213_0_b213_2 ne_b213_1_b213_2 hc216) X215 hx hby hZ hown (own_w hw 25 rfl) (own_w hw 26 rfl) (notFace_of_selects (args := #[]) (mvT hZ (own_w hw 28 rfl))) (own_w hw 28 rfl) (own_w hw 27 rfl) (own_w hw 10 rfl) (own_w hw 29 rfl) (by decide) (by rw [hml]; rfl) b211 [(.long q3)] [] pd_2 rfl at_224 rfl e215 E_b211_213 rfl rfl rfl (by decide) (by decide) (by decide) (by decide) ?_
            rintro _ T217 L217 X217 ⟨rfl, N217, e217⟩
            have N217 := Fr.app N215 N217
            show Go p e below _ (T217.setTop (mkF m 227 _ [(.int (1 : Int32))]))
            refine own_iload 229 X217 hx hby at_227 rfl rfl ?_
            refine own_icN 232 X217 hx hby at_229 rfl (by decide) ?_
            refine own_iconst 233 (1 : Int32) X217 hx hby at_232 rfl (by decide) ?_
            refine own_goto 237 X217 hx hby at_233 (by decide) (by decide) ?_
            exact own_ret (Q := own_Q1 n0) X217 hx hby hret hlk at_237 rfl (Or.inl ⟨rfl, by simp, _, rfl⟩) (by decide) (by decide) ⟨rfl, N217⟩
          refine own_ifY 188 X215 hx hby at_181 (by decide) (by decide) (own_fltL hc216).2.2.2 ?_
          refine own_iconst 189 (0 : Int32) X215 hx hby at_188 rfl (by decide) ?_
          refine own_istore 191 #[oJ q0, oS, oJ q1, oS, oJ q2, oS, oJ q3, oS, oI x4, oJ q0, oS, oJ q1, oS, oI (1 : Int32), oI (1 : Int32), oI (0 : Int32), oI (1 : Int32), oA b211, oI (1 : Int32), oI (0 : Int32), oI (0 : Int32)] X215 hx hby at_189 rfl rfl ?_
          refine own_goto 220 X215 hx hby at_191 (by decide) (by decide) ?_
          refine own_aload 222 X215 hx hby at_220 rfl rfl rfl ?_
          refine own_lload 224 X215 hx hby at_222 rfl rfl ?_
          refine own_virt (W := 0) 227 (rm5_16 l Z a0 hw [] w_NONE k_NONE W b211 b213_0 k213_0 b213_1 k213_1 b213_2 k213_2 q3 q0 T213.heap n0 O213 E_b211_213 F_b211_droppedTotal_213 F_b211_end_213 F_b211_firsts_213 F_b211_head_213 F_b211_lasts_213 F_b211_totals_213 n_b211 V_b213_0_213 n_b213_0 V_b213_1_213 n_b213_1 V_b213_2_213 n_b213_2 ne_b211_b213_0 ne_b211_b213_1 ne_b211_b213_2 ne_b213_0_b213_1 ne_b213_0_b213_2 ne_b213_1_b213_2 hc216) X215 hx hby hZ hown (own_w hw 25 rfl) (own_w hw 26 rfl) (notFace_of_selects (args := #[]) (mvT hZ (own_w hw 28 rfl))) (own_w hw 28 rfl) (own_w hw 27 rfl) (own_w hw 10 rfl) (own_w hw 29 rfl) (by decide) (by rw [hml]; rfl) b211 [(.long q3)] [] pd_2 rfl at_224 rfl e215 E_b211_213 rfl rfl rfl (by decide) (by decide) (by decide) (by decide) ?_
          rintro _ T218 L218 X218 ⟨rfl, N218, e218⟩
          have N218 := Fr.app N215 N218
          show Go p e below _ (T218.setTop (mkF m 227 _ [(.int (0 : Int32))]))
          refine own_iload 229 X218 hx hby at_227 rfl rfl ?_
          refine own_icN 232 X218 hx hby at_229 rfl (by decide) ?_
          refine own_iconst 233 (1 : Int32) X218 hx hby at_232 rfl (by decide) ?_
          refine own_goto 237 X218 hx hby at_233 (by decide) (by decide) ?_
          exact own_ret (Q := own_Q1 n0) X218 hx hby hret hlk at_237 rfl (Or.inl ⟨rfl, by simp, _, rfl⟩) (by decide) (by decide) ⟨rfl, N218⟩
        refine own_virt (W := 0) 121 (rm11_18 l Z a0 hw [] w_NONE k_NONE W b211 b213_0 k213_0 b213_1 k213_1 b213_2 k213_2 q2 q0 T213.heap n0 O213 E_b211_213 F_b211_droppedTotal_213 F_b211_end_213 F_b211_firsts_213 F_b211_head_213 F_b211_lasts_213 F_b211_totals_213 n_b211 V_b213_0_213 n_b213_0 V_b213_1_213 n_b213_1 V_b213_2_213 n_b213_2 ne_b211_b213_0 ne_b211_b213_1 ne_b211_b213_2 ne_b213_0_b213_1 ne_b213_0_b213_2 ne_b213_1_b213_2 hc214) X213 hx hby hZ hown (own_w hw 61 rfl) (own_w hw 62 rfl) (notFace_of_selects (args := #[]) (mvT hZ (own_w hw 64 rfl))) (own_w hw 64 rfl) (own_w hw 63 rfl) (own_w hw 10 rfl) (own_w hw 65 rfl) (by decide) (by rw [hml]; rfl) b211 [(.long q2)] [] pd_3 rfl at_118 rfl rfl E_b211_213 rfl rfl rfl (by decide) (by decide) (by decide) (by decide) ?_
        rintro _ T219 L219 X219 ⟨rfl, N219, Kc219, E_b211_219, F_b211_droppedTotal_219, F_b211_end_219, F_b211_firsts_219, F_b211_head_219, F_b211_lasts_219, F_b211_totals_219, V_b213_0_219, V_b213_1_219, V_b213_2_219⟩
        have N219 := Fr.app N213 N219
        have O219 := O213.keep Kc219 (allS n_b211 all0)
        show Go p e below _ (T219.setTop (mkF m 121 _ []))
        refine own_iload 123 X219 hx hby at_121 rfl rfl ?_
        refine own_ifN 126 X219 hx hby at_123 rfl (by decide) ?_
        refine own_iload 128 X219 hx hby at_126 rfl rfl ?_
        refine own_ifN 131 X219 hx hby at_128 rfl (by decide) ?_
        refine own_lload 133 X219 hx hby at_131 rfl rfl ?_
        refine own_lload 135 X219 hx hby at_133 rfl rfl ?_
        refine own_lcmp 136 (XT.cmpL q0 q2) X219 hx hby at_135 rfl rfl ?_
        refine own_ifY 143 X219 hx hby at_136 (by decide) (by decide) (own_fltL hc214).2.2.2 ?_
        refine own_iconst 144 (0 : Int32) X219 hx hby at_143 rfl (by decide) ?_
        refine own_istore 146 #[oJ q0, oS, oJ q1, oS, oJ q2, oS, oJ q3, oS, oI x4, oJ q0, oS, oJ q1, oS, oI (1 : Int32), oI (1 : Int32), oI (0 : Int32), oI (1 : Int32), oA b211, oI (0 : Int32), oU, oU] X219 hx hby at_144 rfl rfl ?_
        refine own_iload 148 X219 hx hby at_146 rfl rfl ?_
        refine own_ifY 168 X219 hx hby at_148 (by decide) (by decide) (by decide) ?_
        refine own_iconst 169 (0 : Int32) X219 hx hby at_168 rfl (by decide) ?_
        refine own_istore 171 #[oJ q0, oS, oJ q1, oS, oJ q2, oS, oJ q3, oS, oI x4, oJ q0, oS, oJ q1, oS, oI (1 : Int32), oI (1 : Int32), oI (0 : Int32), oI (1 : Int32), oA b211, oI (0 : Int32), oI (0 : Int32), oU] X219 hx hby at_169 rfl rfl ?_
        refine own_iload 173 X219 hx hby at_171 rfl rfl ?_
        refine own_ifY 194 X219 hx hby at_173 (by decide) (by decide) (by decide) ?_
        refine own_iload 196 X219 hx hby at_194 rfl rfl ?_
        refine own_ifY 217 X219 hx hby at_196 (by decide) (by decide) (by decide) ?_
        refine own_iconst 218 (1 : Int32) X219 hx hby at_217 rfl (by decide) ?_
        refine own_istore 220 #[oJ q0, oS, oJ q1, oS, oJ q2, oS, oJ q3, oS, oI x4, oJ q0, oS, oJ q1, oS, oI (1 : Int32), oI (1 : Int32), oI (0 : Int32), oI (1 : Int32), oA b211, oI (0 : Int32), oI (0 : Int32), oI (1 : Int32)] X219 hx hby at_218 rfl rfl ?_
        refine own_aload 222 X219 hx hby at_220 rfl rfl rfl ?_
        refine own_lload 224 X219 hx hby at_222 rfl rfl ?_
        refine own_virt (W := 0) 227 (rm5_19 l Z a0 hw [] w_NONE k_NONE W b211 b213_0 k213_0 b213_1 k213_1 b213_2 k213_2 q3 q0 T219.heap n0 O219 E_b211_219 F_b211_droppedTotal_219 F_b211_end_219 F_b211_firsts_219 F_b211_head_219 F_b211_lasts_219 F_b211_totals_219 n_b211 V_b213_0_219 n_b213_0 V_b213_1_219 n_b213_1 V_b213_2_219 n_b213_2 ne_b211_b213_0 ne_b211_b213_1 ne_b211_b213_2 ne_b213_0_b213_1 ne_b213_0_b213_2 ne_b213_1_b213_2) X219 hx hby hZ hown (own_w hw 25 rfl) (own_w hw 26 rfl) (notFace_of_selects (args := #[]) (mvT hZ (own_w hw 28 rfl))) (own_w hw 28 rfl) (own_w hw 27 rfl) (own_w hw 10 rfl) (own_w hw 29 rfl) (by decide) (by rw [hml]; rfl) b211 [(.long q3)] [] pd_2 rfl at_224 rfl rfl E_b211_219 rfl rfl rfl (by decide) (by decide) (by decide) (by decide) ?_
        rintro _ T220 L220 X220 ⟨rfl, N220, e220⟩
        have N220 := Fr.app N219 N220
        show Go p e below _ (T220.setTop (mkF m 227 _ [(.int (1 : Int32))]))
        refine own_iload 229 X220 hx hby at_227 rfl rfl ?_
        refine own_icN 232 X220 hx hby at_229 rfl (by decide) ?_
        refine own_iconst 233 (1 : Int32) X220 hx hby at_232 rfl (by decide) ?_
        refine own_goto 237 X220 hx hby at_233 (by decide) (by decide) ?_
        exact own_ret (Q := own_Q1 n0) X220 hx hby hret hlk at_237 rfl (Or.inl ⟨rfl, by simp, _, rfl⟩) (by decide) (by decide) ⟨rfl, N220⟩
    · refine own_irem 21 (2 : Int32) X192 hx hby at_20 rfl (by decide) hv193 ?_
      refine own_istore 23 #[oJ q0, oS, oJ q1, oS, oJ q2, oS, oJ q3, oS, oI x4, oJ q0, oS, oJ q1, oS, oI (2 : Int32), oU, oU, oU, oU, oU, oU, oU] X192 hx hby at_21 rfl rfl ?_
      refine own_iload 25 X192 hx hby at_23 rfl rfl ?_
      refine own_iconst 26 (1 : Int32) X192 hx hby at_25 rfl (by decide) ?_
      refine own_icN 29 X192 hx hby at_26 rfl (by decide) ?_
      refine own_iconst 30 (1 : Int32) X192 hx hby at_29 rfl (by decide) ?_
      refine own_goto 34 X192 hx hby at_30 (by decide) (by decide) ?_
      refine own_istore 36 #[oJ q0, oS, oJ q1, oS, oJ q2, oS, oJ q3, oS, oI x4, oJ q0, oS, oJ q1, oS, oI (2 : Int32), oI (1 : Int32), oU, oU, oU, oU, oU, oU] X192 hx hby at_34 rfl rfl ?_
      refine own_iload 38 X192 hx hby at_36 rfl rfl ?_
      refine own_iconst 39 (2 : Int32) X192 hx hby at_38 rfl (by decide) ?_
      refine own_icN 42 X192 hx hby at_39 rfl (by decide) ?_
      refine own_lload 44 X192 hx hby at_42 rfl rfl ?_
      refine own_lload 46 X192 hx hby at_44 rfl rfl ?_
      refine own_lcmp 47 (XT.cmpL q1 q0) X192 hx hby at_46 rfl rfl ?_
      refine own_ifN 50 X192 hx hby at_47 rfl (own_tltL hc191).2.2.2 ?_
      refine own_iconst 51 (1 : Int32) X192 hx hby at_50 rfl (by decide) ?_
      refine own_goto 55 X192 hx hby at_51 (by decide) (by decide) ?_
      refine own_istore 57 #[oJ q0, oS, oJ q1, oS, oJ q2, oS, oJ q3, oS, oI x4, oJ q0, oS, oJ q1, oS, oI (2 : Int32), oI (1 : Int32), oI (1 : Int32), oU, oU, oU, oU, oU] X192 hx hby at_55 rfl rfl ?_
      refine own_iload 59 X192 hx hby at_57 rfl rfl ?_
      refine own_bipush 61 (8 : Int32) X192 hx hby at_59 rfl (by decide) ?_
      obtain ⟨v221, dv221⟩ : ∃ z, z = (XT.ushr x4 (8 : Int32)) := ⟨_, rfl⟩
      refine own_iushr 62 v221 X192 hx hby at_61 rfl dv221.symm ?_
      refine own_iconst 63 (1 : Int32) X192 hx hby at_62 rfl (by decide) ?_
      rcases own_and1 v221 with hv222 | hv222
      · refine own_iand 64 (0 : Int32) X192 hx hby at_63 rfl hv222 ?_
        refine own_ifY 71 X192 hx hby at_64 (by decide) (by decide) (by decide) ?_
        refine own_iconst 72 (0 : Int32) X192 hx hby at_71 rfl (by decide) ?_
        refine own_istore 74 #[oJ q0, oS, oJ q1, oS, oJ q2, oS, oJ q3, oS, oI x4, oJ q0, oS, oJ q1, oS, oI (2 : Int32), oI (1 : Int32), oI (1 : Int32), oI (0 : Int32), oU, oU, oU, oU] X192 hx hby at_72 rfl rfl ?_
        refine own_new 77 6 X192 hx hby hZ hown (own_w hw 8 rfl) (own_w hw 9 rfl) (own_w hw 10 rfl) e192 at_74 rfl (by decide) (by decide) ?_
        intro T223 h223 b223 X223 e223 E223 g223 A223 D223
        have n_b223 : n0 ≤ b223 := Nat.le_trans (own_n0 O0) (Nat.le_of_eq g223.symm)
        have O223 := O0.ext E223
        have F_b223_firsts : Fld Z h223 b223 "com/example/meter/meter/store/Spans" "firsts" "[J" .null := D223 (Or.inl (own_w hw 20 rfl)) (ty := (.array .long)) (by decide)
        have F_b223_lasts : Fld Z h223 b223 "com/example/meter/meter/store/Spans" "lasts" "[J" .null := D223 (Or.inl (own_w hw 22 rfl)) (ty := (.array .long)) (by decide)
        have F_b223_totals : Fld Z h223 b223 "com/example/meter/meter/store/Spans" "totals" "[J" .null := D223 (Or.inl (own_w hw 24 rfl)) (ty := (.array .long)) (by decide)
        have F_b223_head : Fld Z h223 b223 "com/example/meter/meter/store/Spans" "head" "I" (.int (0 : Int32)) := D223 (Or.inl (own_w hw 31 rfl)) (ty := .int) (by decide)
        have F_b223_end : Fld Z h223 b223 "com/example/meter/meter/store/Spans" "end" "I" (.int (0 : Int32)) := D223 (Or.inl (own_w hw 33 rfl)) (ty := .int) (by decide)
        have F_b223_droppedTotal : Fld Z h223 b223 "com/example/meter/meter/store/Spans" "droppedTotal" "J" (.long (0 : Int64)) := D223 (Or.inl (own_w hw 60 rfl)) (ty := .long) (by decide)
        refine own_dup 78 X223 hx hby at_77 rfl rfl ?_
        refine own_spec (W := 1) 81 (rm3_5 l Z a0 hw [] w_NONE k_NONE W b223 h223 n0 O223 A223 F_b223_droppedTotal F_b223_end F_b223_firsts F_b223_head F_b223_lasts F_b223_totals n_b223) X223 hx hby hZ hown rfl (own_w hw 11 rfl) (own_w hw 12 rfl) (own_w hw 10 rfl) (own_w hw 13 rfl) (by decide) (by rw [hml]; rfl) b223 [] [(.ref b223)] pd_1 rfl at_78 rfl e223 rfl rfl rfl (by decide) (by decide) (by decide) (by decide) ?_
        rintro _ T224 L224 X224 ⟨rfl, N224, Kc224, E_b223_224, F_b223_droppedTotal_224, F_b223_end_224, F_b223_firsts_224, F_b223_head_224, F_b223_lasts_224, F_b223_totals_224⟩
        have N224 := Fr.app N192 N224
        have O224 := O223.keep Kc224 (allS n_b223 all0)
        show Go p e below _ (T224.setTop (mkF m 81 _ [(.ref b223)]))
        refine own_astore 83 #[oJ q0, oS, oJ q1, oS, oJ q2, oS, oJ q3, oS, oI x4, oJ q0, oS, oJ q1, oS, oI (2 : Int32), oI (1 : Int32), oI (1 : Int32), oI (0 : Int32), oA b223, oU, oU, oU] X224 hx hby at_81 rfl rfl rfl ?_
        refine own_iload 85 X224 hx hby at_83 rfl rfl ?_
        refine own_ifN 88 X224 hx hby at_85 rfl (by decide) ?_
        refine own_aload 90 X224 hx hby at_88 rfl rfl rfl ?_
        refine own_lload 92 X224 hx hby at_90 rfl rfl ?_
        refine own_lconst 93 (1 : Int64) X224 hx hby at_92 rfl (by decide) ?_
        refine own_virt (W := 0) 96 (rm6_14 l Z a0 hw [] w_NONE k_NONE W b223 q0 T224.heap n0 O224 E_b223_224 F_b223_droppedTotal_224 F_b223_end_224 F_b223_firsts_224 F_b223_head_224 F_b223_lasts_224 F_b223_totals_224 n_b223) X224 hx hby hZ hown (own_w hw 34 rfl) (own_w hw 35 rfl) (notFace_of_selects (args := #[]) (mvT hZ (own_w hw 37 rfl))) (own_w hw 37 rfl) (own_w hw 36 rfl) (own_w hw 10 rfl) (own_w hw 38 rfl) (by decide) (by rw [hml]; rfl) b223 [(.long q0), (.long (1 : Int64))] [] pd_7 rfl at_93 rfl rfl E_b223_224 rfl rfl rfl (by decide) (by decide) (by decide) (by decide) ?_
        rintro _ T225 L225 X225 ⟨b225_0, b225_1, b225_2, k225_0, k225_1, k225_2, rfl, N225, Kc225, n_b225_0, sz_b225_0, n_b225_1, sz_b225_1, n_b225_2, sz_b225_2, ne_b225_0_b225_1, ne_b225_0_b225_2, ne_b225_1_b225_2, E_b223_225, F_b223_droppedTotal_225, F_b223_end_225, F_b223_firsts_225, F_b223_head_225, F_b223_lasts_225, F_b223_totals_225, V_b225_0_225, V_b225_1_225, V_b225_2_225⟩
        have N225 := Fr.app N224 N225
        have ne_b223_b225_0 : b223 ≠ b225_0 := Nat.ne_of_lt (Nat.lt_of_lt_of_le E_b223_224.lt sz_b225_0)
        have ne_b223_b225_1 : b223 ≠ b225_1 := Nat.ne_of_lt (Nat.lt_of_lt_of_le E_b223_224.lt sz_b225_1)
        have ne_b223_b225_2 : b223 ≠ b225_2 := Nat.ne_of_lt (Nat.lt_of_lt_of_le E_b223_224.lt sz_b225_2)
        have O225 := O224.keep Kc225 (allS n_b223 all0)
        show Go p e below _ (T225.setTop (mkF m 96 _ []))
        refine own_iload 98 X225 hx hby at_96 rfl rfl ?_
        refine own_ifN 101 X225 hx hby at_98 rfl (by decide) ?_
        refine own_aload 103 X225 hx hby at_101 rfl rfl rfl ?_
        refine own_lload 105 X225 hx hby at_103 rfl rfl ?_
        refine own_lconst 106 (1 : Int64) X225 hx hby at_105 rfl (by decide) ?_
        refine own_virt (W := 0) 109 (rm6_21 l Z a0 hw [] w_NONE k_NONE W b223 b225_0 k225_0 b225_1 k225_1 b225_2 k225_2 q1 q0 T225.heap n0 O225 E_b223_225 F_b223_droppedTotal_225 F_b223_end_225 F_b223_firsts_225 F_b223_head_225 F_b223_lasts_225 F_b223_totals_225 n_b223 V_b225_0_225 n_b225_0 V_b225_1_225 n_b225_1 V_b225_2_225 n_b225_2 ne_b223_b225_0 ne_b223_b225_1 ne_b223_b225_2 ne_b225_0_b225_1 ne_b225_0_b225_2 ne_b225_1_b225_2) X225 hx hby hZ hown (own_w hw 34 rfl) (own_w hw 35 rfl) (notFace_of_selects (args := #[]) (mvT hZ (own_w hw 37 rfl))) (own_w hw 37 rfl) (own_w hw 36 rfl) (own_w hw 10 rfl) (own_w hw 38 rfl) (by decide) (by rw [hml]; rfl) b223 [(.long q1), (.long (1 : Int64))] [] pd_7 rfl at_106 rfl rfl E_b223_225 rfl rfl rfl (by decide) (by decide) (by decide) (by decide) ?_
        rintro _ T226 L226 X226 ⟨rfl, N226, Kc226, E_b223_226, F_b223_droppedTotal_226, F_b223_end_226, F_b223_firsts_226, F_b223_head_226, F_b223_lasts_226, F_b223_totals_226, V_b225_0_226, V_b225_1_226, V_b225_2_226⟩
        have N226 := Fr.app N225 N226
        have O226 := O225.keep Kc226 (allS n_b225_0 (allS n_b225_1 (allS n_b225_2 (allS n_b223 all0))))
        show Go p e below _ (T226.setTop (mkF m 109 _ []))
        refine own_iload 111 X226 hx hby at_109 rfl rfl ?_
        refine own_ifY 121 X226 hx hby at_111 (by decide) (by decide) (by decide) ?_
        refine own_iload 123 X226 hx hby at_121 rfl rfl ?_
        refine own_ifN 126 X226 hx hby at_123 rfl (by decide) ?_
        refine own_iload 128 X226 hx hby at_126 rfl rfl ?_
        refine own_ifY 139 X226 hx hby at_128 (by decide) (by decide) (by decide) ?_
        refine own_iconst 140 (1 : Int32) X226 hx hby at_139 rfl (by decide) ?_
        refine own_goto 144 X226 hx hby at_140 (by decide) (by decide) ?_
        refine own_istore 146 #[oJ q0, oS, oJ q1, oS, oJ q2, oS, oJ q3, oS, oI x4, oJ q0, oS, oJ q1, oS, oI (2 : Int32), oI (1 : Int32), oI (1 : Int32), oI (0 : Int32), oA b223, oI (1 : Int32), oU, oU] X226 hx hby at_144 rfl rfl ?_
        refine own_iload 148 X226 hx hby at_146 rfl rfl ?_
        refine own_ifN 151 X226 hx hby at_148 rfl (by decide) ?_
        refine own_iload 153 X226 hx hby at_151 rfl rfl ?_
        refine own_ifY 164 X226 hx hby at_153 (by decide) (by decide) (by decide) ?_
        refine own_iconst 165 (1 : Int32) X226 hx hby at_164 rfl (by decide) ?_
        refine own_goto 169 X226 hx hby at_165 (by decide) (by decide) ?_
        refine own_istore 171 #[oJ q0, oS, oJ q1, oS, oJ q2, oS, oJ q3, oS, oI x4, oJ q0, oS, oJ q1, oS, oI (2 : Int32), oI (1 : Int32), oI (1 : Int32), oI (0 : Int32), oA b223, oI (1 : Int32), oI (1 : Int32), oU] X226 hx hby at_169 rfl rfl ?_
        refine own_iload 173 X226 hx hby at_171 rfl rfl ?_
        refine own_ifN 176 X226 hx hby at_173 rfl (by decide) ?_
        refine own_lload 178 X226 hx hby at_176 rfl rfl ?_
        refine own_lload 180 X226 hx hby at_178 rfl rfl ?_
        refine own_lcmp 181 (XT.cmpL q0 q3) X226 hx hby at_180 rfl rfl ?_
        by_cases hc227 : q3 < q0
        · refine own_ifN 184 X226 hx hby at_181 rfl (own_tltL hc227).2.2.2 ?_
          refine own_iconst 185 (1 : Int32) X226 hx hby at_184 rfl (by decide) ?_
          refine own_goto 189 X226 hx hby at_185 (by decide) (by decide) ?_
          refine own_istore 191 #[oJ q0, oS, oJ q1, oS, oJ q2, oS, oJ q3, oS, oI x4, oJ q0, oS, oJ q1, oS, oI (2 : Int32), oI (1 : Int32), oI (1 : Int32), oI (0 : Int32), oA b223, oI (1 : Int32), oI (1 : Int32), oI (1 : Int32)] X226 hx hby at_189 rfl rfl ?_
          refine own_goto 220 X226 hx hby at_191 (by decide) (by decide) ?_
          refine own_aload 222 X226 hx hby at_220 rfl rfl rfl ?_
          refine own_lload 224 X226 hx hby at_222 rfl rfl ?_
          refine own_virt (W := 0) 227 (rm5_22 l Z a0 hw [] w_NONE k_NONE W b223 b225_0 k225_0 b225_1 k225_1 b225_2 k225_2 q3 q0 q1 T226.heap n0 O226 E_b223_226 F_b223_droppedTotal_226 F_b223_end_226 F_b223_firsts_226 F_b223_head_226 F_b223_lasts_226 F_b223_totals_226 n_b223 V_b225_0_226 n_b225_0 V_b225_1_226 n_b225_1 V_b225_2_226 n_b225_2 ne_b223_b225_0 ne_b223_b225_1 ne_b223_b225_2 ne_b225_0_b225_1 ne_b225_0_b225_2 ne_b225_1_b225_2 hc227) X226 hx hby hZ hown (own_w hw 25 rfl) (own_w hw 26 rfl) (notFace_of_selects (args := #[]) (mvT hZ (own_w hw 28 rfl))) (own_w hw 28 rfl) (own_w hw 27 rfl) (own_w hw 10 rfl) (own_w hw 29 rfl) (by decide) (by rw [hml]; rfl) b223 [(.long q3)] [] pd_2 rfl at_224 rfl rfl E_b223_226 rfl rfl rfl (by decide) (by decide) (by decide) (by decide) ?_
          rintro _ T228 L228 X228 ⟨rfl, N228, e228⟩
          have N228 := Fr.app N226 N228
          show Go p e below _ (T228.setTop (mkF m 227 _ [(.int (1 : Int32))]))
          refine own_iload 229 X228 hx hby at_227 rfl rfl ?_
          refine own_icN 232 X228 hx hby at_229 rfl (by decide) ?_
          refine own_iconst 233 (1 : Int32) X228 hx hby at_232 rfl (by decide) ?_
          refine own_goto 237 X228 hx hby at_233 (by decide) (by decide) ?_
          exact own_ret (Q := own_Q1 n0) X228 hx hby hret hlk at_237 rfl (Or.inl ⟨rfl, by simp, _, rfl⟩) (by decide) (by decide) ⟨rfl, N228⟩
        refine own_ifY 188 X226 hx hby at_181 (by decide) (by decide) (own_fltL hc227).2.2.2 ?_
        refine own_iconst 189 (0 : Int32) X226 hx hby at_188 rfl (by decide) ?_
        refine own_istore 191 #[oJ q0, oS, oJ q1, oS, oJ q2, oS, oJ q3, oS, oI x4, oJ q0, oS, oJ q1, oS, oI (2 : Int32), oI (1 : Int32), oI (1 : Int32), oI (0 : Int32), oA b223, oI (1 : Int32), oI (1 : Int32), oI (0 : Int32)] X226 hx hby at_189 rfl rfl ?_
        refine own_goto 220 X226 hx hby at_191 (by decide) (by decide) ?_
        refine own_aload 222 X226 hx hby at_220 rfl rfl rfl ?_
        refine own_lload 224 X226 hx hby at_222 rfl rfl ?_
        refine own_virt (W := 0) 227 (rm5_23 l Z a0 hw [] w_NONE k_NONE W b223 b225_0 k225_0 b225_1 k225_1 b225_2 k225_2 q3 q0 q1 T226.heap n0 O226 E_b223_226 F_b223_droppedTotal_226 F_b223_end_226 F_b223_firsts_226 F_b223_head_226 F_b223_lasts_226 F_b223_totals_226 n_b223 V_b225_0_226 n_b225_0 V_b225_1_226 n_b225_1 V_b225_2_226 n_b225_2 ne_b223_b225_0 ne_b223_b225_1 ne_b223_b225_2 ne_b225_0_b225_1 ne_b225_0_b225_2 ne_b225_1_b225_2 hc227) X226 hx hby hZ hown (own_w hw 25 rfl) (own_w hw 26 rfl) (notFace_of_selects (args := #[]) (mvT hZ (own_w hw 28 rfl))) (own_w hw 28 rfl) (own_w hw 27 rfl) (own_w hw 10 rfl) (own_w hw 29 rfl) (by decide) (by rw [hml]; rfl) b223 [(.long q3)] [] pd_2 rfl at_224 rfl rfl E_b223_226 rfl rfl rfl (by decide) (by decide) (by decide) (by decide) ?_
        rintro _ T229 L229 X229 ⟨rfl, N229, e229⟩
        have N229 := Fr.app N226 N229
        show Go p e below _ (T229.setTop (mkF m 227 _ [(.int (0 : Int32))]))
        refine own_iload 229 X229 hx hby at_227 rfl rfl ?_
        refine own_icN 232 X229 hx hby at_229 rfl (by decide) ?_
        refine own_iconst 233 (1 : Int32) X229 hx hby at_232 rfl (by decide) ?_
        refine own_goto 237 X229 hx hby at_233 (by decide) (by decide) ?_
        exact own_ret (Q := own_Q1 n0) X229 hx hby hret hlk at_237 rfl (Or.inl ⟨rfl, by simp, _, rfl⟩) (by decide) (by decide) ⟨rfl, N229⟩
      · refine own_iand 64 (1 : Int32) X192 hx hby at_63 rfl hv222 ?_
        refine own_ifN 67 X192 hx hby at_64 rfl (by decide) ?_
        refine own_iconst 68 (1 : Int32) X192 hx hby at_67 rfl (by decide) ?_
        refine own_goto 72 X192 hx hby at_68 (by decide) (by decide) ?_
        refine own_istore 74 #[oJ q0, oS, oJ q1, oS, oJ q2, oS, oJ q3, oS, oI x4, oJ q0, oS, oJ q1, oS, oI (2 : Int32), oI (1 : Int32), oI (1 : Int32), oI (1 : Int32), oU, oU, oU, oU] X192 hx hby at_72 rfl rfl ?_
        refine own_new 77 6 X192 hx hby hZ hown (own_w hw 8 rfl) (own_w hw 9 rfl) (own_w hw 10 rfl) e192 at_74 rfl (by decide) (by decide) ?_
        intro T230 h230 b230 X230 e230 E230 g230 A230 D230
        have n_b230 : n0 ≤ b230 := Nat.le_trans (own_n0 O0) (Nat.le_of_eq g230.symm)
        have O230 := O0.ext E230
        have F_b230_firsts : Fld Z h230 b230 "com/example/meter/meter/store/Spans" "firsts" "[J" .null := D230 (Or.inl (own_w hw 20 rfl)) (ty := (.array .long)) (by decide)
        have F_b230_lasts : Fld Z h230 b230 "com/example/meter/meter/store/Spans" "lasts" "[J" .null := D230 (Or.inl (own_w hw 22 rfl)) (ty := (.array .long)) (by decide)
        have F_b230_totals : Fld Z h230 b230 "com/example/meter/meter/store/Spans" "totals" "[J" .null := D230 (Or.inl (own_w hw 24 rfl)) (ty := (.array .long)) (by decide)
        have F_b230_head : Fld Z h230 b230 "com/example/meter/meter/store/Spans" "head" "I" (.int (0 : Int32)) := D230 (Or.inl (own_w hw 31 rfl)) (ty := .int) (by decide)
        have F_b230_end : Fld Z h230 b230 "com/example/meter/meter/store/Spans" "end" "I" (.int (0 : Int32)) := D230 (Or.inl (own_w hw 33 rfl)) (ty := .int) (by decide)
        have F_b230_droppedTotal : Fld Z h230 b230 "com/example/meter/meter/store/Spans" "droppedTotal" "J" (.long (0 : Int64)) := D230 (Or.inl (own_w hw 60 rfl)) (ty := .long) (by decide)
        refine own_dup 78 X230 hx hby at_77 rfl rfl ?_
        refine own_spec (W := 1) 81 (rm3_5 l Z a0 hw [] w_NONE k_NONE W b230 h230 n0 O230 A230 F_b230_droppedTotal F_b230_end F_b230_firsts F_b230_head F_b230_lasts F_b230_totals n_b230) X230 hx hby hZ hown rfl (own_w hw 11 rfl) (own_w hw 12 rfl) (own_w hw 10 rfl) (own_w hw 13 rfl) (by decide) (by rw [hml]; rfl) b230 [] [(.ref b230)] pd_1 rfl at_78 rfl e230 rfl rfl rfl (by decide) (by decide) (by decide) (by decide) ?_
        rintro _ T231 L231 X231 ⟨rfl, N231, Kc231, E_b230_231, F_b230_droppedTotal_231, F_b230_end_231, F_b230_firsts_231, F_b230_head_231, F_b230_lasts_231, F_b230_totals_231⟩
        have N231 := Fr.app N192 N231
        have O231 := O230.keep Kc231 (allS n_b230 all0)
        show Go p e below _ (T231.setTop (mkF m 81 _ [(.ref b230)]))
        refine own_astore 83 #[oJ q0, oS, oJ q1, oS, oJ q2, oS, oJ q3, oS, oI x4, oJ q0, oS, oJ q1, oS, oI (2 : Int32), oI (1 : Int32), oI (1 : Int32), oI (1 : Int32), oA b230, oU, oU, oU] X231 hx hby at_81 rfl rfl rfl ?_
        refine own_iload 85 X231 hx hby at_83 rfl rfl ?_
        refine own_ifN 88 X231 hx hby at_85 rfl (by decide) ?_
        refine own_aload 90 X231 hx hby at_88 rfl rfl rfl ?_
        refine own_lload 92 X231 hx hby at_90 rfl rfl ?_
        refine own_lconst 93 (1 : Int64) X231 hx hby at_92 rfl (by decide) ?_
        refine own_virt (W := 0) 96 (rm6_14 l Z a0 hw [] w_NONE k_NONE W b230 q0 T231.heap n0 O231 E_b230_231 F_b230_droppedTotal_231 F_b230_end_231 F_b230_firsts_231 F_b230_head_231 F_b230_lasts_231 F_b230_totals_231 n_b230) X231 hx hby hZ hown (own_w hw 34 rfl) (own_w hw 35 rfl) (notFace_of_selects (args := #[]) (mvT hZ (own_w hw 37 rfl))) (own_w hw 37 rfl) (own_w hw 36 rfl) (own_w hw 10 rfl) (own_w hw 38 rfl) (by decide) (by rw [hml]; rfl) b230 [(.long q0), (.long (1 : Int64))] [] pd_7 rfl at_93 rfl rfl E_b230_231 rfl rfl rfl (by decide) (by decide) (by decide) (by decide) ?_
        rintro _ T232 L232 X232 ⟨b232_0, b232_1, b232_2, k232_0, k232_1, k232_2, rfl, N232, Kc232, n_b232_0, sz_b232_0, n_b232_1, sz_b232_1, n_b232_2, sz_b232_2, ne_b232_0_b232_1, ne_b232_0_b232_2, ne_b232_1_b232_2, E_b230_232, F_b230_droppedTotal_232, F_b230_end_232, F_b230_firsts_232, F_b230_head_232, F_b230_lasts_232, F_b230_totals_232, V_b232_0_232, V_b232_1_232, V_b232_2_232⟩
        have N232 := Fr.app N231 N232
        have ne_b230_b232_0 : b230 ≠ b232_0 := Nat.ne_of_lt (Nat.lt_of_lt_of_le E_b230_231.lt sz_b232_0)
        have ne_b230_b232_1 : b230 ≠ b232_1 := Nat.ne_of_lt (Nat.lt_of_lt_of_le E_b230_231.lt sz_b232_1)
        have ne_b230_b232_2 : b230 ≠ b232_2 := Nat.ne_of_lt (Nat.lt_of_lt_of_le E_b230_231.lt sz_b232_2)
        have O232 := O231.keep Kc232 (allS n_b230 all0)
        show Go p e below _ (T232.setTop (mkF m 96 _ []))
        refine own_iload 98 X232 hx hby at_96 rfl rfl ?_
        refine own_ifN 101 X232 hx hby at_98 rfl (by decide) ?_
        refine own_aload 103 X232 hx hby at_101 rfl rfl rfl ?_
        refine own_lload 105 X232 hx hby at_103 rfl rfl ?_
        refine own_lconst 106 (1 : Int64) X232 hx hby at_105 rfl (by decide) ?_
        refine own_virt (W := 0) 109 (rm6_21 l Z a0 hw [] w_NONE k_NONE W b230 b232_0 k232_0 b232_1 k232_1 b232_2 k232_2 q1 q0 T232.heap n0 O232 E_b230_232 F_b230_droppedTotal_232 F_b230_end_232 F_b230_firsts_232 F_b230_head_232 F_b230_lasts_232 F_b230_totals_232 n_b230 V_b232_0_232 n_b232_0 V_b232_1_232 n_b232_1 V_b232_2_232 n_b232_2 ne_b230_b232_0 ne_b230_b232_1 ne_b230_b232_2 ne_b232_0_b232_1 ne_b232_0_b232_2 ne_b232_1_b232_2) X232 hx hby hZ hown (own_w hw 34 rfl) (own_w hw 35 rfl) (notFace_of_selects (args := #[]) (mvT hZ (own_w hw 37 rfl))) (own_w hw 37 rfl) (own_w hw 36 rfl) (own_w hw 10 rfl) (own_w hw 38 rfl) (by decide) (by rw [hml]; rfl) b230 [(.long q1), (.long (1 : Int64))] [] pd_7 rfl at_106 rfl rfl E_b230_232 rfl rfl rfl (by decide) (by decide) (by decide) (by decide) ?_
        rintro _ T233 L233 X233 ⟨rfl, N233, Kc233, E_b230_233, F_b230_droppedTotal_233, F_b230_end_233, F_b230_firsts_233, F_b230_head_233, F_b230_lasts_233, F_b230_totals_233, V_b232_0_233, V_b232_1_233, V_b232_2_233⟩
        have N233 := Fr.app N232 N233
        have O233 := O232.keep Kc233 (allS n_b232_0 (allS n_b232_1 (allS n_b232_2 (allS n_b230 all0))))
        show Go p e below _ (T233.setTop (mkF m 109 _ []))
        refine own_iload 111 X233 hx hby at_109 rfl rfl ?_
        refine own_ifN 114 X233 hx hby at_111 rfl (by decide) ?_
        refine own_aload 116 X233 hx hby at_114 rfl rfl rfl ?_
        refine own_lload 118 X233 hx hby at_116 rfl rfl ?_
        by_cases hc234 : q2 < q0
        · refine own_virt (W := 0) 121 (rm11_24 l Z a0 hw [] w_NONE k_NONE W b230 b232_0 k232_0 b232_1 k232_1 b232_2 k232_2 q2 q0 q1 T233.heap n0 O233 E_b230_233 F_b230_droppedTotal_233 F_b230_end_233 F_b230_firsts_233 F_b230_head_233 F_b230_lasts_233 F_b230_totals_233 n_b230 V_b232_0_233 n_b232_0 V_b232_1_233 n_b232_1 V_b232_2_233 n_b232_2 ne_b230_b232_0 ne_b230_b232_1 ne_b230_b232_2 ne_b232_0_b232_1 ne_b232_0_b232_2 ne_b232_1_b232_2 hc234) X233 hx hby hZ hown (own_w hw 61 rfl) (own_w hw 62 rfl) (notFace_of_selects (args := #[]) (mvT hZ (own_w hw 64 rfl))) (own_w hw 64 rfl) (own_w hw 63 rfl) (own_w hw 10 rfl) (own_w hw 65 rfl) (by decide) (by rw [hml]; rfl) b230 [(.long q2)] [] pd_3 rfl at_118 rfl rfl E_b230_233 rfl rfl rfl (by decide) (by decide) (by decide) (by decide) ?_
          rintro _ T235 L235 X235 ⟨rfl, N235, e235⟩
          have N235 := Fr.app N233 N235
          show Go p e below _ (T235.setTop (mkF m 121 _ []))
          refine own_iload 123 X235 hx hby at_121 rfl rfl ?_
          refine own_ifN 126 X235 hx hby at_123 rfl (by decide) ?_
          refine own_iload 128 X235 hx hby at_126 rfl rfl ?_
          refine own_ifN 131 X235 hx hby at_128 rfl (by decide) ?_
          refine own_lload 133 X235 hx hby at_131 rfl rfl ?_
          refine own_lload 135 X235 hx hby at_133 rfl rfl ?_
          refine own_lcmp 136 (XT.cmpL q0 q2) X235 hx hby at_135 rfl rfl ?_
          refine own_ifN 139 X235 hx hby at_136 rfl (own_tltL hc234).2.2.2 ?_
          refine own_iconst 140 (1 : Int32) X235 hx hby at_139 rfl (by decide) ?_
          refine own_goto 144 X235 hx hby at_140 (by decide) (by decide) ?_
          refine own_istore 146 #[oJ q0, oS, oJ q1, oS, oJ q2, oS, oJ q3, oS, oI x4, oJ q0, oS, oJ q1, oS, oI (2 : Int32), oI (1 : Int32), oI (1 : Int32), oI (1 : Int32), oA b230, oI (1 : Int32), oU, oU] X235 hx hby at_144 rfl rfl ?_
          refine own_iload 148 X235 hx hby at_146 rfl rfl ?_
          refine own_ifN 151 X235 hx hby at_148 rfl (by decide) ?_
          refine own_iload 153 X235 hx hby at_151 rfl rfl ?_
          refine own_ifN 156 X235 hx hby at_153 rfl (by decide) ?_
          refine own_lload 158 X235 hx hby at_156 rfl rfl ?_
          refine own_lload 160 X235 hx hby at_158 rfl rfl ?_
          refine own_lcmp 161 (XT.cmpL q1 q2) X235 hx hby at_160 rfl rfl ?_
          refine own_ifN 164 X235 hx hby at_161 rfl (own_tltL (by have : -2 ^ 63 ≤ (q2).toInt ∧ (q2).toInt < 2 ^ 63 := own_rngJ q2; have : -2 ^ 63 ≤ (q1).toInt ∧ (q1).toInt < 2 ^ 63 := own_rngJ q1; have : -2 ^ 63 ≤ (q0).toInt ∧ (q0).toInt < 2 ^ 63 := own_rngJ q0; have : ¬ ((q1).toInt < (q0).toInt) := fun q => hc2 (Int64.lt_iff_toInt_lt.mpr q); have : (q2).toInt < (q0).toInt := Int64.lt_iff_toInt_lt.mp hc234; exact Int64.lt_iff_toInt_lt.mpr (by omega))).2.2.2 ?_
          refine own_iconst 165 (1 : Int32) X235 hx hby at_164 rfl (by decide) ?_
          refine own_goto 169 X235 hx hby at_165 (by decide) (by decide) ?_
          refine own_istore 171 #[oJ q0, oS, oJ q1, oS, oJ q2, oS, oJ q3, oS, oI x4, oJ q0, oS, oJ q1, oS, oI (2 : Int32), oI (1 : Int32), oI (1 : Int32), oI (1 : Int32), oA b230, oI (1 : Int32), oI (1 : Int32), oU] X235 hx hby at_169 rfl rfl ?_
          refine own_iload 173 X235 hx hby at_171 rfl rfl ?_
          refine own_ifN 176 X235 hx hby at_173 rfl (by decide) ?_
          refine own_lload 178 X235 hx hby at_176 rfl rfl ?_
          refine own_lload 180 X235 hx hby at_178 rfl rfl ?_
          refine own_lcmp 181 (XT.cmpL q0 q3) X235 hx hby at_180 rfl rfl ?_
          by_cases hc236 : q3 < q0
          · refine own_ifN 184 X235 hx hby at_181 rfl (own_tltL hc236).2.2.2 ?_
            refine own_iconst 185 (1 : Int32) X235 hx hby at_184 rfl (by decide) ?_
            refine own_goto 189 X235 hx hby at_185 (by decide) (by decide) ?_
            refine own_istore 191 #[oJ q0, oS, oJ q1, oS, oJ q2, oS, oJ q3, oS, oI x4, oJ q0, oS, oJ q1, oS, oI (2 : Int32), oI (1 : Int32), oI (1 : Int32), oI (1 : Int32), oA b230, oI (1 : Int32), oI (1 : Int32), oI (1 : Int32)] X235 hx hby at_189 rfl rfl ?_
            refine own_goto 220 X235 hx hby at_191 (by decide) (by decide) ?_
            refine own_aload 222 X235 hx hby at_220 rfl rfl rfl ?_
            refine own_lload 224 X235 hx hby at_222 rfl rfl ?_
            refine own_virt (W := 0) 227 (rm5_22 l Z a0 hw [] w_NONE k_NONE W b230 b232_0 k232_0 b232_1 k232_1 b232_2 k232_2 q3 q0 q1 T233.heap n0 O233 E_b230_233 F_b230_droppedTotal_233 F_b230_end_233 F_b230_firsts_233 F_b230_head_233 F_b230_lasts_233 F_b230_totals_233 n_b230 V_b232_0_233 n_b232_0 V_b232_1_233 n_b232_1 V_b232_2_233 n_b232_2 ne_b230_b232_0 ne_b230_b232_1 ne_b230_b232_2 ne_b232_0_b232_1 ne_b232_0_b232_2 ne_b232_1_b232_2 hc236) X235 hx hby hZ hown (own_w hw 25 rfl) (own_w hw 26 rfl) (notFace_of_selects (args := #[]) (mvT hZ (own_w hw 28 rfl))) (own_w hw 28 rfl) (own_w hw 27 rfl) (own_w hw 10 rfl) (own_w hw 29 rfl) (by decide) (by rw [hml]; rfl) b230 [(.long q3)] [] pd_2 rfl at_224 rfl e235 E_b230_233 rfl rfl rfl (by decide) (by decide) (by decide) (by decide) ?_
            rintro _ T237 L237 X237 ⟨rfl, N237, e237⟩
            have N237 := Fr.app N235 N237
            show Go p e below _ (T237.setTop (mkF m 227 _ [(.int (1 : Int32))]))
            refine own_iload 229 X237 hx hby at_227 rfl rfl ?_
            refine own_icN 232 X237 hx hby at_229 rfl (by decide) ?_
            refine own_iconst 233 (1 : Int32) X237 hx hby at_232 rfl (by decide) ?_
            refine own_goto 237 X237 hx hby at_233 (by decide) (by decide) ?_
            exact own_ret (Q := own_Q1 n0) X237 hx hby hret hlk at_237 rfl (Or.inl ⟨rfl, by simp, _, rfl⟩) (by decide) (by decide) ⟨rfl, N237⟩
          refine own_ifY 188 X235 hx hby at_181 (by decide) (by decide) (own_fltL hc236).2.2.2 ?_
          refine own_iconst 189 (0 : Int32) X235 hx hby at_188 rfl (by decide) ?_
          refine own_istore 191 #[oJ q0, oS, oJ q1, oS, oJ q2, oS, oJ q3, oS, oI x4, oJ q0, oS, oJ q1, oS, oI (2 : Int32), oI (1 : Int32), oI (1 : Int32), oI (1 : Int32), oA b230, oI (1 : Int32), oI (1 : Int32), oI (0 : Int32)] X235 hx hby at_189 rfl rfl ?_
          refine own_goto 220 X235 hx hby at_191 (by decide) (by decide) ?_
          refine own_aload 222 X235 hx hby at_220 rfl rfl rfl ?_
          refine own_lload 224 X235 hx hby at_222 rfl rfl ?_
          refine own_virt (W := 0) 227 (rm5_23 l Z a0 hw [] w_NONE k_NONE W b230 b232_0 k232_0 b232_1 k232_1 b232_2 k232_2 q3 q0 q1 T233.heap n0 O233 E_b230_233 F_b230_droppedTotal_233 F_b230_end_233 F_b230_firsts_233 F_b230_head_233 F_b230_lasts_233 F_b230_totals_233 n_b230 V_b232_0_233 n_b232_0 V_b232_1_233 n_b232_1 V_b232_2_233 n_b232_2 ne_b230_b232_0 ne_b230_b232_1 ne_b230_b232_2 ne_b232_0_b232_1 ne_b232_0_b232_2 ne_b232_1_b232_2 hc236) X235 hx hby hZ hown (own_w hw 25 rfl) (own_w hw 26 rfl) (notFace_of_selects (args := #[]) (mvT hZ (own_w hw 28 rfl))) (own_w hw 28 rfl) (own_w hw 27 rfl) (own_w hw 10 rfl) (own_w hw 29 rfl) (by decide) (by rw [hml]; rfl) b230 [(.long q3)] [] pd_2 rfl at_224 rfl e235 E_b230_233 rfl rfl rfl (by decide) (by decide) (by decide) (by decide) ?_
          rintro _ T238 L238 X238 ⟨rfl, N238, e238⟩
          have N238 := Fr.app N235 N238
          show Go p e below _ (T238.setTop (mkF m 227 _ [(.int (0 : Int32))]))
          refine own_iload 229 X238 hx hby at_227 rfl rfl ?_
          refine own_icN 232 X238 hx hby at_229 rfl (by decide) ?_
          refine own_iconst 233 (1 : Int32) X238 hx hby at_232 rfl (by decide) ?_
          refine own_goto 237 X238 hx hby at_233 (by decide) (by decide) ?_
          exact own_ret (Q := own_Q1 n0) X238 hx hby hret hlk at_237 rfl (Or.inl ⟨rfl, by simp, _, rfl⟩) (by decide) (by decide) ⟨rfl, N238⟩
        by_cases hc239 : q2 < q1
        · refine own_virt (W := 0) 121 (rm11_25 l Z a0 hw [] w_NONE k_NONE W b230 b232_0 k232_0 b232_1 k232_1 b232_2 k232_2 q2 q0 q1 T233.heap n0 O233 E_b230_233 F_b230_droppedTotal_233 F_b230_end_233 F_b230_firsts_233 F_b230_head_233 F_b230_lasts_233 F_b230_totals_233 n_b230 V_b232_0_233 n_b232_0 V_b232_1_233 n_b232_1 V_b232_2_233 n_b232_2 ne_b230_b232_0 ne_b230_b232_1 ne_b230_b232_2 ne_b232_0_b232_1 ne_b232_0_b232_2 ne_b232_1_b232_2 hc234 hc239) X233 hx hby hZ hown (own_w hw 61 rfl) (own_w hw 62 rfl) (notFace_of_selects (args := #[]) (mvT hZ (own_w hw 64 rfl))) (own_w hw 64 rfl) (own_w hw 63 rfl) (own_w hw 10 rfl) (own_w hw 65 rfl) (by decide) (by rw [hml]; rfl) b230 [(.long q2)] [] pd_3 rfl at_118 rfl rfl E_b230_233 rfl rfl rfl (by decide) (by decide) (by decide) (by decide) ?_
          rintro _ T240 L240 X240 ⟨rfl, N240, Kc240, E_b230_240, F_b230_droppedTotal_240, F_b230_end_240, F_b230_firsts_240, F_b230_head_240, F_b230_lasts_240, F_b230_totals_240, V_b232_0_240, V_b232_1_240, V_b232_2_240⟩
          have N240 := Fr.app N233 N240
          have O240 := O233.keep Kc240 (allS n_b230 all0)
          show Go p e below _ (T240.setTop (mkF m 121 _ []))
          refine own_iload 123 X240 hx hby at_121 rfl rfl ?_
          refine own_ifN 126 X240 hx hby at_123 rfl (by decide) ?_
          refine own_iload 128 X240 hx hby at_126 rfl rfl ?_
          refine own_ifN 131 X240 hx hby at_128 rfl (by decide) ?_
          refine own_lload 133 X240 hx hby at_131 rfl rfl ?_
          refine own_lload 135 X240 hx hby at_133 rfl rfl ?_
          refine own_lcmp 136 (XT.cmpL q0 q2) X240 hx hby at_135 rfl rfl ?_
          refine own_ifY 143 X240 hx hby at_136 (by decide) (by decide) (own_fltL hc234).2.2.2 ?_
          refine own_iconst 144 (0 : Int32) X240 hx hby at_143 rfl (by decide) ?_
          refine own_istore 146 #[oJ q0, oS, oJ q1, oS, oJ q2, oS, oJ q3, oS, oI x4, oJ q0, oS, oJ q1, oS, oI (2 : Int32), oI (1 : Int32), oI (1 : Int32), oI (1 : Int32), oA b230, oI (0 : Int32), oU, oU] X240 hx hby at_144 rfl rfl ?_
          refine own_iload 148 X240 hx hby at_146 rfl rfl ?_
          refine own_ifN 151 X240 hx hby at_148 rfl (by decide) ?_
          refine own_iload 153 X240 hx hby at_151 rfl rfl ?_
          refine own_ifN 156 X240 hx hby at_153 rfl (by decide) ?_
          refine own_lload 158 X240 hx hby at_156 rfl rfl ?_
          refine own_lload 160 X240 hx hby at_158 rfl rfl ?_
          refine own_lcmp 161 (XT.cmpL q1 q2) X240 hx hby at_160 rfl rfl ?_
          refine own_ifN 164 X240 hx hby at_161 rfl (own_tltL hc239).2.2.2 ?_
          refine own_iconst 165 (1 : Int32) X240 hx hby at_164 rfl (by decide) ?_
          refine own_goto 169 X240 hx hby at_165 (by decide) (by decide) ?_
          refine own_istore 171 #[oJ q0, oS, oJ q1, oS, oJ q2, oS, oJ q3, oS, oI x4, oJ q0, oS, oJ q1, oS, oI (2 : Int32), oI (1 : Int32), oI (1 : Int32), oI (1 : Int32), oA b230, oI (0 : Int32), oI (1 : Int32), oU] X240 hx hby at_169 rfl rfl ?_
          refine own_iload 173 X240 hx hby at_171 rfl rfl ?_
          refine own_ifY 194 X240 hx hby at_173 (by decide) (by decide) (by decide) ?_
          refine own_iload 196 X240 hx hby at_194 rfl rfl ?_
          refine own_ifN 199 X240 hx hby at_196 rfl (by decide) ?_
          refine own_lload 201 X240 hx hby at_199 rfl rfl ?_
          refine own_lload 203 X240 hx hby at_201 rfl rfl ?_
          refine own_lcmp 204 (XT.cmpL q1 q3) X240 hx hby at_203 rfl rfl ?_
          by_cases hc241 : q3 < q1
          · refine own_ifN 207 X240 hx hby at_204 rfl (own_tltL hc241).2.2.2 ?_
            refine own_iconst 208 (1 : Int32) X240 hx hby at_207 rfl (by decide) ?_
            refine own_goto 212 X240 hx hby at_208 (by decide) (by decide) ?_
            refine own_istore 214 #[oJ q0, oS, oJ q1, oS, oJ q2, oS, oJ q3, oS, oI x4, oJ q0, oS, oJ q1, oS, oI (2 : Int32), oI (1 : Int32), oI (1 : Int32), oI (1 : Int32), oA b230, oI (0 : Int32), oI (1 : Int32), oI (1 : Int32)] X240 hx hby at_212 rfl rfl ?_
            refine own_goto 220 X240 hx hby at_214 (by decide) (by decide) ?_
            refine own_aload 222 X240 hx hby at_220 rfl rfl rfl ?_
            refine own_lload 224 X240 hx hby at_222 rfl rfl ?_
            refine own_virt (W := 0) 227 (rm5_27 l Z a0 hw [] w_NONE k_NONE W b230 b232_0 k232_0 b232_1 k232_1 b232_2 k232_2 q3 q0 q1 T240.heap n0 O240 E_b230_240 F_b230_droppedTotal_240 F_b230_end_240 F_b230_firsts_240 F_b230_head_240 F_b230_lasts_240 F_b230_totals_240 n_b230 V_b232_0_240 n_b232_0 V_b232_1_240 n_b232_1 V_b232_2_240 n_b232_2 ne_b230_b232_0 ne_b230_b232_1 ne_b230_b232_2 ne_b232_0_b232_1 ne_b232_0_b232_2 ne_b232_1_b232_2 hc241) X240 hx hby hZ hown (own_w hw 25 rfl) (own_w hw 26 rfl) (notFace_of_selects (args := #[]) (mvT hZ (own_w hw 28 rfl))) (own_w hw 28 rfl) (own_w hw 27 rfl) (own_w hw 10 rfl) (own_w hw 29 rfl) (by decide) (by rw [hml]; rfl) b230 [(.long q3)] [] pd_2 rfl at_224 rfl rfl E_b230_240 rfl rfl rfl (by decide) (by decide) (by decide) (by decide) ?_
            rintro _ T242 L242 X242 ⟨rfl, N242, e242⟩
            have N242 := Fr.app N240 N242
            show Go p e below _ (T242.setTop (mkF m 227 _ [(.int (1 : Int32))]))
            refine own_iload 229 X242 hx hby at_227 rfl rfl ?_
            refine own_icN 232 X242 hx hby at_229 rfl (by decide) ?_
            refine own_iconst 233 (1 : Int32) X242 hx hby at_232 rfl (by decide) ?_
            refine own_goto 237 X242 hx hby at_233 (by decide) (by decide) ?_
            exact own_ret (Q := own_Q1 n0) X242 hx hby hret hlk at_237 rfl (Or.inl ⟨rfl, by simp, _, rfl⟩) (by decide) (by decide) ⟨rfl, N242⟩
          refine own_ifY 211 X240 hx hby at_204 (by decide) (by decide) (own_fltL hc241).2.2.2 ?_
          refine own_iconst 212 (0 : Int32) X240 hx hby at_211 rfl (by decide) ?_
          refine own_istore 214 #[oJ q0, oS, oJ q1, oS, oJ q2, oS, oJ q3, oS, oI x4, oJ q0, oS, oJ q1, oS, oI (2 : Int32), oI (1 : Int32), oI (1 : Int32), oI (1 : Int32), oA b230, oI (0 : Int32), oI (1 : Int32), oI (0 : Int32)] X240 hx hby at_212 rfl rfl ?_
          refine own_goto 220 X240 hx hby at_214 (by decide) (by decide) ?_
          refine own_aload 222 X240 hx hby at_220 rfl rfl rfl ?_
          refine own_lload 224 X240 hx hby at_222 rfl rfl ?_
          refine own_virt (W := 0) 227 (rm5_28 l Z a0 hw [] w_NONE k_NONE W b230 b232_0 k232_0 b232_1 k232_1 b232_2 k232_2 q3 q0 q1 T240.heap n0 O240 E_b230_240 F_b230_droppedTotal_240 F_b230_end_240 F_b230_firsts_240 F_b230_head_240 F_b230_lasts_240 F_b230_totals_240 n_b230 V_b232_0_240 n_b232_0 V_b232_1_240 n_b232_1 V_b232_2_240 n_b232_2 ne_b230_b232_0 ne_b230_b232_1 ne_b230_b232_2 ne_b232_0_b232_1 ne_b232_0_b232_2 ne_b232_1_b232_2 hc241) X240 hx hby hZ hown (own_w hw 25 rfl) (own_w hw 26 rfl) (notFace_of_selects (args := #[]) (mvT hZ (own_w hw 28 rfl))) (own_w hw 28 rfl) (own_w hw 27 rfl) (own_w hw 10 rfl) (own_w hw 29 rfl) (by decide) (by rw [hml]; rfl) b230 [(.long q3)] [] pd_2 rfl at_224 rfl rfl E_b230_240 rfl rfl rfl (by decide) (by decide) (by decide) (by decide) ?_
          rintro _ T243 L243 X243 ⟨rfl, N243, e243⟩
          have N243 := Fr.app N240 N243
          show Go p e below _ (T243.setTop (mkF m 227 _ [(.int (0 : Int32))]))
          refine own_iload 229 X243 hx hby at_227 rfl rfl ?_
          refine own_icN 232 X243 hx hby at_229 rfl (by decide) ?_
          refine own_iconst 233 (1 : Int32) X243 hx hby at_232 rfl (by decide) ?_
          refine own_goto 237 X243 hx hby at_233 (by decide) (by decide) ?_
          exact own_ret (Q := own_Q1 n0) X243 hx hby hret hlk at_237 rfl (Or.inl ⟨rfl, by simp, _, rfl⟩) (by decide) (by decide) ⟨rfl, N243⟩
        refine own_virt (W := 0) 121 (rm11_26 l Z a0 hw [] w_NONE k_NONE W b230 b232_0 k232_0 b232_1 k232_1 b232_2 k232_2 q2 q0 q1 T233.heap n0 O233 E_b230_233 F_b230_droppedTotal_233 F_b230_end_233 F_b230_firsts_233 F_b230_head_233 F_b230_lasts_233 F_b230_totals_233 n_b230 V_b232_0_233 n_b232_0 V_b232_1_233 n_b232_1 V_b232_2_233 n_b232_2 ne_b230_b232_0 ne_b230_b232_1 ne_b230_b232_2 ne_b232_0_b232_1 ne_b232_0_b232_2 ne_b232_1_b232_2 hc234 hc239) X233 hx hby hZ hown (own_w hw 61 rfl) (own_w hw 62 rfl) (notFace_of_selects (args := #[]) (mvT hZ (own_w hw 64 rfl))) (own_w hw 64 rfl) (own_w hw 63 rfl) (own_w hw 10 rfl) (own_w hw 65 rfl) (by decide) (by rw [hml]; rfl) b230 [(.long q2)] [] pd_3 rfl at_118 rfl rfl E_b230_233 rfl rfl rfl (by decide) (by decide) (by decide) (by decide) ?_
        rintro _ T244 L244 X244 ⟨rfl, N244, Kc244, E_b230_244, F_b230_droppedTotal_244, F_b230_end_244, F_b230_firsts_244, F_b230_head_244, F_b230_lasts_244, F_b230_totals_244, V_b232_0_244, V_b232_1_244, V_b232_2_244⟩
        have N244 := Fr.app N233 N244
        have O244 := O233.keep Kc244 (allS n_b230 all0)
        show Go p e below _ (T244.setTop (mkF m 121 _ []))
        refine own_iload 123 X244 hx hby at_121 rfl rfl ?_
        refine own_ifN 126 X244 hx hby at_123 rfl (by decide) ?_
        refine own_iload 128 X244 hx hby at_126 rfl rfl ?_
        refine own_ifN 131 X244 hx hby at_128 rfl (by decide) ?_
        refine own_lload 133 X244 hx hby at_131 rfl rfl ?_
        refine own_lload 135 X244 hx hby at_133 rfl rfl ?_
        refine own_lcmp 136 (XT.cmpL q0 q2) X244 hx hby at_135 rfl rfl ?_
        refine own_ifY 143 X244 hx hby at_136 (by decide) (by decide) (own_fltL hc234).2.2.2 ?_
        refine own_iconst 144 (0 : Int32) X244 hx hby at_143 rfl (by decide) ?_
        refine own_istore 146 #[oJ q0, oS, oJ q1, oS, oJ q2, oS, oJ q3, oS, oI x4, oJ q0, oS, oJ q1, oS, oI (2 : Int32), oI (1 : Int32), oI (1 : Int32), oI (1 : Int32), oA b230, oI (0 : Int32), oU, oU] X244 hx hby at_144 rfl rfl ?_
        refine own_iload 148 X244 hx hby at_146 rfl rfl ?_
        refine own_ifN 151 X244 hx hby at_148 rfl (by decide) ?_
        refine own_iload 153 X244 hx hby at_151 rfl rfl ?_
        refine own_ifN 156 X244 hx hby at_153 rfl (by decide) ?_
        refine own_lload 158 X244 hx hby at_156 rfl rfl ?_
        refine own_lload 160 X244 hx hby at_158 rfl rfl ?_
        refine own_lcmp 161 (XT.cmpL q1 q2) X244 hx hby at_160 rfl rfl ?_
        refine own_ifY 168 X244 hx hby at_161 (by decide) (by decide) (own_fltL hc239).2.2.2 ?_
        refine own_iconst 169 (0 : Int32) X244 hx hby at_168 rfl (by decide) ?_
        refine own_istore 171 #[oJ q0, oS, oJ q1, oS, oJ q2, oS, oJ q3, oS, oI x4, oJ q0, oS, oJ q1, oS, oI (2 : Int32), oI (1 : Int32), oI (1 : Int32), oI (1 : Int32), oA b230, oI (0 : Int32), oI (0 : Int32), oU] X244 hx hby at_169 rfl rfl ?_
        refine own_iload 173 X244 hx hby at_171 rfl rfl ?_
        refine own_ifY 194 X244 hx hby at_173 (by decide) (by decide) (by decide) ?_
        refine own_iload 196 X244 hx hby at_194 rfl rfl ?_
        refine own_ifY 217 X244 hx hby at_196 (by decide) (by decide) (by decide) ?_
        refine own_iconst 218 (1 : Int32) X244 hx hby at_217 rfl (by decide) ?_
        refine own_istore 220 #[oJ q0, oS, oJ q1, oS, oJ q2, oS, oJ q3, oS, oI x4, oJ q0, oS, oJ q1, oS, oI (2 : Int32), oI (1 : Int32), oI (1 : Int32), oI (1 : Int32), oA b230, oI (0 : Int32), oI (0 : Int32), oI (1 : Int32)] X244 hx hby at_218 rfl rfl ?_
        refine own_aload 222 X244 hx hby at_220 rfl rfl rfl ?_
        refine own_lload 224 X244 hx hby at_222 rfl rfl ?_
        refine own_virt (W := 0) 227 (rm5_29 l Z a0 hw [] w_NONE k_NONE W b230 b232_0 k232_0 b232_1 k232_1 b232_2 k232_2 q3 q0 q1 T244.heap n0 O244 E_b230_244 F_b230_droppedTotal_244 F_b230_end_244 F_b230_firsts_244 F_b230_head_244 F_b230_lasts_244 F_b230_totals_244 n_b230 V_b232_0_244 n_b232_0 V_b232_1_244 n_b232_1 V_b232_2_244 n_b232_2 ne_b230_b232_0 ne_b230_b232_1 ne_b230_b232_2 ne_b232_0_b232_1 ne_b232_0_b232_2 ne_b232_1_b232_2) X244 hx hby hZ hown (own_w hw 25 rfl) (own_w hw 26 rfl) (notFace_of_selects (args := #[]) (mvT hZ (own_w hw 28 rfl))) (own_w hw 28 rfl) (own_w hw 27 rfl) (own_w hw 10 rfl) (own_w hw 29 rfl) (by decide) (by rw [hml]; rfl) b230 [(.long q3)] [] pd_2 rfl at_224 rfl rfl E_b230_244 rfl rfl rfl (by decide) (by decide) (by decide) (by decide) ?_
        rintro _ T245 L245 X245 ⟨rfl, N245, e245⟩
        have N245 := Fr.app N244 N245
        show Go p e below _ (T245.setTop (mkF m 227 _ [(.int (1 : Int32))]))
        refine own_iload 229 X245 hx hby at_227 rfl rfl ?_
        refine own_icN 232 X245 hx hby at_229 rfl (by decide) ?_
        refine own_iconst 233 (1 : Int32) X245 hx hby at_232 rfl (by decide) ?_
        refine own_goto 237 X245 hx hby at_233 (by decide) (by decide) ?_
        exact own_ret (Q := own_Q1 n0) X245 hx hby hret hlk at_237 rfl (Or.inl ⟨rfl, by simp, _, rfl⟩) (by decide) (by decide) ⟨rfl, N245⟩
  refine own_callS (W := 0) 12 (rm2_4 l Z a0 hw [] w_NONE k_NONE W q0 q1 h0 n0 O0 hc191) X190 hx hby hZ hown (own_w hw 4 rfl) (own_w hw 5 rfl) (own_w hw 2 rfl) (own_w hw 6 rfl) (by decide) (by rw [hml]; rfl) [(.long q0), (.long q1)] [] pd_0 rfl at_9 rfl e190 rfl rfl rfl (by decide) (by decide) (by decide) (by decide) ?_
  rintro _ T246 L246 X246 ⟨rfl, N246, e246⟩
  have N246 := Fr.app N190 N246
  show Go p e below _ (T246.setTop (mkF m 12 _ [(.long q0)]))
  refine own_lstore 14 #[oJ q0, oS, oJ q1, oS, oJ q2, oS, oJ q3, oS, oI x4, oJ q0, oS, oJ q0, oS, oU, oU, oU, oU, oU, oU, oU, oU] X246 hx hby at_12 rfl rfl ?_
  refine own_iload 16 X246 hx hby at_14 rfl rfl ?_
  refine own_ldc 18 X246 hx hby hZ hown (own_w hw 7 rfl) at_16 rfl ?_
  refine own_iand 19 (x4 &&& (2147483647 : Int32)) X246 hx hby at_18 rfl rfl ?_
  refine own_iconst 20 (3 : Int32) X246 hx hby at_19 rfl (by decide) ?_
  rcases own_mod3 x4 with hv247 | hv247 | hv247
  · refine own_irem 21 (0 : Int32) X246 hx hby at_20 rfl (by decide) hv247 ?_
    refine own_istore 23 #[oJ q0, oS, oJ q1, oS, oJ q2, oS, oJ q3, oS, oI x4, oJ q0, oS, oJ q0, oS, oI (0 : Int32), oU, oU, oU, oU, oU, oU, oU] X246 hx hby at_21 rfl rfl ?_
    refine own_iload 25 X246 hx hby at_23 rfl rfl ?_
    refine own_iconst 26 (1 : Int32) X246 hx hby at_25 rfl (by decide) ?_
    refine own_icY 33 X246 hx hby at_26 (by decide) (by decide) (by decide) ?_
    refine own_iconst 34 (0 : Int32) X246 hx hby at_33 rfl (by decide) ?_
    refine own_istore 36 #[oJ q0, oS, oJ q1, oS, oJ q2, oS, oJ q3, oS, oI x4, oJ q0, oS, oJ q0, oS, oI (0 : Int32), oI (0 : Int32), oU, oU, oU, oU, oU, oU] X246 hx hby at_34 rfl rfl ?_
    refine own_iload 38 X246 hx hby at_36 rfl rfl ?_
    refine own_iconst 39 (2 : Int32) X246 hx hby at_38 rfl (by decide) ?_
    refine own_icY 54 X246 hx hby at_39 (by decide) (by decide) (by decide) ?_
    refine own_iconst 55 (0 : Int32) X246 hx hby at_54 rfl (by decide) ?_
    refine own_istore 57 #[oJ q0, oS, oJ q1, oS, oJ q2, oS, oJ q3, oS, oI x4, oJ q0, oS, oJ q0, oS, oI (0 : Int32), oI (0 : Int32), oI (0 : Int32), oU, oU, oU, oU, oU] X246 hx hby at_55 rfl rfl ?_
    refine own_iload 59 X246 hx hby at_57 rfl rfl ?_
    refine own_bipush 61 (8 : Int32) X246 hx hby at_59 rfl (by decide) ?_
    obtain ⟨v248, dv248⟩ : ∃ z, z = (XT.ushr x4 (8 : Int32)) := ⟨_, rfl⟩
    refine own_iushr 62 v248 X246 hx hby at_61 rfl dv248.symm ?_
    refine own_iconst 63 (1 : Int32) X246 hx hby at_62 rfl (by decide) ?_
    rcases own_and1 v248 with hv249 | hv249
    · refine own_iand 64 (0 : Int32) X246 hx hby at_63 rfl hv249 ?_
      refine own_ifY 71 X246 hx hby at_64 (by decide) (by decide) (by decide) ?_
      refine own_iconst 72 (0 : Int32) X246 hx hby at_71 rfl (by decide) ?_
      refine own_istore 74 #[oJ q0, oS, oJ q1, oS, oJ q2, oS, oJ q3, oS, oI x4, oJ q0, oS, oJ q0, oS, oI (0 : Int32), oI (0 : Int32), oI (0 : Int32), oI (0 : Int32), oU, oU, oU, oU] X246 hx hby at_72 rfl rfl ?_
      refine own_new 77 6 X246 hx hby hZ hown (own_w hw 8 rfl) (own_w hw 9 rfl) (own_w hw 10 rfl) e246 at_74 rfl (by decide) (by decide) ?_
      intro T250 h250 b250 X250 e250 E250 g250 A250 D250
      have n_b250 : n0 ≤ b250 := Nat.le_trans (own_n0 O0) (Nat.le_of_eq g250.symm)
      have O250 := O0.ext E250
      have F_b250_firsts : Fld Z h250 b250 "com/example/meter/meter/store/Spans" "firsts" "[J" .null := D250 (Or.inl (own_w hw 20 rfl)) (ty := (.array .long)) (by decide)
      have F_b250_lasts : Fld Z h250 b250 "com/example/meter/meter/store/Spans" "lasts" "[J" .null := D250 (Or.inl (own_w hw 22 rfl)) (ty := (.array .long)) (by decide)
      have F_b250_totals : Fld Z h250 b250 "com/example/meter/meter/store/Spans" "totals" "[J" .null := D250 (Or.inl (own_w hw 24 rfl)) (ty := (.array .long)) (by decide)
      have F_b250_head : Fld Z h250 b250 "com/example/meter/meter/store/Spans" "head" "I" (.int (0 : Int32)) := D250 (Or.inl (own_w hw 31 rfl)) (ty := .int) (by decide)
      have F_b250_end : Fld Z h250 b250 "com/example/meter/meter/store/Spans" "end" "I" (.int (0 : Int32)) := D250 (Or.inl (own_w hw 33 rfl)) (ty := .int) (by decide)
      have F_b250_droppedTotal : Fld Z h250 b250 "com/example/meter/meter/store/Spans" "droppedTotal" "J" (.long (0 : Int64)) := D250 (Or.inl (own_w hw 60 rfl)) (ty := .long) (by decide)
      refine own_dup 78 X250 hx hby at_77 rfl rfl ?_
      refine own_spec (W := 1) 81 (rm3_5 l Z a0 hw [] w_NONE k_NONE W b250 h250 n0 O250 A250 F_b250_droppedTotal F_b250_end F_b250_firsts F_b250_head F_b250_lasts F_b250_totals n_b250) X250 hx hby hZ hown rfl (own_w hw 11 rfl) (own_w hw 12 rfl) (own_w hw 10 rfl) (own_w hw 13 rfl) (by decide) (by rw [hml]; rfl) b250 [] [(.ref b250)] pd_1 rfl at_78 rfl e250 rfl rfl rfl (by decide) (by decide) (by decide) (by decide) ?_
      rintro _ T251 L251 X251 ⟨rfl, N251, Kc251, E_b250_251, F_b250_droppedTotal_251, F_b250_end_251, F_b250_firsts_251, F_b250_head_251, F_b250_lasts_251, F_b250_totals_251⟩
      have N251 := Fr.app N246 N251
      have O251 := O250.keep Kc251 (allS n_b250 all0)
      show Go p e below _ (T251.setTop (mkF m 81 _ [(.ref b250)]))
      refine own_astore 83 #[oJ q0, oS, oJ q1, oS, oJ q2, oS, oJ q3, oS, oI x4, oJ q0, oS, oJ q0, oS, oI (0 : Int32), oI (0 : Int32), oI (0 : Int32), oI (0 : Int32), oA b250, oU, oU, oU] X251 hx hby at_81 rfl rfl rfl ?_
      refine own_iload 85 X251 hx hby at_83 rfl rfl ?_
      refine own_ifY 96 X251 hx hby at_85 (by decide) (by decide) (by decide) ?_
      refine own_iload 98 X251 hx hby at_96 rfl rfl ?_
      refine own_ifY 109 X251 hx hby at_98 (by decide) (by decide) (by decide) ?_
      refine own_iload 111 X251 hx hby at_109 rfl rfl ?_
      refine own_ifY 121 X251 hx hby at_111 (by decide) (by decide) (by decide) ?_
      refine own_iload 123 X251 hx hby at_121 rfl rfl ?_
      refine own_ifY 143 X251 hx hby at_123 (by decide) (by decide) (by decide) ?_
      refine own_iconst 144 (0 : Int32) X251 hx hby at_143 rfl (by decide) ?_
      refine own_istore 146 #[oJ q0, oS, oJ q1, oS, oJ q2, oS, oJ q3, oS, oI x4, oJ q0, oS, oJ q0, oS, oI (0 : Int32), oI (0 : Int32), oI (0 : Int32), oI (0 : Int32), oA b250, oI (0 : Int32), oU, oU] X251 hx hby at_144 rfl rfl ?_
      refine own_iload 148 X251 hx hby at_146 rfl rfl ?_
      refine own_ifY 168 X251 hx hby at_148 (by decide) (by decide) (by decide) ?_
      refine own_iconst 169 (0 : Int32) X251 hx hby at_168 rfl (by decide) ?_
      refine own_istore 171 #[oJ q0, oS, oJ q1, oS, oJ q2, oS, oJ q3, oS, oI x4, oJ q0, oS, oJ q0, oS, oI (0 : Int32), oI (0 : Int32), oI (0 : Int32), oI (0 : Int32), oA b250, oI (0 : Int32), oI (0 : Int32), oU] X251 hx hby at_169 rfl rfl ?_
      refine own_iload 173 X251 hx hby at_171 rfl rfl ?_
      refine own_ifY 194 X251 hx hby at_173 (by decide) (by decide) (by decide) ?_
      refine own_iload 196 X251 hx hby at_194 rfl rfl ?_
      refine own_ifY 217 X251 hx hby at_196 (by decide) (by decide) (by decide) ?_
      refine own_iconst 218 (1 : Int32) X251 hx hby at_217 rfl (by decide) ?_
      refine own_istore 220 #[oJ q0, oS, oJ q1, oS, oJ q2, oS, oJ q3, oS, oI x4, oJ q0, oS, oJ q0, oS, oI (0 : Int32), oI (0 : Int32), oI (0 : Int32), oI (0 : Int32), oA b250, oI (0 : Int32), oI (0 : Int32), oI (1 : Int32)] X251 hx hby at_218 rfl rfl ?_
      refine own_aload 222 X251 hx hby at_220 rfl rfl rfl ?_
      refine own_lload 224 X251 hx hby at_222 rfl rfl ?_
      refine own_virt (W := 0) 227 (rm5_6 l Z a0 hw [] w_NONE k_NONE W b250 q3 T251.heap n0 O251 E_b250_251 F_b250_droppedTotal_251 F_b250_end_251 F_b250_firsts_251 F_b250_head_251 F_b250_lasts_251 F_b250_totals_251 n_b250) X251 hx hby hZ hown (own_w hw 25 rfl) (own_w hw 26 rfl) (notFace_of_selects (args := #[]) (mvT hZ (own_w hw 28 rfl))) (own_w hw 28 rfl) (own_w hw 27 rfl) (own_w hw 10 rfl) (own_w hw 29 rfl) (by decide) (by rw [hml]; rfl) b250 [(.long q3)] [] pd_2 rfl at_224 rfl rfl E_b250_251 rfl rfl rfl (by decide) (by decide) (by decide) (by decide) ?_
      rintro _ T252 L252 X252 ⟨rfl, N252, e252⟩
      have N252 := Fr.app N251 N252
      show Go p e below _ (T252.setTop (mkF m 227 _ [(.int (1 : Int32))]))
      refine own_iload 229 X252 hx hby at_227 rfl rfl ?_
      refine own_icN 232 X252 hx hby at_229 rfl (by decide) ?_
      refine own_iconst 233 (1 : Int32) X252 hx hby at_232 rfl (by decide) ?_
      refine own_goto 237 X252 hx hby at_233 (by decide) (by decide) ?_
      exact own_ret (Q := own_Q1 n0) X252 hx hby hret hlk at_237 rfl (Or.inl ⟨rfl, by simp, _, rfl⟩) (by decide) (by decide) ⟨rfl, N252⟩
    · refine own_iand 64 (1 : Int32) X246 hx hby at_63 rfl hv249 ?_
      refine own_ifN 67 X246 hx hby at_64 rfl (by decide) ?_
      refine own_iconst 68 (1 : Int32) X246 hx hby at_67 rfl (by decide) ?_
      refine own_goto 72 X246 hx hby at_68 (by decide) (by decide) ?_
      refine own_istore 74 #[oJ q0, oS, oJ q1, oS, oJ q2, oS, oJ q3, oS, oI x4, oJ q0, oS, oJ q0, oS, oI (0 : Int32), oI (0 : Int32), oI (0 : Int32), oI (1 : Int32), oU, oU, oU, oU] X246 hx hby at_72 rfl rfl ?_
      refine own_new 77 6 X246 hx hby hZ hown (own_w hw 8 rfl) (own_w hw 9 rfl) (own_w hw 10 rfl) e246 at_74 rfl (by decide) (by decide) ?_
      intro T253 h253 b253 X253 e253 E253 g253 A253 D253
      have n_b253 : n0 ≤ b253 := Nat.le_trans (own_n0 O0) (Nat.le_of_eq g253.symm)
      have O253 := O0.ext E253
      have F_b253_firsts : Fld Z h253 b253 "com/example/meter/meter/store/Spans" "firsts" "[J" .null := D253 (Or.inl (own_w hw 20 rfl)) (ty := (.array .long)) (by decide)
      have F_b253_lasts : Fld Z h253 b253 "com/example/meter/meter/store/Spans" "lasts" "[J" .null := D253 (Or.inl (own_w hw 22 rfl)) (ty := (.array .long)) (by decide)
      have F_b253_totals : Fld Z h253 b253 "com/example/meter/meter/store/Spans" "totals" "[J" .null := D253 (Or.inl (own_w hw 24 rfl)) (ty := (.array .long)) (by decide)
      have F_b253_head : Fld Z h253 b253 "com/example/meter/meter/store/Spans" "head" "I" (.int (0 : Int32)) := D253 (Or.inl (own_w hw 31 rfl)) (ty := .int) (by decide)
      have F_b253_end : Fld Z h253 b253 "com/example/meter/meter/store/Spans" "end" "I" (.int (0 : Int32)) := D253 (Or.inl (own_w hw 33 rfl)) (ty := .int) (by decide)
      have F_b253_droppedTotal : Fld Z h253 b253 "com/example/meter/meter/store/Spans" "droppedTotal" "J" (.long (0 : Int64)) := D253 (Or.inl (own_w hw 60 rfl)) (ty := .long) (by decide)
      refine own_dup 78 X253 hx hby at_77 rfl rfl ?_
      refine own_spec (W := 1) 81 (rm3_5 l Z a0 hw [] w_NONE k_NONE W b253 h253 n0 O253 A253 F_b253_droppedTotal F_b253_end F_b253_firsts F_b253_head F_b253_lasts F_b253_totals n_b253) X253 hx hby hZ hown rfl (own_w hw 11 rfl) (own_w hw 12 rfl) (own_w hw 10 rfl) (own_w hw 13 rfl) (by decide) (by rw [hml]; rfl) b253 [] [(.ref b253)] pd_1 rfl at_78 rfl e253 rfl rfl rfl (by decide) (by decide) (by decide) (by decide) ?_
      rintro _ T254 L254 X254 ⟨rfl, N254, Kc254, E_b253_254, F_b253_droppedTotal_254, F_b253_end_254, F_b253_firsts_254, F_b253_head_254, F_b253_lasts_254, F_b253_totals_254⟩
      have N254 := Fr.app N246 N254
      have O254 := O253.keep Kc254 (allS n_b253 all0)
      show Go p e below _ (T254.setTop (mkF m 81 _ [(.ref b253)]))
      refine own_astore 83 #[oJ q0, oS, oJ q1, oS, oJ q2, oS, oJ q3, oS, oI x4, oJ q0, oS, oJ q0, oS, oI (0 : Int32), oI (0 : Int32), oI (0 : Int32), oI (1 : Int32), oA b253, oU, oU, oU] X254 hx hby at_81 rfl rfl rfl ?_
      refine own_iload 85 X254 hx hby at_83 rfl rfl ?_
      refine own_ifY 96 X254 hx hby at_85 (by decide) (by decide) (by decide) ?_
      refine own_iload 98 X254 hx hby at_96 rfl rfl ?_
      refine own_ifY 109 X254 hx hby at_98 (by decide) (by decide) (by decide) ?_
      refine own_iload 111 X254 hx hby at_109 rfl rfl ?_
      refine own_ifN 114 X254 hx hby at_111 rfl (by decide) ?_
      refine own_aload 116 X254 hx hby at_114 rfl rfl rfl ?_
      refine own_lload 118 X254 hx hby at_116 rfl rfl ?_
      refine own_virt (W := 0) 121 (rm11_7 l Z a0 hw [] w_NONE k_NONE W b253 q2 T254.heap n0 O254 E_b253_254 F_b253_droppedTotal_254 F_b253_end_254 F_b253_firsts_254 F_b253_head_254 F_b253_lasts_254 F_b253_totals_254 n_b253) X254 hx hby hZ hown (own_w hw 61 rfl) (own_w hw 62 rfl) (notFace_of_selects (args := #[]) (mvT hZ (own_w hw 64 rfl))) (own_w hw 64 rfl) (own_w hw 63 rfl) (own_w hw 10 rfl) (own_w hw 65 rfl) (by decide) (by rw [hml]; rfl) b253 [(.long q2)] [] pd_3 rfl at_118 rfl rfl E_b253_254 rfl rfl rfl (by decide) (by decide) (by decide) (by decide) ?_
      rintro _ T255 L255 X255 ⟨rfl, N255, e255⟩
      have N255 := Fr.app N254 N255
      show Go p e below _ (T255.setTop (mkF m 121 _ []))
      refine own_iload 123 X255 hx hby at_121 rfl rfl ?_
      refine own_ifY 143 X255 hx hby at_123 (by decide) (by decide) (by decide) ?_
      refine own_iconst 144 (0 : Int32) X255 hx hby at_143 rfl (by decide) ?_
      refine own_istore 146 #[oJ q0, oS, oJ q1, oS, oJ q2, oS, oJ q3, oS, oI x4, oJ q0, oS, oJ q0, oS, oI (0 : Int32), oI (0 : Int32), oI (0 : Int32), oI (1 : Int32), oA b253, oI (0 : Int32), oU, oU] X255 hx hby at_144 rfl rfl ?_
      refine own_iload 148 X255 hx hby at_146 rfl rfl ?_
      refine own_ifY 168 X255 hx hby at_148 (by decide) (by decide) (by decide) ?_
      refine own_iconst 169 (0 : Int32) X255 hx hby at_168 rfl (by decide) ?_
      refine own_istore 171 #[oJ q0, oS, oJ q1, oS, oJ q2, oS, oJ q3, oS, oI x4, oJ q0, oS, oJ q0, oS, oI (0 : Int32), oI (0 : Int32), oI (0 : Int32), oI (1 : Int32), oA b253, oI (0 : Int32), oI (0 : Int32), oU] X255 hx hby at_169 rfl rfl ?_
      refine own_iload 173 X255 hx hby at_171 rfl rfl ?_
      refine own_ifY 194 X255 hx hby at_173 (by decide) (by decide) (by decide) ?_
      refine own_iload 196 X255 hx hby at_194 rfl rfl ?_
      refine own_ifY 217 X255 hx hby at_196 (by decide) (by decide) (by decide) ?_
      refine own_iconst 218 (1 : Int32) X255 hx hby at_217 rfl (by decide) ?_
      refine own_istore 220 #[oJ q0, oS, oJ q1, oS, oJ q2, oS, oJ q3, oS, oI x4, oJ q0, oS, oJ q0, oS, oI (0 : Int32), oI (0 : Int32), oI (0 : Int32), oI (1 : Int32), oA b253, oI (0 : Int32), oI (0 : Int32), oI (1 : Int32)] X255 hx hby at_218 rfl rfl ?_
      refine own_aload 222 X255 hx hby at_220 rfl rfl rfl ?_
      refine own_lload 224 X255 hx hby at_222 rfl rfl ?_
      refine own_virt (W := 0) 227 (rm5_6 l Z a0 hw [] w_NONE k_NONE W b253 q3 T254.heap n0 O254 E_b253_254 F_b253_droppedTotal_254 F_b253_end_254 F_b253_firsts_254 F_b253_head_254 F_b253_lasts_254 F_b253_totals_254 n_b253) X255 hx hby hZ hown (own_w hw 25 rfl) (own_w hw 26 rfl) (notFace_of_selects (args := #[]) (mvT hZ (own_w hw 28 rfl))) (own_w hw 28 rfl) (own_w hw 27 rfl) (own_w hw 10 rfl) (own_w hw 29 rfl) (by decide) (by rw [hml]; rfl) b253 [(.long q3)] [] pd_2 rfl at_224 rfl e255 E_b253_254 rfl rfl rfl (by decide) (by decide) (by decide) (by decide) ?_
      rintro _ T256 L256 X256 ⟨rfl, N256, e256⟩
      have N256 := Fr.app N255 N256
      show Go p e below _ (T256.setTop (mkF m 227 _ [(.int (1 : Int32))]))
      refine own_iload 229 X256 hx hby at_227 rfl rfl ?_
      refine own_icN 232 X256 hx hby at_229 rfl (by decide) ?_
      refine own_iconst 233 (1 : Int32) X256 hx hby at_232 rfl (by decide) ?_
      refine own_goto 237 X256 hx hby at_233 (by decide) (by decide) ?_
      exact own_ret (Q := own_Q1 n0) X256 hx hby hret hlk at_237 rfl (Or.inl ⟨rfl, by simp, _, rfl⟩) (by decide) (by decide) ⟨rfl, N256⟩
  · refine own_irem 21 (1 : Int32) X246 hx hby at_20 rfl (by decide) hv247 ?_
    refine own_istore 23 #[oJ q0, oS, oJ q1, oS, oJ q2, oS, oJ q3, oS, oI x4, oJ q0, oS, oJ q0, oS, oI (1 : Int32), oU, oU, oU, oU, oU, oU, oU] X246 hx hby at_21 rfl rfl ?_
    refine own_iload 25 X246 hx hby at_23 rfl rfl ?_
    refine own_iconst 26 (1 : Int32) X246 hx hby at_25 rfl (by decide) ?_
    refine own_icN 29 X246 hx hby at_26 rfl (by decide) ?_
    refine own_iconst 30 (1 : Int32) X246 hx hby at_29 rfl (by decide) ?_
    refine own_goto 34 X246 hx hby at_30 (by decide) (by decide) ?_
    refine own_istore 36 #[oJ q0, oS, oJ q1, oS, oJ q2, oS, oJ q3, oS, oI x4, oJ q0, oS, oJ q0, oS, oI (1 : Int32), oI (1 : Int32), oU, oU, oU, oU, oU, oU] X246 hx hby at_34 rfl rfl ?_
    refine own_iload 38 X246 hx hby at_36 rfl rfl ?_
    refine own_iconst 39 (2 : Int32) X246 hx hby at_38 rfl (by decide) ?_
    refine own_icY 54 X246 hx hby at_39 (by decide) (by decide) (by decide) ?_
    refine own_iconst 55 (0 : Int32) X246 hx hby at_54 rfl (by decide) ?_
    refine own_istore 57 #[oJ q0, oS, oJ q1, oS, oJ q2, oS, oJ q3, oS, oI x4, oJ q0, oS, oJ q0, oS, oI (1 : Int32), oI (1 : Int32), oI (0 : Int32), oU, oU, oU, oU, oU] X246 hx hby at_55 rfl rfl ?_
    refine own_iload 59 X246 hx hby at_57 rfl rfl ?_
    refine own_bipush 61 (8 : Int32) X246 hx hby at_59 rfl (by decide) ?_
    obtain ⟨v257, dv257⟩ : ∃ z, z = (XT.ushr x4 (8 : Int32)) := ⟨_, rfl⟩
    refine own_iushr 62 v257 X246 hx hby at_61 rfl dv257.symm ?_
    refine own_iconst 63 (1 : Int32) X246 hx hby at_62 rfl (by decide) ?_
    rcases own_and1 v257 with hv258 | hv258
    · refine own_iand 64 (0 : Int32) X246 hx hby at_63 rfl hv258 ?_
      refine own_ifY 71 X246 hx hby at_64 (by decide) (by decide) (by decide) ?_
      refine own_iconst 72 (0 : Int32) X246 hx hby at_71 rfl (by decide) ?_
      refine own_istore 74 #[oJ q0, oS, oJ q1, oS, oJ q2, oS, oJ q3, oS, oI x4, oJ q0, oS, oJ q0, oS, oI (1 : Int32), oI (1 : Int32), oI (0 : Int32), oI (0 : Int32), oU, oU, oU, oU] X246 hx hby at_72 rfl rfl ?_
      refine own_new 77 6 X246 hx hby hZ hown (own_w hw 8 rfl) (own_w hw 9 rfl) (own_w hw 10 rfl) e246 at_74 rfl (by decide) (by decide) ?_
      intro T259 h259 b259 X259 e259 E259 g259 A259 D259
      have n_b259 : n0 ≤ b259 := Nat.le_trans (own_n0 O0) (Nat.le_of_eq g259.symm)
      have O259 := O0.ext E259
      have F_b259_firsts : Fld Z h259 b259 "com/example/meter/meter/store/Spans" "firsts" "[J" .null := D259 (Or.inl (own_w hw 20 rfl)) (ty := (.array .long)) (by decide)
      have F_b259_lasts : Fld Z h259 b259 "com/example/meter/meter/store/Spans" "lasts" "[J" .null := D259 (Or.inl (own_w hw 22 rfl)) (ty := (.array .long)) (by decide)
      have F_b259_totals : Fld Z h259 b259 "com/example/meter/meter/store/Spans" "totals" "[J" .null := D259 (Or.inl (own_w hw 24 rfl)) (ty := (.array .long)) (by decide)
      have F_b259_head : Fld Z h259 b259 "com/example/meter/meter/store/Spans" "head" "I" (.int (0 : Int32)) := D259 (Or.inl (own_w hw 31 rfl)) (ty := .int) (by decide)
      have F_b259_end : Fld Z h259 b259 "com/example/meter/meter/store/Spans" "end" "I" (.int (0 : Int32)) := D259 (Or.inl (own_w hw 33 rfl)) (ty := .int) (by decide)
      have F_b259_droppedTotal : Fld Z h259 b259 "com/example/meter/meter/store/Spans" "droppedTotal" "J" (.long (0 : Int64)) := D259 (Or.inl (own_w hw 60 rfl)) (ty := .long) (by decide)
      refine own_dup 78 X259 hx hby at_77 rfl rfl ?_
      refine own_spec (W := 1) 81 (rm3_5 l Z a0 hw [] w_NONE k_NONE W b259 h259 n0 O259 A259 F_b259_droppedTotal F_b259_end F_b259_firsts F_b259_head F_b259_lasts F_b259_totals n_b259) X259 hx hby hZ hown rfl (own_w hw 11 rfl) (own_w hw 12 rfl) (own_w hw 10 rfl) (own_w hw 13 rfl) (by decide) (by rw [hml]; rfl) b259 [] [(.ref b259)] pd_1 rfl at_78 rfl e259 rfl rfl rfl (by decide) (by decide) (by decide) (by decide) ?_
      rintro _ T260 L260 X260 ⟨rfl, N260, Kc260, E_b259_260, F_b259_droppedTotal_260, F_b259_end_260, F_b259_firsts_260, F_b259_head_260, F_b259_lasts_260, F_b259_totals_260⟩
      have N260 := Fr.app N246 N260
      have O260 := O259.keep Kc260 (allS n_b259 all0)
      show Go p e below _ (T260.setTop (mkF m 81 _ [(.ref b259)]))
      refine own_astore 83 #[oJ q0, oS, oJ q1, oS, oJ q2, oS, oJ q3, oS, oI x4, oJ q0, oS, oJ q0, oS, oI (1 : Int32), oI (1 : Int32), oI (0 : Int32), oI (0 : Int32), oA b259, oU, oU, oU] X260 hx hby at_81 rfl rfl rfl ?_
      refine own_iload 85 X260 hx hby at_83 rfl rfl ?_
      refine own_ifN 88 X260 hx hby at_85 rfl (by decide) ?_
      refine own_aload 90 X260 hx hby at_88 rfl rfl rfl ?_
      refine own_lload 92 X260 hx hby at_90 rfl rfl ?_
      refine own_lconst 93 (1 : Int64) X260 hx hby at_92 rfl (by decide) ?_
      refine own_virt (W := 0) 96 (rm6_14 l Z a0 hw [] w_NONE k_NONE W b259 q0 T260.heap n0 O260 E_b259_260 F_b259_droppedTotal_260 F_b259_end_260 F_b259_firsts_260 F_b259_head_260 F_b259_lasts_260 F_b259_totals_260 n_b259) X260 hx hby hZ hown (own_w hw 34 rfl) (own_w hw 35 rfl) (notFace_of_selects (args := #[]) (mvT hZ (own_w hw 37 rfl))) (own_w hw 37 rfl) (own_w hw 36 rfl) (own_w hw 10 rfl) (own_w hw 38 rfl) (by decide) (by rw [hml]; rfl) b259 [(.long q0), (.long (1 : Int64))] [] pd_7 rfl at_93 rfl rfl E_b259_260 rfl rfl rfl (by decide) (by decide) (by decide) (by decide) ?_
      rintro _ T261 L261 X261 ⟨b261_0, b261_1, b261_2, k261_0, k261_1, k261_2, rfl, N261, Kc261, n_b261_0, sz_b261_0, n_b261_1, sz_b261_1, n_b261_2, sz_b261_2, ne_b261_0_b261_1, ne_b261_0_b261_2, ne_b261_1_b261_2, E_b259_261, F_b259_droppedTotal_261, F_b259_end_261, F_b259_firsts_261, F_b259_head_261, F_b259_lasts_261, F_b259_totals_261, V_b261_0_261, V_b261_1_261, V_b261_2_261⟩
      have N261 := Fr.app N260 N261
      have ne_b259_b261_0 : b259 ≠ b261_0 := Nat.ne_of_lt (Nat.lt_of_lt_of_le E_b259_260.lt sz_b261_0)
      have ne_b259_b261_1 : b259 ≠ b261_1 := Nat.ne_of_lt (Nat.lt_of_lt_of_le E_b259_260.lt sz_b261_1)
      have ne_b259_b261_2 : b259 ≠ b261_2 := Nat.ne_of_lt (Nat.lt_of_lt_of_le E_b259_260.lt sz_b261_2)
      have O261 := O260.keep Kc261 (allS n_b259 all0)
      show Go p e below _ (T261.setTop (mkF m 96 _ []))
      refine own_iload 98 X261 hx hby at_96 rfl rfl ?_
      refine own_ifY 109 X261 hx hby at_98 (by decide) (by decide) (by decide) ?_
      refine own_iload 111 X261 hx hby at_109 rfl rfl ?_
      refine own_ifY 121 X261 hx hby at_111 (by decide) (by decide) (by decide) ?_
      refine own_iload 123 X261 hx hby at_121 rfl rfl ?_
      refine own_ifN 126 X261 hx hby at_123 rfl (by decide) ?_
      refine own_iload 128 X261 hx hby at_126 rfl rfl ?_
      refine own_ifY 139 X261 hx hby at_128 (by decide) (by decide) (by decide) ?_
      refine own_iconst 140 (1 : Int32) X261 hx hby at_139 rfl (by decide) ?_
      refine own_goto 144 X261 hx hby at_140 (by decide) (by decide) ?_
      refine own_istore 146 #[oJ q0, oS, oJ q1, oS, oJ q2, oS, oJ q3, oS, oI x4, oJ q0, oS, oJ q0, oS, oI (1 : Int32), oI (1 : Int32), oI (0 : Int32), oI (0 : Int32), oA b259, oI (1 : Int32), oU, oU] X261 hx hby at_144 rfl rfl ?_
      refine own_iload 148 X261 hx hby at_146 rfl rfl ?_
      refine own_ifY 168 X261 hx hby at_148 (by decide) (by decide) (by decide) ?_
      refine own_iconst 169 (0 : Int32) X261 hx hby at_168 rfl (by decide) ?_
      refine own_istore 171 #[oJ q0, oS, oJ q1, oS, oJ q2, oS, oJ q3, oS, oI x4, oJ q0, oS, oJ q0, oS, oI (1 : Int32), oI (1 : Int32), oI (0 : Int32), oI (0 : Int32), oA b259, oI (1 : Int32), oI (0 : Int32), oU] X261 hx hby at_169 rfl rfl ?_
      refine own_iload 173 X261 hx hby at_171 rfl rfl ?_
      refine own_ifN 176 X261 hx hby at_173 rfl (by decide) ?_
      refine own_lload 178 X261 hx hby at_176 rfl rfl ?_
      refine own_lload 180 X261 hx hby at_178 rfl rfl ?_
      refine own_lcmp 181 (XT.cmpL q0 q3) X261 hx hby at_180 rfl rfl ?_
      by_cases hc262 : q3 < q0
      · refine own_ifN 184 X261 hx hby at_181 rfl (own_tltL hc262).2.2.2 ?_
        refine own_iconst 185 (1 : Int32) X261 hx hby at_184 rfl (by decide) ?_
        refine own_goto 189 X261 hx hby at_185 (by decide) (by decide) ?_
        refine own_istore 191 #[oJ q0, oS, oJ q1, oS, oJ q2, oS, oJ q3, oS, oI x4, oJ q0, oS, oJ q0, oS, oI (1 : Int32), oI (1 : Int32), oI (0 : Int32), oI (0 : Int32), oA b259, oI (1 : Int32), oI (0 : Int32), oI (1 : Int32)] X261 hx hby at_189 rfl rfl ?_
        refine own_goto 220 X261 hx hby at_191 (by decide) (by decide) ?_
        refine own_aload 222 X261 hx hby at_220 rfl rfl rfl ?_
        refine own_lload 224 X261 hx hby at_222 rfl rfl ?_
        refine own_virt (W := 0) 227 (rm5_15 l Z a0 hw [] w_NONE k_NONE W b259 b261_0 k261_0 b261_1 k261_1 b261_2 k261_2 q3 q0 T261.heap n0 O261 E_b259_261 F_b259_droppedTotal_261 F_b259_end_261 F_b259_firsts_261 F_b259_head_261 F_b259_lasts_261 F_b259_totals_261 n_b259 V_b261_0_261 n_b261_0 V_b261_1_261 n_b261_1 V_b261_2_261 n_b261_2 ne_b259_b261_0 ne_b259_b261_1 ne_b259_b261_2 ne_b261_0_b261_1 ne_b261_0_b261_2 ne_b261_1_b261_2 hc262) X261 hx hby hZ hown (own_w hw 25 rfl) (own_w hw 26 rfl) (notFace_of_selects (args := #[]) (mvT hZ (own_w hw 28 rfl))) (own_w hw 28 rfl) (own_w hw 27 rfl) (own_w hw 10 rfl) (own_w hw 29 rfl) (by decide) (by rw [hml]; rfl) b259 [(.long q3)] [] pd_2 rfl at_224 rfl rfl E_b259_261 rfl rfl rfl (by decide) (by decide) (by decide) (by decide) ?_
        rintro _ T263 L263 X263 ⟨rfl, N263, e263⟩
        have N263 := Fr.app N261 N263
        show Go p e below _ (T263.setTop (mkF m 227 _ [(.int (1 : Int32))]))
        refine own_iload 229 X263 hx hby at_227 rfl rfl ?_
        refine own_icN 232 X263 hx hby at_229 rfl (by decide) ?_
        refine own_iconst 233 (1 : Int32) X263 hx hby at_232 rfl (by decide) ?_
        refine own_goto 237 X263 hx hby at_233 (by decide) (by decide) ?_
        exact own_ret (Q := own_Q1 n0) X263 hx hby hret hlk at_237 rfl (Or.inl ⟨rfl, by simp, _, rfl⟩) (by decide) (by decide) ⟨rfl, N263⟩
      refine own_ifY 188 X261 hx hby at_181 (by decide) (by decide) (own_fltL hc262).2.2.2 ?_
      refine own_iconst 189 (0 : Int32) X261 hx hby at_188 rfl (by decide) ?_
      refine own_istore 191 #[oJ q0, oS, oJ q1, oS, oJ q2, oS, oJ q3, oS, oI x4, oJ q0, oS, oJ q0, oS, oI (1 : Int32), oI (1 : Int32), oI (0 : Int32), oI (0 : Int32), oA b259, oI (1 : Int32), oI (0 : Int32), oI (0 : Int32)] X261 hx hby at_189 rfl rfl ?_
      refine own_goto 220 X261 hx hby at_191 (by decide) (by decide) ?_
      refine own_aload 222 X261 hx hby at_220 rfl rfl rfl ?_
      refine own_lload 224 X261 hx hby at_222 rfl rfl ?_
      refine own_virt (W := 0) 227 (rm5_16 l Z a0 hw [] w_NONE k_NONE W b259 b261_0 k261_0 b261_1 k261_1 b261_2 k261_2 q3 q0 T261.heap n0 O261 E_b259_261 F_b259_droppedTotal_261 F_b259_end_261 F_b259_firsts_261 F_b259_head_261 F_b259_lasts_261 F_b259_totals_261 n_b259 V_b261_0_261 n_b261_0 V_b261_1_261 n_b261_1 V_b261_2_261 n_b261_2 ne_b259_b261_0 ne_b259_b261_1 ne_b259_b261_2 ne_b261_0_b261_1 ne_b261_0_b261_2 ne_b261_1_b261_2 hc262) X261 hx hby hZ hown (own_w hw 25 rfl) (own_w hw 26 rfl) (notFace_of_selects (args := #[]) (mvT hZ (own_w hw 28 rfl))) (own_w hw 28 rfl) (own_w hw 27 rfl) (own_w hw 10 rfl) (own_w hw 29 rfl) (by decide) (by rw [hml]; rfl) b259 [(.long q3)] [] pd_2 rfl at_224 rfl rfl E_b259_261 rfl rfl rfl (by decide) (by decide) (by decide) (by decide) ?_
      rintro _ T264 L264 X264 ⟨rfl, N264, e264⟩
      have N264 := Fr.app N261 N264
      show Go p e below _ (T264.setTop (mkF m 227 _ [(.int (0 : Int32))]))
      refine own_iload 229 X264 hx hby at_227 rfl rfl ?_
      refine own_icN 232 X264 hx hby at_229 rfl (by decide) ?_
      refine own_iconst 233 (1 : Int32) X264 hx hby at_232 rfl (by decide) ?_
      refine own_goto 237 X264 hx hby at_233 (by decide) (by decide) ?_
      exact own_ret (Q := own_Q1 n0) X264 hx hby hret hlk at_237 rfl (Or.inl ⟨rfl, by simp, _, rfl⟩) (by decide) (by decide) ⟨rfl, N264⟩
    · refine own_iand 64 (1 : Int32) X246 hx hby at_63 rfl hv258 ?_
      refine own_ifN 67 X246 hx hby at_64 rfl (by decide) ?_
      refine own_iconst 68 (1 : Int32) X246 hx hby at_67 rfl (by decide) ?_
      refine own_goto 72 X246 hx hby at_68 (by decide) (by decide) ?_
      refine own_istore 74 #[oJ q0, oS, oJ q1, oS, oJ q2, oS, oJ q3, oS, oI x4, oJ q0, oS, oJ q0, oS, oI (1 : Int32), oI (1 : Int32), oI (0 : Int32), oI (1 : Int32), oU, oU, oU, oU] X246 hx hby at_72 rfl rfl ?_
      refine own_new 77 6 X246 hx hby hZ hown (own_w hw 8 rfl) (own_w hw 9 rfl) (own_w hw 10 rfl) e246 at_74 rfl (by decide) (by decide) ?_
      intro T265 h265 b265 X265 e265 E265 g265 A265 D265
      have n_b265 : n0 ≤ b265 := Nat.le_trans (own_n0 O0) (Nat.le_of_eq g265.symm)
      have O265 := O0.ext E265
      have F_b265_firsts : Fld Z h265 b265 "com/example/meter/meter/store/Spans" "firsts" "[J" .null := D265 (Or.inl (own_w hw 20 rfl)) (ty := (.array .long)) (by decide)
      have F_b265_lasts : Fld Z h265 b265 "com/example/meter/meter/store/Spans" "lasts" "[J" .null := D265 (Or.inl (own_w hw 22 rfl)) (ty := (.array .long)) (by decide)
      have F_b265_totals : Fld Z h265 b265 "com/example/meter/meter/store/Spans" "totals" "[J" .null := D265 (Or.inl (own_w hw 24 rfl)) (ty := (.array .long)) (by decide)
      have F_b265_head : Fld Z h265 b265 "com/example/meter/meter/store/Spans" "head" "I" (.int (0 : Int32)) := D265 (Or.inl (own_w hw 31 rfl)) (ty := .int) (by decide)
      have F_b265_end : Fld Z h265 b265 "com/example/meter/meter/store/Spans" "end" "I" (.int (0 : Int32)) := D265 (Or.inl (own_w hw 33 rfl)) (ty := .int) (by decide)
      have F_b265_droppedTotal : Fld Z h265 b265 "com/example/meter/meter/store/Spans" "droppedTotal" "J" (.long (0 : Int64)) := D265 (Or.inl (own_w hw 60 rfl)) (ty := .long) (by decide)
      refine own_dup 78 X265 hx hby at_77 rfl rfl ?_
      refine own_spec (W := 1) 81 (rm3_5 l Z a0 hw [] w_NONE k_NONE W b265 h265 n0 O265 A265 F_b265_droppedTotal F_b265_end F_b265_firsts F_b265_head F_b265_lasts F_b265_totals n_b265) X265 hx hby hZ hown rfl (own_w hw 11 rfl) (own_w hw 12 rfl) (own_w hw 10 rfl) (own_w hw 13 rfl) (by decide) (by rw [hml]; rfl) b265 [] [(.ref b265)] pd_1 rfl at_78 rfl e265 rfl rfl rfl (by decide) (by decide) (by decide) (by decide) ?_
      rintro _ T266 L266 X266 ⟨rfl, N266, Kc266, E_b265_266, F_b265_droppedTotal_266, F_b265_end_266, F_b265_firsts_266, F_b265_head_266, F_b265_lasts_266, F_b265_totals_266⟩
      have N266 := Fr.app N246 N266
      have O266 := O265.keep Kc266 (allS n_b265 all0)
      show Go p e below _ (T266.setTop (mkF m 81 _ [(.ref b265)]))
      refine own_astore 83 #[oJ q0, oS, oJ q1, oS, oJ q2, oS, oJ q3, oS, oI x4, oJ q0, oS, oJ q0, oS, oI (1 : Int32), oI (1 : Int32), oI (0 : Int32), oI (1 : Int32), oA b265, oU, oU, oU] X266 hx hby at_81 rfl rfl rfl ?_
      refine own_iload 85 X266 hx hby at_83 rfl rfl ?_
      refine own_ifN 88 X266 hx hby at_85 rfl (by decide) ?_
      refine own_aload 90 X266 hx hby at_88 rfl rfl rfl ?_
      refine own_lload 92 X266 hx hby at_90 rfl rfl ?_
      refine own_lconst 93 (1 : Int64) X266 hx hby at_92 rfl (by decide) ?_
      refine own_virt (W := 0) 96 (rm6_14 l Z a0 hw [] w_NONE k_NONE W b265 q0 T266.heap n0 O266 E_b265_266 F_b265_droppedTotal_266 F_b265_end_266 F_b265_firsts_266 F_b265_head_266 F_b265_lasts_266 F_b265_totals_266 n_b265) X266 hx hby hZ hown (own_w hw 34 rfl) (own_w hw 35 rfl) (notFace_of_selects (args := #[]) (mvT hZ (own_w hw 37 rfl))) (own_w hw 37 rfl) (own_w hw 36 rfl) (own_w hw 10 rfl) (own_w hw 38 rfl) (by decide) (by rw [hml]; rfl) b265 [(.long q0), (.long (1 : Int64))] [] pd_7 rfl at_93 rfl rfl E_b265_266 rfl rfl rfl (by decide) (by decide) (by decide) (by decide) ?_
      rintro _ T267 L267 X267 ⟨b267_0, b267_1, b267_2, k267_0, k267_1, k267_2, rfl, N267, Kc267, n_b267_0, sz_b267_0, n_b267_1, sz_b267_1, n_b267_2, sz_b267_2, ne_b267_0_b267_1, ne_b267_0_b267_2, ne_b267_1_b267_2, E_b265_267, F_b265_droppedTotal_267, F_b265_end_267, F_b265_firsts_267, F_b265_head_267, F_b265_lasts_267, F_b265_totals_267, V_b267_0_267, V_b267_1_267, V_b267_2_267⟩
      have N267 := Fr.app N266 N267
      have ne_b265_b267_0 : b265 ≠ b267_0 := Nat.ne_of_lt (Nat.lt_of_lt_of_le E_b265_266.lt sz_b267_0)
      have ne_b265_b267_1 : b265 ≠ b267_1 := Nat.ne_of_lt (Nat.lt_of_lt_of_le E_b265_266.lt sz_b267_1)
      have ne_b265_b267_2 : b265 ≠ b267_2 := Nat.ne_of_lt (Nat.lt_of_lt_of_le E_b265_266.lt sz_b267_2)
      have O267 := O266.keep Kc267 (allS n_b265 all0)
      show Go p e below _ (T267.setTop (mkF m 96 _ []))
      refine own_iload 98 X267 hx hby at_96 rfl rfl ?_
      refine own_ifY 109 X267 hx hby at_98 (by decide) (by decide) (by decide) ?_
      refine own_iload 111 X267 hx hby at_109 rfl rfl ?_
      refine own_ifN 114 X267 hx hby at_111 rfl (by decide) ?_
      refine own_aload 116 X267 hx hby at_114 rfl rfl rfl ?_
      refine own_lload 118 X267 hx hby at_116 rfl rfl ?_
      by_cases hc268 : q2 < q0
      · refine own_virt (W := 0) 121 (rm11_17 l Z a0 hw [] w_NONE k_NONE W b265 b267_0 k267_0 b267_1 k267_1 b267_2 k267_2 q2 q0 T267.heap n0 O267 E_b265_267 F_b265_droppedTotal_267 F_b265_end_267 F_b265_firsts_267 F_b265_head_267 F_b265_lasts_267 F_b265_totals_267 n_b265 V_b267_0_267 n_b267_0 V_b267_1_267 n_b267_1 V_b267_2_267 n_b267_2 ne_b265_b267_0 ne_b265_b267_1 ne_b265_b267_2 ne_b267_0_b267_1 ne_b267_0_b267_2 ne_b267_1_b267_2 hc268) X267 hx hby hZ hown (own_w hw 61 rfl) (own_w hw 62 rfl) (notFace_of_selects (args := #[]) (mvT hZ (own_w hw 64 rfl))) (own_w hw 64 rfl) (own_w hw 63 rfl) (own_w hw 10 rfl) (own_w hw 65 rfl) (by decide) (by rw [hml]; rfl) b265 [(.long q2)] [] pd_3 rfl at_118 rfl rfl E_b265_267 rfl rfl rfl (by decide) (by decide) (by decide) (by decide) ?_
        rintro _ T269 L269 X269 ⟨rfl, N269, e269⟩
        have N269 := Fr.app N267 N269
        show Go p e below _ (T269.setTop (mkF m 121 _ []))
        refine own_iload 123 X269 hx hby at_121 rfl rfl ?_
        refine own_ifN 126 X269 hx hby at_123 rfl (by decide) ?_
        refine own_iload 128 X269 hx hby at_126 rfl rfl ?_
        refine own_ifN 131 X269 hx hby at_128 rfl (by decide) ?_
        refine own_lload 133 X269 hx hby at_131 rfl rfl ?_
        refine own_lload 135 X269 hx hby at_133 rfl rfl ?_
        refine own_lcmp 136 (XT.cmpL q0 q2) X269 hx hby at_135 rfl rfl ?_
        refine own_ifN 139 X269 hx hby at_136 rfl (own_tltL hc268).2.2.2 ?_
        refine own_iconst 140 (1 : Int32) X269 hx hby at_139 rfl (by decide) ?_
        refine own_goto 144 X269 hx hby at_140 (by decide) (by decide) ?_
        refine own_istore 146 #[oJ q0, oS, oJ q1, oS, oJ q2, oS, oJ q3, oS, oI x4, oJ q0, oS, oJ q0, oS, oI (1 : Int32), oI (1 : Int32), oI (0 : Int32), oI (1 : Int32), oA b265, oI (1 : Int32), oU, oU] X269 hx hby at_144 rfl rfl ?_
        refine own_iload 148 X269 hx hby at_146 rfl rfl ?_
        refine own_ifY 168 X269 hx hby at_148 (by decide) (by decide) (by decide) ?_
        refine own_iconst 169 (0 : Int32) X269 hx hby at_168 rfl (by decide) ?_
        refine own_istore 171 #[oJ q0, oS, oJ q1, oS, oJ q2, oS, oJ q3, oS, oI x4, oJ q0, oS, oJ q0, oS, oI (1 : Int32), oI (1 : Int32), oI (0 : Int32), oI (1 : Int32), oA b265, oI (1 : Int32), oI (0 : Int32), oU] X269 hx hby at_169 rfl rfl ?_
        refine own_iload 173 X269 hx hby at_171 rfl rfl ?_
        refine own_ifN 176 X269 hx hby at_173 rfl (by decide) ?_
        refine own_lload 178 X269 hx hby at_176 rfl rfl ?_
        refine own_lload 180 X269 hx hby at_178 rfl rfl ?_
        refine own_lcmp 181 (XT.cmpL q0 q3) X269 hx hby at_180 rfl rfl ?_
        by_cases hc270 : q3 < q0
        · refine own_ifN 184 X269 hx hby at_181 rfl (own_tltL hc270).2.2.2 ?_
          refine own_iconst 185 (1 : Int32) X269 hx hby at_184 rfl (by decide) ?_
          refine own_goto 189 X269 hx hby at_185 (by decide) (by decide) ?_
          refine own_istore 191 #[oJ q0, oS, oJ q1, oS, oJ q2, oS, oJ q3, oS, oI x4, oJ q0, oS, oJ q0, oS, oI (1 : Int32), oI (1 : Int32), oI (0 : Int32), oI (1 : Int32), oA b265, oI (1 : Int32), oI (0 : Int32), oI (1 : Int32)] X269 hx hby at_189 rfl rfl ?_
          refine own_goto 220 X269 hx hby at_191 (by decide) (by decide) ?_
          refine own_aload 222 X269 hx hby at_220 rfl rfl rfl ?_
          refine own_lload 224 X269 hx hby at_222 rfl rfl ?_
          refine own_virt (W := 0) 227 (rm5_15 l Z a0 hw [] w_NONE k_NONE W b265 b267_0 k267_0 b267_1 k267_1 b267_2 k267_2 q3 q0 T267.heap n0 O267 E_b265_267 F_b265_droppedTotal_267 F_b265_end_267 F_b265_firsts_267 F_b265_head_267 F_b265_lasts_267 F_b265_totals_267 n_b265 V_b267_0_267 n_b267_0 V_b267_1_267 n_b267_1 V_b267_2_267 n_b267_2 ne_b265_b267_0 ne_b265_b267_1 ne_b265_b267_2 ne_b267_0_b267_1 ne_b267_0_b267_2 ne_b267_1_b267_2 hc270) X269 hx hby hZ hown (own_w hw 25 rfl) (own_w hw 26 rfl) (notFace_of_selects (args := #[]) (mvT hZ (own_w hw 28 rfl))) (own_w hw 28 rfl) (own_w hw 27 rfl) (own_w hw 10 rfl) (own_w hw 29 rfl) (by decide) (by rw [hml]; rfl) b265 [(.long q3)] [] pd_2 rfl at_224 rfl e269 E_b265_267 rfl rfl rfl (by decide) (by decide) (by decide) (by decide) ?_
          rintro _ T271 L271 X271 ⟨rfl, N271, e271⟩
          have N271 := Fr.app N269 N271
          show Go p e below _ (T271.setTop (mkF m 227 _ [(.int (1 : Int32))]))
          refine own_iload 229 X271 hx hby at_227 rfl rfl ?_
          refine own_icN 232 X271 hx hby at_229 rfl (by decide) ?_
          refine own_iconst 233 (1 : Int32) X271 hx hby at_232 rfl (by decide) ?_
          refine own_goto 237 X271 hx hby at_233 (by decide) (by decide) ?_
          exact own_ret (Q := own_Q1 n0) X271 hx hby hret hlk at_237 rfl (Or.inl ⟨rfl, by simp, _, rfl⟩) (by decide) (by decide) ⟨rfl, N271⟩
        refine own_ifY 188 X269 hx hby at_181 (by decide) (by decide) (own_fltL hc270).2.2.2 ?_
        refine own_iconst 189 (0 : Int32) X269 hx hby at_188 rfl (by decide) ?_
        refine own_istore 191 #[oJ q0, oS, oJ q1, oS, oJ q2, oS, oJ q3, oS, oI x4, oJ q0, oS, oJ q0, oS, oI (1 : Int32), oI (1 : Int32), oI (0 : Int32), oI (1 : Int32), oA b265, oI (1 : Int32), oI (0 : Int32), oI (0 : Int32)] X269 hx hby at_189 rfl rfl ?_
        refine own_goto 220 X269 hx hby at_191 (by decide) (by decide) ?_
        refine own_aload 222 X269 hx hby at_220 rfl rfl rfl ?_
        refine own_lload 224 X269 hx hby at_222 rfl rfl ?_
        refine own_virt (W := 0) 227 (rm5_16 l Z a0 hw [] w_NONE k_NONE W b265 b267_0 k267_0 b267_1 k267_1 b267_2 k267_2 q3 q0 T267.heap n0 O267 E_b265_267 F_b265_droppedTotal_267 F_b265_end_267 F_b265_firsts_267 F_b265_head_267 F_b265_lasts_267 F_b265_totals_267 n_b265 V_b267_0_267 n_b267_0 V_b267_1_267 n_b267_1 V_b267_2_267 n_b267_2 ne_b265_b267_0 ne_b265_b267_1 ne_b265_b267_2 ne_b267_0_b267_1 ne_b267_0_b267_2 ne_b267_1_b267_2 hc270) X269 hx hby hZ hown (own_w hw 25 rfl) (own_w hw 26 rfl) (notFace_of_selects (args := #[]) (mvT hZ (own_w hw 28 rfl))) (own_w hw 28 rfl) (own_w hw 27 rfl) (own_w hw 10 rfl) (own_w hw 29 rfl) (by decide) (by rw [hml]; rfl) b265 [(.long q3)] [] pd_2 rfl at_224 rfl e269 E_b265_267 rfl rfl rfl (by decide) (by decide) (by decide) (by decide) ?_
        rintro _ T272 L272 X272 ⟨rfl, N272, e272⟩
        have N272 := Fr.app N269 N272
        show Go p e below _ (T272.setTop (mkF m 227 _ [(.int (0 : Int32))]))
        refine own_iload 229 X272 hx hby at_227 rfl rfl ?_
        refine own_icN 232 X272 hx hby at_229 rfl (by decide) ?_
        refine own_iconst 233 (1 : Int32) X272 hx hby at_232 rfl (by decide) ?_
        refine own_goto 237 X272 hx hby at_233 (by decide) (by decide) ?_
        exact own_ret (Q := own_Q1 n0) X272 hx hby hret hlk at_237 rfl (Or.inl ⟨rfl, by simp, _, rfl⟩) (by decide) (by decide) ⟨rfl, N272⟩
      refine own_virt (W := 0) 121 (rm11_18 l Z a0 hw [] w_NONE k_NONE W b265 b267_0 k267_0 b267_1 k267_1 b267_2 k267_2 q2 q0 T267.heap n0 O267 E_b265_267 F_b265_droppedTotal_267 F_b265_end_267 F_b265_firsts_267 F_b265_head_267 F_b265_lasts_267 F_b265_totals_267 n_b265 V_b267_0_267 n_b267_0 V_b267_1_267 n_b267_1 V_b267_2_267 n_b267_2 ne_b265_b267_0 ne_b265_b267_1 ne_b265_b267_2 ne_b267_0_b267_1 ne_b267_0_b267_2 ne_b267_1_b267_2 hc268) X267 hx hby hZ hown (own_w hw 61 rfl) (own_w hw 62 rfl) (notFace_of_selects (args := #[]) (mvT hZ (own_w hw 64 rfl))) (own_w hw 64 rfl) (own_w hw 63 rfl) (own_w hw 10 rfl) (own_w hw 65 rfl) (by decide) (by rw [hml]; rfl) b265 [(.long q2)] [] pd_3 rfl at_118 rfl rfl E_b265_267 rfl rfl rfl (by decide) (by decide) (by decide) (by decide) ?_
      rintro _ T273 L273 X273 ⟨rfl, N273, Kc273, E_b265_273, F_b265_droppedTotal_273, F_b265_end_273, F_b265_firsts_273, F_b265_head_273, F_b265_lasts_273, F_b265_totals_273, V_b267_0_273, V_b267_1_273, V_b267_2_273⟩
      have N273 := Fr.app N267 N273
      have O273 := O267.keep Kc273 (allS n_b265 all0)
      show Go p e below _ (T273.setTop (mkF m 121 _ []))
      refine own_iload 123 X273 hx hby at_121 rfl rfl ?_
      refine own_ifN 126 X273 hx hby at_123 rfl (by decide) ?_
      refine own_iload 128 X273 hx hby at_126 rfl rfl ?_
      refine own_ifN 131 X273 hx hby at_128 rfl (by decide) ?_
      refine own_lload 133 X273 hx hby at_131 rfl rfl ?_
      refine own_lload 135 X273 hx hby at_133 rfl rfl ?_
      refine own_lcmp 136 (XT.cmpL q0 q2) X273 hx hby at_135 rfl rfl ?_
      refine own_ifY 143 X273 hx hby at_136 (by decide) (by decide) (own_fltL hc268).2.2.2 ?_
      refine own_iconst 144 (0 : Int32) X273 hx hby at_143 rfl (by decide) ?_
      refine own_istore 146 #[oJ q0, oS, oJ q1, oS, oJ q2, oS, oJ q3, oS, oI x4, oJ q0, oS, oJ q0, oS, oI (1 : Int32), oI (1 : Int32), oI (0 : Int32), oI (1 : Int32), oA b265, oI (0 : Int32), oU, oU] X273 hx hby at_144 rfl rfl ?_
      refine own_iload 148 X273 hx hby at_146 rfl rfl ?_
      refine own_ifY 168 X273 hx hby at_148 (by decide) (by decide) (by decide) ?_
      refine own_iconst 169 (0 : Int32) X273 hx hby at_168 rfl (by decide) ?_
      refine own_istore 171 #[oJ q0, oS, oJ q1, oS, oJ q2, oS, oJ q3, oS, oI x4, oJ q0, oS, oJ q0, oS, oI (1 : Int32), oI (1 : Int32), oI (0 : Int32), oI (1 : Int32), oA b265, oI (0 : Int32), oI (0 : Int32), oU] X273 hx hby at_169 rfl rfl ?_
      refine own_iload 173 X273 hx hby at_171 rfl rfl ?_
      refine own_ifY 194 X273 hx hby at_173 (by decide) (by decide) (by decide) ?_
      refine own_iload 196 X273 hx hby at_194 rfl rfl ?_
      refine own_ifY 217 X273 hx hby at_196 (by decide) (by decide) (by decide) ?_
      refine own_iconst 218 (1 : Int32) X273 hx hby at_217 rfl (by decide) ?_
      refine own_istore 220 #[oJ q0, oS, oJ q1, oS, oJ q2, oS, oJ q3, oS, oI x4, oJ q0, oS, oJ q0, oS, oI (1 : Int32), oI (1 : Int32), oI (0 : Int32), oI (1 : Int32), oA b265, oI (0 : Int32), oI (0 : Int32), oI (1 : Int32)] X273 hx hby at_218 rfl rfl ?_
      refine own_aload 222 X273 hx hby at_220 rfl rfl rfl ?_
      refine own_lload 224 X273 hx hby at_222 rfl rfl ?_
      refine own_virt (W := 0) 227 (rm5_19 l Z a0 hw [] w_NONE k_NONE W b265 b267_0 k267_0 b267_1 k267_1 b267_2 k267_2 q3 q0 T273.heap n0 O273 E_b265_273 F_b265_droppedTotal_273 F_b265_end_273 F_b265_firsts_273 F_b265_head_273 F_b265_lasts_273 F_b265_totals_273 n_b265 V_b267_0_273 n_b267_0 V_b267_1_273 n_b267_1 V_b267_2_273 n_b267_2 ne_b265_b267_0 ne_b265_b267_1 ne_b265_b267_2 ne_b267_0_b267_1 ne_b267_0_b267_2 ne_b267_1_b267_2) X273 hx hby hZ hown (own_w hw 25 rfl) (own_w hw 26 rfl) (notFace_of_selects (args := #[]) (mvT hZ (own_w hw 28 rfl))) (own_w hw 28 rfl) (own_w hw 27 rfl) (own_w hw 10 rfl) (own_w hw 29 rfl) (by decide) (by rw [hml]; rfl) b265 [(.long q3)] [] pd_2 rfl at_224 rfl rfl E_b265_273 rfl rfl rfl (by decide) (by decide) (by decide) (by decide) ?_
      rintro _ T274 L274 X274 ⟨rfl, N274, e274⟩
      have N274 := Fr.app N273 N274
      show Go p e below _ (T274.setTop (mkF m 227 _ [(.int (1 : Int32))]))
      refine own_iload 229 X274 hx hby at_227 rfl rfl ?_
      refine own_icN 232 X274 hx hby at_229 rfl (by decide) ?_
      refine own_iconst 233 (1 : Int32) X274 hx hby at_232 rfl (by decide) ?_
      refine own_goto 237 X274 hx hby at_233 (by decide) (by decide) ?_
      exact own_ret (Q := own_Q1 n0) X274 hx hby hret hlk at_237 rfl (Or.inl ⟨rfl, by simp, _, rfl⟩) (by decide) (by decide) ⟨rfl, N274⟩
  · refine own_irem 21 (2 : Int32) X246 hx hby at_20 rfl (by decide) hv247 ?_
    refine own_istore 23 #[oJ q0, oS, oJ q1, oS, oJ q2, oS, oJ q3, oS, oI x4, oJ q0, oS, oJ q0, oS, oI (2 : Int32), oU, oU, oU, oU, oU, oU, oU] X246 hx hby at_21 rfl rfl ?_
    refine own_iload 25 X246 hx hby at_23 rfl rfl ?_
    refine own_iconst 26 (1 : Int32) X246 hx hby at_25 rfl (by decide) ?_
    refine own_icN 29 X246 hx hby at_26 rfl (by decide) ?_
    refine own_iconst 30 (1 : Int32) X246 hx hby at_29 rfl (by decide) ?_
    refine own_goto 34 X246 hx hby at_30 (by decide) (by decide) ?_
    refine own_istore 36 #[oJ q0, oS, oJ q1, oS, oJ q2, oS, oJ q3, oS, oI x4, oJ q0, oS, oJ q0, oS, oI (2 : Int32), oI (1 : Int32), oU, oU, oU, oU, oU, oU] X246 hx hby at_34 rfl rfl ?_
    refine own_iload 38 X246 hx hby at_36 rfl rfl ?_
    refine own_iconst 39 (2 : Int32) X246 hx hby at_38 rfl (by decide) ?_
    refine own_icN 42 X246 hx hby at_39 rfl (by decide) ?_
    refine own_lload 44 X246 hx hby at_42 rfl rfl ?_
    refine own_lload 46 X246 hx hby at_44 rfl rfl ?_
    refine own_lcmp 47 (XT.cmpL q0 q0) X246 hx hby at_46 rfl rfl ?_
    refine own_ifY 54 X246 hx hby at_47 (by decide) (by decide) (own_fltL Int64.lt_irrefl).2.2.2 ?_
    refine own_iconst 55 (0 : Int32) X246 hx hby at_54 rfl (by decide) ?_
    refine own_istore 57 #[oJ q0, oS, oJ q1, oS, oJ q2, oS, oJ q3, oS, oI x4, oJ q0, oS, oJ q0, oS, oI (2 : Int32), oI (1 : Int32), oI (0 : Int32), oU, oU, oU, oU, oU] X246 hx hby at_55 rfl rfl ?_
    refine own_iload 59 X246 hx hby at_57 rfl rfl ?_
    refine own_bipush 61 (8 : Int32) X246 hx hby at_59 rfl (by decide) ?_
    obtain ⟨v275, dv275⟩ : ∃ z, z = (XT.ushr x4 (8 : Int32)) := ⟨_, rfl⟩
    refine own_iushr 62 v275 X246 hx hby at_61 rfl dv275.symm ?_
    refine own_iconst 63 (1 : Int32) X246 hx hby at_62 rfl (by decide) ?_
    rcases own_and1 v275 with hv276 | hv276
    · refine own_iand 64 (0 : Int32) X246 hx hby at_63 rfl hv276 ?_
      refine own_ifY 71 X246 hx hby at_64 (by decide) (by decide) (by decide) ?_
      refine own_iconst 72 (0 : Int32) X246 hx hby at_71 rfl (by decide) ?_
      refine own_istore 74 #[oJ q0, oS, oJ q1, oS, oJ q2, oS, oJ q3, oS, oI x4, oJ q0, oS, oJ q0, oS, oI (2 : Int32), oI (1 : Int32), oI (0 : Int32), oI (0 : Int32), oU, oU, oU, oU] X246 hx hby at_72 rfl rfl ?_
      refine own_new 77 6 X246 hx hby hZ hown (own_w hw 8 rfl) (own_w hw 9 rfl) (own_w hw 10 rfl) e246 at_74 rfl (by decide) (by decide) ?_
      intro T277 h277 b277 X277 e277 E277 g277 A277 D277
      have n_b277 : n0 ≤ b277 := Nat.le_trans (own_n0 O0) (Nat.le_of_eq g277.symm)
      have O277 := O0.ext E277
      have F_b277_firsts : Fld Z h277 b277 "com/example/meter/meter/store/Spans" "firsts" "[J" .null := D277 (Or.inl (own_w hw 20 rfl)) (ty := (.array .long)) (by decide)
      have F_b277_lasts : Fld Z h277 b277 "com/example/meter/meter/store/Spans" "lasts" "[J" .null := D277 (Or.inl (own_w hw 22 rfl)) (ty := (.array .long)) (by decide)
      have F_b277_totals : Fld Z h277 b277 "com/example/meter/meter/store/Spans" "totals" "[J" .null := D277 (Or.inl (own_w hw 24 rfl)) (ty := (.array .long)) (by decide)
      have F_b277_head : Fld Z h277 b277 "com/example/meter/meter/store/Spans" "head" "I" (.int (0 : Int32)) := D277 (Or.inl (own_w hw 31 rfl)) (ty := .int) (by decide)
      have F_b277_end : Fld Z h277 b277 "com/example/meter/meter/store/Spans" "end" "I" (.int (0 : Int32)) := D277 (Or.inl (own_w hw 33 rfl)) (ty := .int) (by decide)
      have F_b277_droppedTotal : Fld Z h277 b277 "com/example/meter/meter/store/Spans" "droppedTotal" "J" (.long (0 : Int64)) := D277 (Or.inl (own_w hw 60 rfl)) (ty := .long) (by decide)
      refine own_dup 78 X277 hx hby at_77 rfl rfl ?_
      refine own_spec (W := 1) 81 (rm3_5 l Z a0 hw [] w_NONE k_NONE W b277 h277 n0 O277 A277 F_b277_droppedTotal F_b277_end F_b277_firsts F_b277_head F_b277_lasts F_b277_totals n_b277) X277 hx hby hZ hown rfl (own_w hw 11 rfl) (own_w hw 12 rfl) (own_w hw 10 rfl) (own_w hw 13 rfl) (by decide) (by rw [hml]; rfl) b277 [] [(.ref b277)] pd_1 rfl at_78 rfl e277 rfl rfl rfl (by decide) (by decide) (by decide) (by decide) ?_
      rintro _ T278 L278 X278 ⟨rfl, N278, Kc278, E_b277_278, F_b277_droppedTotal_278, F_b277_end_278, F_b277_firsts_278, F_b277_head_278, F_b277_lasts_278, F_b277_totals_278⟩
      have N278 := Fr.app N246 N278
      have O278 := O277.keep Kc278 (allS n_b277 all0)
      show Go p e below _ (T278.setTop (mkF m 81 _ [(.ref b277)]))
      refine own_astore 83 #[oJ q0, oS, oJ q1, oS, oJ q2, oS, oJ q3, oS, oI x4, oJ q0, oS, oJ q0, oS, oI (2 : Int32), oI (1 : Int32), oI (0 : Int32), oI (0 : Int32), oA b277, oU, oU, oU] X278 hx hby at_81 rfl rfl rfl ?_
      refine own_iload 85 X278 hx hby at_83 rfl rfl ?_
      refine own_ifN 88 X278 hx hby at_85 rfl (by decide) ?_
      refine own_aload 90 X278 hx hby at_88 rfl rfl rfl ?_
      refine own_lload 92 X278 hx hby at_90 rfl rfl ?_
      refine own_lconst 93 (1 : Int64) X278 hx hby at_92 rfl (by decide) ?_
      refine own_virt (W := 0) 96 (rm6_14 l Z a0 hw [] w_NONE k_NONE W b277 q0 T278.heap n0 O278 E_b277_278 F_b277_droppedTotal_278 F_b277_end_278 F_b277_firsts_278 F_b277_head_278 F_b277_lasts_278 F_b277_totals_278 n_b277) X278 hx hby hZ hown (own_w hw 34 rfl) (own_w hw 35 rfl) (notFace_of_selects (args := #[]) (mvT hZ (own_w hw 37 rfl))) (own_w hw 37 rfl) (own_w hw 36 rfl) (own_w hw 10 rfl) (own_w hw 38 rfl) (by decide) (by rw [hml]; rfl) b277 [(.long q0), (.long (1 : Int64))] [] pd_7 rfl at_93 rfl rfl E_b277_278 rfl rfl rfl (by decide) (by decide) (by decide) (by decide) ?_
      rintro _ T279 L279 X279 ⟨b279_0, b279_1, b279_2, k279_0, k279_1, k279_2, rfl, N279, Kc279, n_b279_0, sz_b279_0, n_b279_1, sz_b279_1, n_b279_2, sz_b279_2, ne_b279_0_b279_1, ne_b279_0_b279_2, ne_b279_1_b279_2, E_b277_279, F_b277_droppedTotal_279, F_b277_end_279, F_b277_firsts_279, F_b277_head_279, F_b277_lasts_279, F_b277_totals_279, V_b279_0_279, V_b279_1_279, V_b279_2_279⟩
      have N279 := Fr.app N278 N279
      have ne_b277_b279_0 : b277 ≠ b279_0 := Nat.ne_of_lt (Nat.lt_of_lt_of_le E_b277_278.lt sz_b279_0)
      have ne_b277_b279_1 : b277 ≠ b279_1 := Nat.ne_of_lt (Nat.lt_of_lt_of_le E_b277_278.lt sz_b279_1)
      have ne_b277_b279_2 : b277 ≠ b279_2 := Nat.ne_of_lt (Nat.lt_of_lt_of_le E_b277_278.lt sz_b279_2)
      have O279 := O278.keep Kc279 (allS n_b277 all0)
      show Go p e below _ (T279.setTop (mkF m 96 _ []))
      refine own_iload 98 X279 hx hby at_96 rfl rfl ?_
      refine own_ifY 109 X279 hx hby at_98 (by decide) (by decide) (by decide) ?_
      refine own_iload 111 X279 hx hby at_109 rfl rfl ?_
      refine own_ifY 121 X279 hx hby at_111 (by decide) (by decide) (by decide) ?_
      refine own_iload 123 X279 hx hby at_121 rfl rfl ?_
      refine own_ifN 126 X279 hx hby at_123 rfl (by decide) ?_
      refine own_iload 128 X279 hx hby at_126 rfl rfl ?_
      refine own_ifY 139 X279 hx hby at_128 (by decide) (by decide) (by decide) ?_
      refine own_iconst 140 (1 : Int32) X279 hx hby at_139 rfl (by decide) ?_
      refine own_goto 144 X279 hx hby at_140 (by decide) (by decide) ?_
      refine own_istore 146 #[oJ q0, oS, oJ q1, oS, oJ q2, oS, oJ q3, oS, oI x4, oJ q0, oS, oJ q0, oS, oI (2 : Int32), oI (1 : Int32), oI (0 : Int32), oI (0 : Int32), oA b277, oI (1 : Int32), oU, oU] X279 hx hby at_144 rfl rfl ?_
      refine own_iload 148 X279 hx hby at_146 rfl rfl ?_
      refine own_ifY 168 X279 hx hby at_148 (by decide) (by decide) (by decide) ?_
      refine own_iconst 169 (0 : Int32) X279 hx hby at_168 rfl (by decide) ?_
      refine own_istore 171 #[oJ q0, oS, oJ q1, oS, oJ q2, oS, oJ q3, oS, oI x4, oJ q0, oS, oJ q0, oS, oI (2 : Int32), oI (1 : Int32), oI (0 : Int32), oI (0 : Int32), oA b277, oI (1 : Int32), oI (0 : Int32), oU] X279 hx hby at_169 rfl rfl ?_
      refine own_iload 173 X279 hx hby at_171 rfl rfl ?_
      refine own_ifN 176 X279 hx hby at_173 rfl (by decide) ?_
      refine own_lload 178 X279 hx hby at_176 rfl rfl ?_
      refine own_lload 180 X279 hx hby at_178 rfl rfl ?_
      refine own_lcmp 181 (XT.cmpL q0 q3) X279 hx hby at_180 rfl rfl ?_
      by_cases hc280 : q3 < q0
      · refine own_ifN 184 X279 hx hby at_181 rfl (own_tltL hc280).2.2.2 ?_
        refine own_iconst 185 (1 : Int32) X279 hx hby at_184 rfl (by decide) ?_
        refine own_goto 189 X279 hx hby at_185 (by decide) (by decide) ?_
        refine own_istore 191 #[oJ q0, oS, oJ q1, oS, oJ q2, oS, oJ q3, oS, oI x4, oJ q0, oS, oJ q0, oS, oI (2 : Int32), oI (1 : Int32), oI (0 : Int32), oI (0 : Int32), oA b277, oI (1 : Int32), oI (0 : Int32), oI (1 : Int32)] X279 hx hby at_189 rfl rfl ?_
        refine own_goto 220 X279 hx hby at_191 (by decide) (by decide) ?_
        refine own_aload 222 X279 hx hby at_220 rfl rfl rfl ?_
        refine own_lload 224 X279 hx hby at_222 rfl rfl ?_
        refine own_virt (W := 0) 227 (rm5_15 l Z a0 hw [] w_NONE k_NONE W b277 b279_0 k279_0 b279_1 k279_1 b279_2 k279_2 q3 q0 T279.heap n0 O279 E_b277_279 F_b277_droppedTotal_279 F_b277_end_279 F_b277_firsts_279 F_b277_head_279 F_b277_lasts_279 F_b277_totals_279 n_b277 V_b279_0_279 n_b279_0 V_b279_1_279 n_b279_1 V_b279_2_279 n_b279_2 ne_b277_b279_0 ne_b277_b279_1 ne_b277_b279_2 ne_b279_0_b279_1 ne_b279_0_b279_2 ne_b279_1_b279_2 hc280) X279 hx hby hZ hown (own_w hw 25 rfl) (own_w hw 26 rfl) (notFace_of_selects (args := #[]) (mvT hZ (own_w hw 28 rfl))) (own_w hw 28 rfl) (own_w hw 27 rfl) (own_w hw 10 rfl) (own_w hw 29 rfl) (by decide) (by rw [hml]; rfl) b277 [(.long q3)] [] pd_2 rfl at_224 rfl rfl E_b277_279 rfl rfl rfl (by decide) (by decide) (by decide) (by decide) ?_
        rintro _ T281 L281 X281 ⟨rfl, N281, e281⟩
        have N281 := Fr.app N279 N281
        show Go p e below _ (T281.setTop (mkF m 227 _ [(.int (1 : Int32))]))
        refine own_iload 229 X281 hx hby at_227 rfl rfl ?_
        refine own_icN 232 X281 hx hby at_229 rfl (by decide) ?_
        refine own_iconst 233 (1 : Int32) X281 hx hby at_232 rfl (by decide) ?_
        refine own_goto 237 X281 hx hby at_233 (by decide) (by decide) ?_
        exact own_ret (Q := own_Q1 n0) X281 hx hby hret hlk at_237 rfl (Or.inl ⟨rfl, by simp, _, rfl⟩) (by decide) (by decide) ⟨rfl, N281⟩
      refine own_ifY 188 X279 hx hby at_181 (by decide) (by decide) (own_fltL hc280).2.2.2 ?_
      refine own_iconst 189 (0 : Int32) X279 hx hby at_188 rfl (by decide) ?_
      refine own_istore 191 #[oJ q0, oS, oJ q1, oS, oJ q2, oS, oJ q3, oS, oI x4, oJ q0, oS, oJ q0, oS, oI (2 : Int32), oI (1 : Int32), oI (0 : Int32), oI (0 : Int32), oA b277, oI (1 : Int32), oI (0 : Int32), oI (0 : Int32)] X279 hx hby at_189 rfl rfl ?_
      refine own_goto 220 X279 hx hby at_191 (by decide) (by decide) ?_
      refine own_aload 222 X279 hx hby at_220 rfl rfl rfl ?_
      refine own_lload 224 X279 hx hby at_222 rfl rfl ?_
      refine own_virt (W := 0) 227 (rm5_16 l Z a0 hw [] w_NONE k_NONE W b277 b279_0 k279_0 b279_1 k279_1 b279_2 k279_2 q3 q0 T279.heap n0 O279 E_b277_279 F_b277_droppedTotal_279 F_b277_end_279 F_b277_firsts_279 F_b277_head_279 F_b277_lasts_279 F_b277_totals_279 n_b277 V_b279_0_279 n_b279_0 V_b279_1_279 n_b279_1 V_b279_2_279 n_b279_2 ne_b277_b279_0 ne_b277_b279_1 ne_b277_b279_2 ne_b279_0_b279_1 ne_b279_0_b279_2 ne_b279_1_b279_2 hc280) X279 hx hby hZ hown (own_w hw 25 rfl) (own_w hw 26 rfl) (notFace_of_selects (args := #[]) (mvT hZ (own_w hw 28 rfl))) (own_w hw 28 rfl) (own_w hw 27 rfl) (own_w hw 10 rfl) (own_w hw 29 rfl) (by decide) (by rw [hml]; rfl) b277 [(.long q3)] [] pd_2 rfl at_224 rfl rfl E_b277_279 rfl rfl rfl (by decide) (by decide) (by decide) (by decide) ?_
      rintro _ T282 L282 X282 ⟨rfl, N282, e282⟩
      have N282 := Fr.app N279 N282
      show Go p e below _ (T282.setTop (mkF m 227 _ [(.int (0 : Int32))]))
      refine own_iload 229 X282 hx hby at_227 rfl rfl ?_
      refine own_icN 232 X282 hx hby at_229 rfl (by decide) ?_
      refine own_iconst 233 (1 : Int32) X282 hx hby at_232 rfl (by decide) ?_
      refine own_goto 237 X282 hx hby at_233 (by decide) (by decide) ?_
      exact own_ret (Q := own_Q1 n0) X282 hx hby hret hlk at_237 rfl (Or.inl ⟨rfl, by simp, _, rfl⟩) (by decide) (by decide) ⟨rfl, N282⟩
    · refine own_iand 64 (1 : Int32) X246 hx hby at_63 rfl hv276 ?_
      refine own_ifN 67 X246 hx hby at_64 rfl (by decide) ?_
      refine own_iconst 68 (1 : Int32) X246 hx hby at_67 rfl (by decide) ?_
      refine own_goto 72 X246 hx hby at_68 (by decide) (by decide) ?_
      refine own_istore 74 #[oJ q0, oS, oJ q1, oS, oJ q2, oS, oJ q3, oS, oI x4, oJ q0, oS, oJ q0, oS, oI (2 : Int32), oI (1 : Int32), oI (0 : Int32), oI (1 : Int32), oU, oU, oU, oU] X246 hx hby at_72 rfl rfl ?_
      refine own_new 77 6 X246 hx hby hZ hown (own_w hw 8 rfl) (own_w hw 9 rfl) (own_w hw 10 rfl) e246 at_74 rfl (by decide) (by decide) ?_
      intro T283 h283 b283 X283 e283 E283 g283 A283 D283
      have n_b283 : n0 ≤ b283 := Nat.le_trans (own_n0 O0) (Nat.le_of_eq g283.symm)
      have O283 := O0.ext E283
      have F_b283_firsts : Fld Z h283 b283 "com/example/meter/meter/store/Spans" "firsts" "[J" .null := D283 (Or.inl (own_w hw 20 rfl)) (ty := (.array .long)) (by decide)
      have F_b283_lasts : Fld Z h283 b283 "com/example/meter/meter/store/Spans" "lasts" "[J" .null := D283 (Or.inl (own_w hw 22 rfl)) (ty := (.array .long)) (by decide)
      have F_b283_totals : Fld Z h283 b283 "com/example/meter/meter/store/Spans" "totals" "[J" .null := D283 (Or.inl (own_w hw 24 rfl)) (ty := (.array .long)) (by decide)
      have F_b283_head : Fld Z h283 b283 "com/example/meter/meter/store/Spans" "head" "I" (.int (0 : Int32)) := D283 (Or.inl (own_w hw 31 rfl)) (ty := .int) (by decide)
      have F_b283_end : Fld Z h283 b283 "com/example/meter/meter/store/Spans" "end" "I" (.int (0 : Int32)) := D283 (Or.inl (own_w hw 33 rfl)) (ty := .int) (by decide)
      have F_b283_droppedTotal : Fld Z h283 b283 "com/example/meter/meter/store/Spans" "droppedTotal" "J" (.long (0 : Int64)) := D283 (Or.inl (own_w hw 60 rfl)) (ty := .long) (by decide)
      refine own_dup 78 X283 hx hby at_77 rfl rfl ?_
      refine own_spec (W := 1) 81 (rm3_5 l Z a0 hw [] w_NONE k_NONE W b283 h283 n0 O283 A283 F_b283_droppedTotal F_b283_end F_b283_firsts F_b283_head F_b283_lasts F_b283_totals n_b283) X283 hx hby hZ hown rfl (own_w hw 11 rfl) (own_w hw 12 rfl) (own_w hw 10 rfl) (own_w hw 13 rfl) (by decide) (by rw [hml]; rfl) b283 [] [(.ref b283)] pd_1 rfl at_78 rfl e283 rfl rfl rfl (by decide) (by decide) (by decide) (by decide) ?_
      rintro _ T284 L284 X284 ⟨rfl, N284, Kc284, E_b283_284, F_b283_droppedTotal_284, F_b283_end_284, F_b283_firsts_284, F_b283_head_284, F_b283_lasts_284, F_b283_totals_284⟩
      have N284 := Fr.app N246 N284
      have O284 := O283.keep Kc284 (allS n_b283 all0)
      show Go p e below _ (T284.setTop (mkF m 81 _ [(.ref b283)]))
      refine own_astore 83 #[oJ q0, oS, oJ q1, oS, oJ q2, oS, oJ q3, oS, oI x4, oJ q0, oS, oJ q0, oS, oI (2 : Int32), oI (1 : Int32), oI (0 : Int32), oI (1 : Int32), oA b283, oU, oU, oU] X284 hx hby at_81 rfl rfl rfl ?_
      refine own_iload 85 X284 hx hby at_83 rfl rfl ?_
      refine own_ifN 88 X284 hx hby at_85 rfl (by decide) ?_
      refine own_aload 90 X284 hx hby at_88 rfl rfl rfl ?_
      refine own_lload 92 X284 hx hby at_90 rfl rfl ?_
      refine own_lconst 93 (1 : Int64) X284 hx hby at_92 rfl (by decide) ?_
      refine own_virt (W := 0) 96 (rm6_14 l Z a0 hw [] w_NONE k_NONE W b283 q0 T284.heap n0 O284 E_b283_284 F_b283_droppedTotal_284 F_b283_end_284 F_b283_firsts_284 F_b283_head_284 F_b283_lasts_284 F_b283_totals_284 n_b283) X284 hx hby hZ hown (own_w hw 34 rfl) (own_w hw 35 rfl) (notFace_of_selects (args := #[]) (mvT hZ (own_w hw 37 rfl))) (own_w hw 37 rfl) (own_w hw 36 rfl) (own_w hw 10 rfl) (own_w hw 38 rfl) (by decide) (by rw [hml]; rfl) b283 [(.long q0), (.long (1 : Int64))] [] pd_7 rfl at_93 rfl rfl E_b283_284 rfl rfl rfl (by decide) (by decide) (by decide) (by decide) ?_
      rintro _ T285 L285 X285 ⟨b285_0, b285_1, b285_2, k285_0, k285_1, k285_2, rfl, N285, Kc285, n_b285_0, sz_b285_0, n_b285_1, sz_b285_1, n_b285_2, sz_b285_2, ne_b285_0_b285_1, ne_b285_0_b285_2, ne_b285_1_b285_2, E_b283_285, F_b283_droppedTotal_285, F_b283_end_285, F_b283_firsts_285, F_b283_head_285, F_b283_lasts_285, F_b283_totals_285, V_b285_0_285, V_b285_1_285, V_b285_2_285⟩
      have N285 := Fr.app N284 N285
      have ne_b283_b285_0 : b283 ≠ b285_0 := Nat.ne_of_lt (Nat.lt_of_lt_of_le E_b283_284.lt sz_b285_0)
      have ne_b283_b285_1 : b283 ≠ b285_1 := Nat.ne_of_lt (Nat.lt_of_lt_of_le E_b283_284.lt sz_b285_1)
      have ne_b283_b285_2 : b283 ≠ b285_2 := Nat.ne_of_lt (Nat.lt_of_lt_of_le E_b283_284.lt sz_b285_2)
      have O285 := O284.keep Kc285 (allS n_b283 all0)
      show Go p e below _ (T285.setTop (mkF m 96 _ []))
      refine own_iload 98 X285 hx hby at_96 rfl rfl ?_
      refine own_ifY 109 X285 hx hby at_98 (by decide) (by decide) (by decide) ?_
      refine own_iload 111 X285 hx hby at_109 rfl rfl ?_
      refine own_ifN 114 X285 hx hby at_111 rfl (by decide) ?_
      refine own_aload 116 X285 hx hby at_114 rfl rfl rfl ?_
      refine own_lload 118 X285 hx hby at_116 rfl rfl ?_
      by_cases hc286 : q2 < q0
      · refine own_virt (W := 0) 121 (rm11_17 l Z a0 hw [] w_NONE k_NONE W b283 b285_0 k285_0 b285_1 k285_1 b285_2 k285_2 q2 q0 T285.heap n0 O285 E_b283_285 F_b283_droppedTotal_285 F_b283_end_285 F_b283_firsts_285 F_b283_head_285 F_b283_lasts_285 F_b283_totals_285 n_b283 V_b285_0_285 n_b285_0 V_b285_1_285 n_b285_1 V_b285_2_285 n_b285_2 ne_b283_b285_0 ne_b283_b285_1 ne_b283_b285_2 ne_b285_0_b285_1 ne_b285_0_b285_2 ne_b285_1_b285_2 hc286) X285 hx hby hZ hown (own_w hw 61 rfl) (own_w hw 62 rfl) (notFace_of_selects (args := #[]) (mvT hZ (own_w hw 64 rfl))) (own_w hw 64 rfl) (own_w hw 63 rfl) (own_w hw 10 rfl) (own_w hw 65 rfl) (by decide) (by rw [hml]; rfl) b283 [(.long q2)] [] pd_3 rfl at_118 rfl rfl E_b283_285 rfl rfl rfl (by decide) (by decide) (by decide) (by decide) ?_
        rintro _ T287 L287 X287 ⟨rfl, N287, e287⟩
        have N287 := Fr.app N285 N287
        show Go p e below _ (T287.setTop (mkF m 121 _ []))
        refine own_iload 123 X287 hx hby at_121 rfl rfl ?_
        refine own_ifN 126 X287 hx hby at_123 rfl (by decide) ?_
        refine own_iload 128 X287 hx hby at_126 rfl rfl ?_
        refine own_ifN 131 X287 hx hby at_128 rfl (by decide) ?_
        refine own_lload 133 X287 hx hby at_131 rfl rfl ?_
        refine own_lload 135 X287 hx hby at_133 rfl rfl ?_
        refine own_lcmp 136 (XT.cmpL q0 q2) X287 hx hby at_135 rfl rfl ?_
        refine own_ifN 139 X287 hx hby at_136 rfl (own_tltL hc286).2.2.2 ?_
        refine own_iconst 140 (1 : Int32) X287 hx hby at_139 rfl (by decide) ?_
        refine own_goto 144 X287 hx hby at_140 (by decide) (by decide) ?_
        refine own_istore 146 #[oJ q0, oS, oJ q1, oS, oJ q2, oS, oJ q3, oS, oI x4, oJ q0, oS, oJ q0, oS, oI (2 : Int32), oI (1 : Int32), oI (0 : Int32), oI (1 : Int32), oA b283, oI (1 : Int32), oU, oU] X287 hx hby at_144 rfl rfl ?_
        refine own_iload 148 X287 hx hby at_146 rfl rfl ?_
        refine own_ifY 168 X287 hx hby at_148 (by decide) (by decide) (by decide) ?_
        refine own_iconst 169 (0 : Int32) X287 hx hby at_168 rfl (by decide) ?_
        refine own_istore 171 #[oJ q0, oS, oJ q1, oS, oJ q2, oS, oJ q3, oS, oI x4, oJ q0, oS, oJ q0, oS, oI (2 : Int32), oI (1 : Int32), oI (0 : Int32), oI (1 : Int32), oA b283, oI (1 : Int32), oI (0 : Int32), oU] X287 hx hby at_169 rfl rfl ?_
        refine own_iload 173 X287 hx hby at_171 rfl rfl ?_
        refine own_ifN 176 X287 hx hby at_173 rfl (by decide) ?_
        refine own_lload 178 X287 hx hby at_176 rfl rfl ?_
        refine own_lload 180 X287 hx hby at_178 rfl rfl ?_
        refine own_lcmp 181 (XT.cmpL q0 q3) X287 hx hby at_180 rfl rfl ?_
        by_cases hc288 : q3 < q0
        · refine own_ifN 184 X287 hx hby at_181 rfl (own_tltL hc288).2.2.2 ?_
          refine own_iconst 185 (1 : Int32) X287 hx hby at_184 rfl (by decide) ?_
          refine own_goto 189 X287 hx hby at_185 (by decide) (by decide) ?_
          refine own_istore 191 #[oJ q0, oS, oJ q1, oS, oJ q2, oS, oJ q3, oS, oI x4, oJ q0, oS, oJ q0, oS, oI (2 : Int32), oI (1 : Int32), oI (0 : Int32), oI (1 : Int32), oA b283, oI (1 : Int32), oI (0 : Int32), oI (1 : Int32)] X287 hx hby at_189 rfl rfl ?_
          refine own_goto 220 X287 hx hby at_191 (by decide) (by decide) ?_
          refine own_aload 222 X287 hx hby at_220 rfl rfl rfl ?_
          refine own_lload 224 X287 hx hby at_222 rfl rfl ?_
          refine own_virt (W := 0) 227 (rm5_15 l Z a0 hw [] w_NONE k_NONE W b283 b285_0 k285_0 b285_1 k285_1 b285_2 k285_2 q3 q0 T285.heap n0 O285 E_b283_285 F_b283_droppedTotal_285 F_b283_end_285 F_b283_firsts_285 F_b283_head_285 F_b283_lasts_285 F_b283_totals_285 n_b283 V_b285_0_285 n_b285_0 V_b285_1_285 n_b285_1 V_b285_2_285 n_b285_2 ne_b283_b285_0 ne_b283_b285_1 ne_b283_b285_2 ne_b285_0_b285_1 ne_b285_0_b285_2 ne_b285_1_b285_2 hc288) X287 hx hby hZ hown (own_w hw 25 rfl) (own_w hw 26 rfl) (notFace_of_selects (args := #[]) (mvT hZ (own_w hw 28 rfl))) (own_w hw 28 rfl) (own_w hw 27 rfl) (own_w hw 10 rfl) (own_w hw 29 rfl) (by decide) (by rw [hml]; rfl) b283 [(.long q3)] [] pd_2 rfl at_224 rfl e287 E_b283_285 rfl rfl rfl (by decide) (by decide) (by decide) (by decide) ?_
          rintro _ T289 L289 X289 ⟨rfl, N289, e289⟩
          have N289 := Fr.app N287 N289
          show Go p e below _ (T289.setTop (mkF m 227 _ [(.int (1 : Int32))]))
          refine own_iload 229 X289 hx hby at_227 rfl rfl ?_
          refine own_icN 232 X289 hx hby at_229 rfl (by decide) ?_
          refine own_iconst 233 (1 : Int32) X289 hx hby at_232 rfl (by decide) ?_
          refine own_goto 237 X289 hx hby at_233 (by decide) (by decide) ?_
          exact own_ret (Q := own_Q1 n0) X289 hx hby hret hlk at_237 rfl (Or.inl ⟨rfl, by simp, _, rfl⟩) (by decide) (by decide) ⟨rfl, N289⟩
        refine own_ifY 188 X287 hx hby at_181 (by decide) (by decide) (own_fltL hc288).2.2.2 ?_
        refine own_iconst 189 (0 : Int32) X287 hx hby at_188 rfl (by decide) ?_
        refine own_istore 191 #[oJ q0, oS, oJ q1, oS, oJ q2, oS, oJ q3, oS, oI x4, oJ q0, oS, oJ q0, oS, oI (2 : Int32), oI (1 : Int32), oI (0 : Int32), oI (1 : Int32), oA b283, oI (1 : Int32), oI (0 : Int32), oI (0 : Int32)] X287 hx hby at_189 rfl rfl ?_
        refine own_goto 220 X287 hx hby at_191 (by decide) (by decide) ?_
        refine own_aload 222 X287 hx hby at_220 rfl rfl rfl ?_
        refine own_lload 224 X287 hx hby at_222 rfl rfl ?_
        refine own_virt (W := 0) 227 (rm5_16 l Z a0 hw [] w_NONE k_NONE W b283 b285_0 k285_0 b285_1 k285_1 b285_2 k285_2 q3 q0 T285.heap n0 O285 E_b283_285 F_b283_droppedTotal_285 F_b283_end_285 F_b283_firsts_285 F_b283_head_285 F_b283_lasts_285 F_b283_totals_285 n_b283 V_b285_0_285 n_b285_0 V_b285_1_285 n_b285_1 V_b285_2_285 n_b285_2 ne_b283_b285_0 ne_b283_b285_1 ne_b283_b285_2 ne_b285_0_b285_1 ne_b285_0_b285_2 ne_b285_1_b285_2 hc288) X287 hx hby hZ hown (own_w hw 25 rfl) (own_w hw 26 rfl) (notFace_of_selects (args := #[]) (mvT hZ (own_w hw 28 rfl))) (own_w hw 28 rfl) (own_w hw 27 rfl) (own_w hw 10 rfl) (own_w hw 29 rfl) (by decide) (by rw [hml]; rfl) b283 [(.long q3)] [] pd_2 rfl at_224 rfl e287 E_b283_285 rfl rfl rfl (by decide) (by decide) (by decide) (by decide) ?_
        rintro _ T290 L290 X290 ⟨rfl, N290, e290⟩
        have N290 := Fr.app N287 N290
        show Go p e below _ (T290.setTop (mkF m 227 _ [(.int (0 : Int32))]))
        refine own_iload 229 X290 hx hby at_227 rfl rfl ?_
        refine own_icN 232 X290 hx hby at_229 rfl (by decide) ?_
        refine own_iconst 233 (1 : Int32) X290 hx hby at_232 rfl (by decide) ?_
        refine own_goto 237 X290 hx hby at_233 (by decide) (by decide) ?_
        exact own_ret (Q := own_Q1 n0) X290 hx hby hret hlk at_237 rfl (Or.inl ⟨rfl, by simp, _, rfl⟩) (by decide) (by decide) ⟨rfl, N290⟩
      refine own_virt (W := 0) 121 (rm11_18 l Z a0 hw [] w_NONE k_NONE W b283 b285_0 k285_0 b285_1 k285_1 b285_2 k285_2 q2 q0 T285.heap n0 O285 E_b283_285 F_b283_droppedTotal_285 F_b283_end_285 F_b283_firsts_285 F_b283_head_285 F_b283_lasts_285 F_b283_totals_285 n_b283 V_b285_0_285 n_b285_0 V_b285_1_285 n_b285_1 V_b285_2_285 n_b285_2 ne_b283_b285_0 ne_b283_b285_1 ne_b283_b285_2 ne_b285_0_b285_1 ne_b285_0_b285_2 ne_b285_1_b285_2 hc286) X285 hx hby hZ hown (own_w hw 61 rfl) (own_w hw 62 rfl) (notFace_of_selects (args := #[]) (mvT hZ (own_w hw 64 rfl))) (own_w hw 64 rfl) (own_w hw 63 rfl) (own_w hw 10 rfl) (own_w hw 65 rfl) (by decide) (by rw [hml]; rfl) b283 [(.long q2)] [] pd_3 rfl at_118 rfl rfl E_b283_285 rfl rfl rfl (by decide) (by decide) (by decide) (by decide) ?_
      rintro _ T291 L291 X291 ⟨rfl, N291, Kc291, E_b283_291, F_b283_droppedTotal_291, F_b283_end_291, F_b283_firsts_291, F_b283_head_291, F_b283_lasts_291, F_b283_totals_291, V_b285_0_291, V_b285_1_291, V_b285_2_291⟩
      have N291 := Fr.app N285 N291
      have O291 := O285.keep Kc291 (allS n_b283 all0)
      show Go p e below _ (T291.setTop (mkF m 121 _ []))
      refine own_iload 123 X291 hx hby at_121 rfl rfl ?_
      refine own_ifN 126 X291 hx hby at_123 rfl (by decide) ?_
      refine own_iload 128 X291 hx hby at_126 rfl rfl ?_
      refine own_ifN 131 X291 hx hby at_128 rfl (by decide) ?_
      refine own_lload 133 X291 hx hby at_131 rfl rfl ?_
      refine own_lload 135 X291 hx hby at_133 rfl rfl ?_
      refine own_lcmp 136 (XT.cmpL q0 q2) X291 hx hby at_135 rfl rfl ?_
      refine own_ifY 143 X291 hx hby at_136 (by decide) (by decide) (own_fltL hc286).2.2.2 ?_
      refine own_iconst 144 (0 : Int32) X291 hx hby at_143 rfl (by decide) ?_
      refine own_istore 146 #[oJ q0, oS, oJ q1, oS, oJ q2, oS, oJ q3, oS, oI x4, oJ q0, oS, oJ q0, oS, oI (2 : Int32), oI (1 : Int32), oI (0 : Int32), oI (1 : Int32), oA b283, oI (0 : Int32), oU, oU] X291 hx hby at_144 rfl rfl ?_
      refine own_iload 148 X291 hx hby at_146 rfl rfl ?_
      refine own_ifY 168 X291 hx hby at_148 (by decide) (by decide) (by decide) ?_
      refine own_iconst 169 (0 : Int32) X291 hx hby at_168 rfl (by decide) ?_
      refine own_istore 171 #[oJ q0, oS, oJ q1, oS, oJ q2, oS, oJ q3, oS, oI x4, oJ q0, oS, oJ q0, oS, oI (2 : Int32), oI (1 : Int32), oI (0 : Int32), oI (1 : Int32), oA b283, oI (0 : Int32), oI (0 : Int32), oU] X291 hx hby at_169 rfl rfl ?_
      refine own_iload 173 X291 hx hby at_171 rfl rfl ?_
      refine own_ifY 194 X291 hx hby at_173 (by decide) (by decide) (by decide) ?_
      refine own_iload 196 X291 hx hby at_194 rfl rfl ?_
      refine own_ifY 217 X291 hx hby at_196 (by decide) (by decide) (by decide) ?_
      refine own_iconst 218 (1 : Int32) X291 hx hby at_217 rfl (by decide) ?_
      refine own_istore 220 #[oJ q0, oS, oJ q1, oS, oJ q2, oS, oJ q3, oS, oI x4, oJ q0, oS, oJ q0, oS, oI (2 : Int32), oI (1 : Int32), oI (0 : Int32), oI (1 : Int32), oA b283, oI (0 : Int32), oI (0 : Int32), oI (1 : Int32)] X291 hx hby at_218 rfl rfl ?_
      refine own_aload 222 X291 hx hby at_220 rfl rfl rfl ?_
      refine own_lload 224 X291 hx hby at_222 rfl rfl ?_
      refine own_virt (W := 0) 227 (rm5_19 l Z a0 hw [] w_NONE k_NONE W b283 b285_0 k285_0 b285_1 k285_1 b285_2 k285_2 q3 q0 T291.heap n0 O291 E_b283_291 F_b283_droppedTotal_291 F_b283_end_291 F_b283_firsts_291 F_b283_head_291 F_b283_lasts_291 F_b283_totals_291 n_b283 V_b285_0_291 n_b285_0 V_b285_1_291 n_b285_1 V_b285_2_291 n_b285_2 ne_b283_b285_0 ne_b283_b285_1 ne_b283_b285_2 ne_b285_0_b285_1 ne_b285_0_b285_2 ne_b285_1_b285_2) X291 hx hby hZ hown (own_w hw 25 rfl) (own_w hw 26 rfl) (notFace_of_selects (args := #[]) (mvT hZ (own_w hw 28 rfl))) (own_w hw 28 rfl) (own_w hw 27 rfl) (own_w hw 10 rfl) (own_w hw 29 rfl) (by decide) (by rw [hml]; rfl) b283 [(.long q3)] [] pd_2 rfl at_224 rfl rfl E_b283_291 rfl rfl rfl (by decide) (by decide) (by decide) (by decide) ?_
      rintro _ T292 L292 X292 ⟨rfl, N292, e292⟩
      have N292 := Fr.app N291 N292
      show Go p e below _ (T292.setTop (mkF m 227 _ [(.int (1 : Int32))]))
      refine own_iload 229 X292 hx hby at_227 rfl rfl ?_
      refine own_icN 232 X292 hx hby at_229 rfl (by decide) ?_
      refine own_iconst 233 (1 : Int32) X292 hx hby at_232 rfl (by decide) ?_
      refine own_goto 237 X292 hx hby at_233 (by decide) (by decide) ?_
      exact own_ret (Q := own_Q1 n0) X292 hx hby hret hlk at_237 rfl (Or.inl ⟨rfl, by simp, _, rfl⟩) (by decide) (by decide) ⟨rfl, N292⟩
set_option maxRecDepth 65536 in
set_option maxHeartbeats 40000000 in
theorem comes_1 {Post : Tables → Env → Array Value → State → Outcome → State → Prop} (hpost : ∀ tb e args s v u, (limb_1_1.after args s (.returned v) u = true ∧ limb_1_2.after args s (.returned v) u = true) → FrameEnd s (.returned v) u (Jvm.fieldLocs frame_1_writes args s ++ Jvm.arrayLocs frame_1_arrays args s ++ Jvm.staticLocs frame_1_statics s) 16 192 → Post tb e args s (.returned v) u) :
    ArmFor flags0 classFile x code maxLocals ret World_1 tables_1 room_1 Calls_1 rest_1 Pre_1 Post := by
  intro l hfl _ _ p e ha hc hk s m args below hf hA hF happ hP
  obtain ⟨hcalls, hrest, hpre⟩ := hP
  obtain ⟨-, -, -, hnamed, -, -, -, hat⟩ := (Spec.applies_iff hf).mp happ
  obtain ⟨hg, hn⟩ := and_e (Cond.before_iff.mp (show (Jvm.Cond.and given_1 narrow_1).before args s = true from hpre))
  obtain ⟨ga0, gb0⟩ := and_e hg
  obtain ⟨ga1, gb1⟩ := and_e gb0
  obtain ⟨ga2, gb2⟩ := and_e gb1
  obtain ⟨ga3, gb3⟩ := and_e gb2
  obtain ⟨ga4, ga5⟩ := and_e gb3
  obtain ⟨u0, u1, u2, u3, u4, rfl⟩ : ∃ u0 u1 u2 u3 u4 : Value, args = #[u0, u1, u2, u3, u4] := by
    have hs : args.size = 5 := by simpa [Cond.value, given_1] using ga0
    obtain ⟨L⟩ := args
    match L, hs with
    | [u0, u1, u2, u3, u4], _ => exact ⟨u0, u1, u2, u3, u4, rfl⟩
  have hw := fun d (hd : d ∈ tables_1) => atoms_spec (ws := Jvm.Cond.code x code maxLocals ret :: tables_1) hat d (List.mem_cons_of_mem _ hd)
  have hfit : Fit s := fun {y c} hc i hi => by
    obtain ⟨ha, rfl⟩ := Array.getElem?_eq_some_iff.mp hc
    have q := List.all_eq_true.mp ((Array.all_eq_true_iff_forall_mem.mp hF) _ (Array.getElem_mem ha)) i (List.mem_range.mpr hi)
    simpa [Array.getElem?_eq_getElem hi] using q
  obtain ⟨i0, ei0⟩ := isL_v ga1
  obtain rfl : u0 = (.long i0) := Option.some.inj ei0
  obtain ⟨i1, ei1⟩ := isL_v ga2
  obtain rfl : u1 = (.long i1) := Option.some.inj ei1
  obtain ⟨i2, ei2⟩ := isL_v ga3
  obtain rfl : u2 = (.long i2) := Option.some.inj ei2
  obtain ⟨i3, ei3⟩ := isL_v ga4
  obtain rfl : u3 = (.long i3) := Option.some.inj ei3
  obtain ⟨i4, ei4⟩ := is_v ga5
  obtain rfl : u4 = (.int i4) := Option.some.inj ei4
  obtain ⟨na0, nb0⟩ := and_e hn
  obtain ⟨na1, na2⟩ := and_e nb0
  obtain ⟨w_NONE, v_w_NONE⟩ := arr_v na0
  have S_w_NONE := Sta.start v_w_NONE (Or.inr ⟨(own_w hw 10 rfl), (own_w hw 18 rfl)⟩)
  obtain ⟨cl_w_NONE, A_w_NONE⟩ := Arr.start v_w_NONE na0
  obtain ⟨q_w_NONE, l_w_NONE⟩ := own_len_at (eqv_i (Term.int_eval _) na2) v_w_NONE (A_w_NONE.fin (Vm.Alike.refl _))
  have V_w_NONE : Arv s s.heap w_NONE _ .long (0 : Int32) [] (.long (0 : Int64)) := Arv.start hfit A_w_NONE q_w_NONE l_w_NONE (by decide) rfl trivial
  obtain ⟨n, o, h1, h2, h3, _, L, rfl, ⟨rfl, N⟩, hq⟩ := rm0 l s _ hw tables_1 w_NONE _ ⟨S_w_NONE, V_w_NONE⟩ i0 i1 i2 i3 i4 s.heap s.heap.size (Old.start s) p e ha hc hk s m _ below hf ((Spec.applies_iff_loose hf).mp happ).1 ⟨rfl, State.Warmed39.refl s, rfl⟩ trivial
  refine ⟨n, _, h1, h2, h3, hpost _ _ _ _ _ _ ⟨Cond.after_iff.mpr rfl, Cond.after_iff.mpr (eq_i res_at (Term.int_eval (1)) rfl)⟩ ⟨hq.1, hq.2.1, (hq.2.2.sift fun y hy => Or.inr (N y hy)).mono (by decide) (by decide)⟩⟩
theorem main_1_1 : Claimed_1_1 := comes_1 fun _ _ _ _ _ _ h hF => ⟨h.1, hF⟩
theorem main_1_2 : Claimed_1_2 := comes_1 fun _ _ _ _ _ _ h hF => ⟨h.2, hF⟩
end Jvm.Pilot.@@N@@
namespace Jvm.Pilot.@@N@@
open Jvm Jvm.ClassFile Sem Op Lib Jvm.Free Jvm.Stand Jvm.Pilot.@@N@@.Jvm.D
/-! MADE BY PROGRAM (witnessworld.py) out of the Statement's table words and the real class files: 13 classes; the members and pool entries that the words name. The judged class is class 1, her method 1. -/
namespace start1
open Jvm.ClassFile
def u (s : String) : CpInfo := .utf8 (stringToUtf16 s)
/-- a pool by its gaps: so many unusable entries, then the entry; so many at the end -/
def gap : Nat → List CpInfo → List CpInfo
  | 0, r => r
  | n + 1, r => .unusable :: gap n r
def poolList (es : List (Nat × CpInfo)) (last : Nat) : List CpInfo := es.foldr (fun e r => gap e.1 (e.2 :: r)) (gap last [])
def pool (es : List (Nat × CpInfo)) (last : Nat) : Array CpInfo := ⟨poolList es last⟩
def fileOf (pool : Array CpInfo) (this : Nat) (attrs : Array Attribute := #[]) (ms : Array MethodInfo := #[]) (fl : Nat := 33) (sup : Nat := 0) (ifs : Array Nat := #[]) (fds : Array FieldInfo := #[]) : ClassFile where
  minorVersion := 0
  majorVersion := 65
  constantPool := pool
  accessFlags := fl
  thisClass := this
  superClass := sup
  interfaces := ifs
  fields := fds
  methods := ms
  attributes := attrs
def plain (name : String) (sup : Option ClassId) : Class where
  name := name
  kind := .ordinary
  loader := none
  accessFlags := 33
  super := sup
  interfaces := #[]
  cf := none
  fields := #[]
  methods := #[]
  instanceTypes := #[]
  staticTypes := #[]
  resolved := #[]
  callSites := []
  init := .initialized
  statics := none
  mirror := none

def pool0 : Array CpInfo := pool [(5, u "<init>"), (0, u "()V"), (1, .class_ 10), (1, u "java/lang/Object")] 113

def k0c0 : Code := { maxStack := 0, maxLocals := 1, code := object_method_1_code, exceptionTable := #[], attributes := #[] }
def k0m0 : Method := { name := "<init>", desc := "()V", sig := { parameters := [], returnType := none }, accessFlags := 1, code := some k0c0 }
/-- java/lang/Object -/
def k0 : Class := { plain "java/lang/Object" none with
  accessFlags := 33
  interfaces := #[]
  cf := some (fileOf pool0 8 #[] #[{ accessFlags := 1, nameIndex := 5, descriptorIndex := 6, attributes := #[] }] 33 0 #[] #[])
  fields := #[]
  methods := #[k0m0]
  instanceTypes := #[]
  staticTypes := #[]
  resolved := Array.replicate 124 none
  statics := none }

def pool1 : Array CpInfo := pool [(2, .class_ 4), (0, .nameAndType 5 6), (0, u "java/lang/Object"), (0, u "<init>"), (0, u "()V"), (0, .methodref 8 9), (0, .class_ 10), (0, .nameAndType 11 12), (0, u "java/lang/Math"), (0, u "min"), (0, u "(JJ)J"), (0, .methodref 8 14), (0, .nameAndType 15 12), (0, u "max"), (0, .integer 2147483647), (0, .class_ 18), (0, u "com/example/meter/meter/store/Spans"), (0, .methodref 17 3), (0, .methodref 17 21), (0, .nameAndType 22 23), (0, u "append"), (0, u "(JJ)V"), (0, .methodref 17 25), (0, .nameAndType 26 27), (0, u "dropThrough"), (0, u "(J)V"), (0, .methodref 17 29), (0, .nameAndType 30 31), (0, u "endsAfter"), (0, u "(J)Z"), (0, .class_ 33), (0, u "com/example/meter/meter/store/SpansEndsAfterPinLaw"), (2, u "law"), (0, u "(JJJJI)Z")] 3

def k1m0 : Method := { name := "<init>", desc := "()V", sig := { parameters := [], returnType := none }, accessFlags := 1, code := none }
def k1c1 : Code := { maxStack := 5, maxLocals := 21, code := code, exceptionTable := #[], attributes := #[] }
def k1m1 : Method := { name := "law", desc := "(JJJJI)Z", sig := { parameters := [.long, .long, .long, .long, .int], returnType := some .boolean }, accessFlags := 9, code := some k1c1 }
/-- com/example/meter/meter/store/SpansEndsAfterPinLaw -/
def k1 : Class := { plain "com/example/meter/meter/store/SpansEndsAfterPinLaw" (some 0) with
  accessFlags := 49
  interfaces := #[]
  cf := some (fileOf pool1 32 #[] #[{ accessFlags := 1, nameIndex := 5, descriptorIndex := 6, attributes := #[] }, { accessFlags := 9, nameIndex := 36, descriptorIndex := 37, attributes := #[] }] 49 2 #[] #[])
  fields := #[]
  methods := #[k1m0, k1m1]
  instanceTypes := #[]
  staticTypes := #[]
  resolved := Array.replicate 41 none
  statics := none }

def pool2 : Array CpInfo := pool [(1, .class_ 2), (0, u "java/lang/Math"), (1, .class_ 6), (1, u "java/lang/Object"), (0, u "<init>"), (0, u "()V"), (89, .class_ 100), (1, u "java/lang/Math$RandomNumberGeneratorHolder"), (20, u "(JJ)J"), (50, u "negativeZeroFloatBits"), (0, u "J"), (2, u "negativeZeroDoubleBits"), (21, u "max"), (2, u "min"), (43, u "$assertionsDisabled"), (0, u "Z"), (88, u "(II)I"), (2, u "twoToTheDoubleScaleDown"), (0, u "D"), (4, u "twoToTheDoubleScaleUp"), (9, u "E"), (3, u "PI"), (2, u "TAU"), (2, u "DEGREES_TO_RADIANS"), (0, u "RADIANS_TO_DEGREES")] 94

def k2m0 : Method := { name := "<init>", desc := "()V", sig := { parameters := [], returnType := none }, accessFlags := 2, code := none }
def k2c1 : Code := { maxStack := 2, maxLocals := 2, code := jdk_29_method_65_code, exceptionTable := #[], attributes := #[] }
def k2m1 : Method := { name := "max", desc := "(II)I", sig := { parameters := [.int, .int], returnType := some .int }, accessFlags := 9, code := some k2c1 }
def k2c2 : Code := { maxStack := 4, maxLocals := 4, code := jdk_29_method_66_code, exceptionTable := #[], attributes := #[] }
def k2m2 : Method := { name := "max", desc := "(JJ)J", sig := { parameters := [.long, .long], returnType := some .long }, accessFlags := 9, code := some k2c2 }
def k2c3 : Code := { maxStack := 4, maxLocals := 4, code := jdk_29_method_70_code, exceptionTable := #[], attributes := #[] }
def k2m3 : Method := { name := "min", desc := "(JJ)J", sig := { parameters := [.long, .long], returnType := some .long }, accessFlags := 9, code := some k2c3 }
/-- java/lang/Math -/
def k2 : Class := { plain "java/lang/Math" (some 0) with
  accessFlags := 49
  interfaces := #[]
  cf := some (fileOf pool2 1 #[.nestMembers #[98]] #[{ accessFlags := 2, nameIndex := 7, descriptorIndex := 8, attributes := #[] }, { accessFlags := 9, nameIndex := 198, descriptorIndex := 335, attributes := #[] }, { accessFlags := 9, nameIndex := 198, descriptorIndex := 121, attributes := #[] }, { accessFlags := 9, nameIndex := 201, descriptorIndex := 121, attributes := #[] }] 49 4 #[] #[{ accessFlags := 25, nameIndex := 354, descriptorIndex := 339, attributes := #[] }, { accessFlags := 25, nameIndex := 358, descriptorIndex := 339, attributes := #[] }, { accessFlags := 25, nameIndex := 361, descriptorIndex := 339, attributes := #[] }, { accessFlags := 26, nameIndex := 364, descriptorIndex := 339, attributes := #[] }, { accessFlags := 26, nameIndex := 365, descriptorIndex := 339, attributes := #[] }, { accessFlags := 26, nameIndex := 172, descriptorIndex := 173, attributes := #[] }, { accessFlags := 26, nameIndex := 176, descriptorIndex := 173, attributes := #[] }, { accessFlags := 8, nameIndex := 344, descriptorIndex := 339, attributes := #[] }, { accessFlags := 8, nameIndex := 338, descriptorIndex := 339, attributes := #[] }, { accessFlags := 4120, nameIndex := 245, descriptorIndex := 246, attributes := #[] }])
  fields := #[{ name := "E", type := .double, accessFlags := 25, slot := 0, constantValue := 0 }, { name := "PI", type := .double, accessFlags := 25, slot := 1, constantValue := 0 }, { name := "TAU", type := .double, accessFlags := 25, slot := 2, constantValue := 0 }, { name := "DEGREES_TO_RADIANS", type := .double, accessFlags := 26, slot := 3, constantValue := 0 }, { name := "RADIANS_TO_DEGREES", type := .double, accessFlags := 26, slot := 4, constantValue := 0 }, { name := "negativeZeroFloatBits", type := .long, accessFlags := 26, slot := 5, constantValue := 0 }, { name := "negativeZeroDoubleBits", type := .long, accessFlags := 26, slot := 6, constantValue := 0 }, { name := "twoToTheDoubleScaleUp", type := .double, accessFlags := 8, slot := 7, constantValue := 0 }, { name := "twoToTheDoubleScaleDown", type := .double, accessFlags := 8, slot := 8, constantValue := 0 }, { name := "$assertionsDisabled", type := .boolean, accessFlags := 4120, slot := 9, constantValue := 0 }]
  methods := #[k2m0, k2m1, k2m2, k2m3]
  instanceTypes := #[]
  staticTypes := #[.double, .double, .double, .double, .double, .long, .long, .double, .double, .boolean]
  resolved := Array.replicate 460 none
  statics := none }

def pool3 : Array CpInfo := pool [(1, .methodref 2 3), (0, .class_ 4), (0, .nameAndType 5 6), (0, u "java/lang/Object"), (0, u "<init>"), (0, u "()V"), (0, .fieldref 8 9), (0, .class_ 10), (0, .nameAndType 11 12), (0, u "com/example/meter/meter/store/Spans"), (0, u "NONE"), (0, u "[J"), (0, .fieldref 8 14), (0, .nameAndType 15 12), (0, u "firsts"), (0, .fieldref 8 17), (0, .nameAndType 18 12), (0, u "lasts"), (0, .fieldref 8 20), (0, .nameAndType 21 12), (0, u "totals"), (0, .fieldref 8 23), (0, .nameAndType 24 25), (0, u "end"), (0, u "I"), (25, .class_ 53), (1, u "java/lang/Math"), (18, u "(J)V"), (0, .fieldref 8 74), (0, .nameAndType 75 25), (0, u "head"), (0, .methodref 8 77), (0, .nameAndType 78 79), (0, u "totalBefore"), (0, u "(I)J"), (0, .fieldref 8 81), (0, .nameAndType 82 83), (0, u "droppedTotal"), (0, u "J"), (2, .methodref 8 87), (0, .nameAndType 88 6), (0, u "makeRoom"), (8, .methodref 51 98), (0, .nameAndType 99 100), (0, u "max"), (0, u "(II)I"), (0, .methodref 8 102), (0, .nameAndType 103 104), (0, u "movedDown"), (0, u "([JI)[J"), (0, .methodref 106 107), (0, .class_ 108), (0, .nameAndType 109 110), (0, u "java/lang/System"), (0, u "arraycopy"), (0, u "(Ljava/lang/Object;ILjava/lang/Object;II)V"), (0, u "ERROR_DIVISOR"), (1, u "INITIAL_CAPACITY"), (12, u "endsAfter"), (0, u "(J)Z"), (0, u "append"), (0, u "(JJ)V"), (0, u "dropThrough")] 5

def k3c0 : Code := { maxStack := 2, maxLocals := 1, code := prog_11_method_1_code, exceptionTable := #[], attributes := #[] }
def k3m0 : Method := { name := "<init>", desc := "()V", sig := { parameters := [], returnType := none }, accessFlags := 0, code := some k3c0 }
def k3c1 : Code := { maxStack := 4, maxLocals := 3, code := prog_11_method_8_code, exceptionTable := #[], attributes := #[] }
def k3m1 : Method := { name := "endsAfter", desc := "(J)Z", sig := { parameters := [.long], returnType := some .boolean }, accessFlags := 0, code := some k3c1 }
def k3c2 : Code := { maxStack := 6, maxLocals := 5, code := prog_11_method_9_code, exceptionTable := #[], attributes := #[] }
def k3m2 : Method := { name := "append", desc := "(JJ)V", sig := { parameters := [.long, .long], returnType := none }, accessFlags := 0, code := some k3c2 }
def k3c3 : Code := { maxStack := 4, maxLocals := 3, code := prog_11_method_10_code, exceptionTable := #[], attributes := #[] }
def k3m3 : Method := { name := "dropThrough", desc := "(J)V", sig := { parameters := [.long], returnType := none }, accessFlags := 0, code := some k3c3 }
def k3c4 : Code := { maxStack := 3, maxLocals := 2, code := prog_11_method_14_code, exceptionTable := #[], attributes := #[] }
def k3m4 : Method := { name := "totalBefore", desc := "(I)J", sig := { parameters := [.int], returnType := some .long }, accessFlags := 2, code := some k3c4 }
def k3c5 : Code := { maxStack := 4, maxLocals := 4, code := prog_11_method_15_code, exceptionTable := #[], attributes := #[] }
def k3m5 : Method := { name := "makeRoom", desc := "()V", sig := { parameters := [], returnType := none }, accessFlags := 2, code := some k3c5 }
def k3c6 : Code := { maxStack := 6, maxLocals := 4, code := prog_11_method_16_code, exceptionTable := #[], attributes := #[] }
def k3m6 : Method := { name := "movedDown", desc := "([JI)[J", sig := { parameters := [(.array .long), .int], returnType := some (.array .long) }, accessFlags := 2, code := some k3c6 }
/-- com/example/meter/meter/store/Spans -/
def k3 : Class := { plain "com/example/meter/meter/store/Spans" (some 0) with
  accessFlags := 48
  interfaces := #[]
  cf := some (fileOf pool3 8 #[] #[{ accessFlags := 0, nameIndex := 5, descriptorIndex := 6, attributes := #[] }, { accessFlags := 0, nameIndex := 126, descriptorIndex := 127, attributes := #[] }, { accessFlags := 0, nameIndex := 128, descriptorIndex := 129, attributes := #[] }, { accessFlags := 0, nameIndex := 130, descriptorIndex := 72, attributes := #[] }, { accessFlags := 2, nameIndex := 78, descriptorIndex := 79, attributes := #[] }, { accessFlags := 2, nameIndex := 88, descriptorIndex := 6, attributes := #[] }, { accessFlags := 2, nameIndex := 103, descriptorIndex := 104, attributes := #[] }] 48 2 #[] #[{ accessFlags := 26, nameIndex := 111, descriptorIndex := 83, attributes := #[] }, { accessFlags := 26, nameIndex := 113, descriptorIndex := 25, attributes := #[] }, { accessFlags := 26, nameIndex := 11, descriptorIndex := 12, attributes := #[] }, { accessFlags := 2, nameIndex := 15, descriptorIndex := 12, attributes := #[] }, { accessFlags := 2, nameIndex := 18, descriptorIndex := 12, attributes := #[] }, { accessFlags := 2, nameIndex := 21, descriptorIndex := 12, attributes := #[] }, { accessFlags := 2, nameIndex := 75, descriptorIndex := 25, attributes := #[] }, { accessFlags := 2, nameIndex := 24, descriptorIndex := 25, attributes := #[] }, { accessFlags := 2, nameIndex := 82, descriptorIndex := 83, attributes := #[] }])
  fields := #[{ name := "ERROR_DIVISOR", type := .long, accessFlags := 26, slot := 0, constantValue := 0 }, { name := "INITIAL_CAPACITY", type := .int, accessFlags := 26, slot := 1, constantValue := 0 }, { name := "NONE", type := (.array .long), accessFlags := 26, slot := 2, constantValue := 0 }, { name := "firsts", type := (.array .long), accessFlags := 2, slot := 0, constantValue := 0 }, { name := "lasts", type := (.array .long), accessFlags := 2, slot := 1, constantValue := 0 }, { name := "totals", type := (.array .long), accessFlags := 2, slot := 2, constantValue := 0 }, { name := "head", type := .int, accessFlags := 2, slot := 3, constantValue := 0 }, { name := "end", type := .int, accessFlags := 2, slot := 4, constantValue := 0 }, { name := "droppedTotal", type := .long, accessFlags := 2, slot := 5, constantValue := 0 }]
  methods := #[k3m0, k3m1, k3m2, k3m3, k3m4, k3m5, k3m6]
  instanceTypes := #[(.array .long), (.array .long), (.array .long), .int, .int, .long]
  staticTypes := #[.long, .int, (.array .long)]
  resolved := Array.replicate 136 none
  statics := some 0 }

def pool4 : Array CpInfo := pool [(2, .class_ 4), (1, u "java/lang/Object"), (0, u "<init>"), (0, u "()V"), (1, .class_ 10), (1, u "java/lang/System"), (0, u "allowSecurityManager"), (0, u "I"), (16, u "cons"), (0, u "Ljava/io/Console;"), (77, .class_ 110), (1, u "java/lang/System$CallersHolder"), (43, u "initialErrStream"), (0, u "Ljava/io/PrintStream;"), (19, u "security"), (0, u "Ljava/lang/SecurityManager;"), (31, .class_ 209), (0, u "java/lang/System$1"), (7, u "props"), (0, u "Ljava/util/Properties;"), (2, u "lineSeparator"), (0, u "Ljava/lang/String;"), (96, .class_ 321), (1, u "java/lang/System$LoggerFinder"), (5, .class_ 328), (0, u "java/lang/System$Logger"), (67, u "err"), (2, u "out"), (91, u "notSupportedJnuEncoding"), (15, u "in"), (17, u "initialIn"), (0, u "Ljava/io/InputStream;"), (35, u "bootLayer"), (0, u "Ljava/lang/ModuleLayer;"), (99, .class_ 664), (0, u "java/lang/System$2"), (9, u "NEVER"), (2, u "MAYBE"), (49, u "arraycopy"), (0, u "(Ljava/lang/Object;ILjava/lang/Object;II)V"), (72, .class_ 802), (0, u "java/lang/System$Logger$Level")] 31

def k4m0 : Method := { name := "<init>", desc := "()V", sig := { parameters := [], returnType := none }, accessFlags := 2, code := none }
def k4m1 : Method := { name := "arraycopy", desc := "(Ljava/lang/Object;ILjava/lang/Object;II)V", sig := { parameters := [(.object "java/lang/Object"), .int, (.object "java/lang/Object"), .int, .int], returnType := none }, accessFlags := 265, code := none }
/-- java/lang/System -/
def k4 : Class := { plain "java/lang/System" (some 0) with
  accessFlags := 49
  interfaces := #[]
  cf := some (fileOf pool4 8 #[.nestMembers #[319, 327, 801, 108, 663, 208]] #[{ accessFlags := 2, nameIndex := 5, descriptorIndex := 6, attributes := #[] }, { accessFlags := 265, nameIndex := 727, descriptorIndex := 728, attributes := #[] }] 49 2 #[] #[{ accessFlags := 25, nameIndex := 507, descriptorIndex := 526, attributes := #[] }, { accessFlags := 25, nameIndex := 399, descriptorIndex := 155, attributes := #[] }, { accessFlags := 25, nameIndex := 396, descriptorIndex := 155, attributes := #[] }, { accessFlags := 10, nameIndex := 525, descriptorIndex := 526, attributes := #[] }, { accessFlags := 26, nameIndex := 674, descriptorIndex := 12, attributes := #[] }, { accessFlags := 26, nameIndex := 677, descriptorIndex := 12, attributes := #[] }, { accessFlags := 10, nameIndex := 11, descriptorIndex := 12, attributes := #[] }, { accessFlags := 74, nameIndex := 175, descriptorIndex := 176, attributes := #[] }, { accessFlags := 10, nameIndex := 491, descriptorIndex := 222, attributes := #[] }, { accessFlags := 74, nameIndex := 29, descriptorIndex := 30, attributes := #[] }, { accessFlags := 74, nameIndex := 154, descriptorIndex := 155, attributes := #[] }, { accessFlags := 10, nameIndex := 217, descriptorIndex := 218, attributes := #[] }, { accessFlags := 10, nameIndex := 221, descriptorIndex := 222, attributes := #[] }, { accessFlags := 8, nameIndex := 562, descriptorIndex := 563, attributes := #[] }])
  fields := #[{ name := "in", type := (.object "java/io/InputStream"), accessFlags := 25, slot := 0, constantValue := 0 }, { name := "out", type := (.object "java/io/PrintStream"), accessFlags := 25, slot := 1, constantValue := 0 }, { name := "err", type := (.object "java/io/PrintStream"), accessFlags := 25, slot := 2, constantValue := 0 }, { name := "initialIn", type := (.object "java/io/InputStream"), accessFlags := 10, slot := 3, constantValue := 0 }, { name := "NEVER", type := .int, accessFlags := 26, slot := 4, constantValue := 0 }, { name := "MAYBE", type := .int, accessFlags := 26, slot := 5, constantValue := 0 }, { name := "allowSecurityManager", type := .int, accessFlags := 10, slot := 6, constantValue := 0 }, { name := "security", type := (.object "java/lang/SecurityManager"), accessFlags := 74, slot := 7, constantValue := 0 }, { name := "notSupportedJnuEncoding", type := (.object "java/lang/String"), accessFlags := 10, slot := 8, constantValue := 0 }, { name := "cons", type := (.object "java/io/Console"), accessFlags := 74, slot := 9, constantValue := 0 }, { name := "initialErrStream", type := (.object "java/io/PrintStream"), accessFlags := 74, slot := 10, constantValue := 0 }, { name := "props", type := (.object "java/util/Properties"), accessFlags := 10, slot := 11, constantValue := 0 }, { name := "lineSeparator", type := (.object "java/lang/String"), accessFlags := 10, slot := 12, constantValue := 0 }, { name := "bootLayer", type := (.object "java/lang/ModuleLayer"), accessFlags := 8, slot := 13, constantValue := 0 }]
  methods := #[k4m0, k4m1]
  instanceTypes := #[]
  staticTypes := #[(.object "java/io/InputStream"), (.object "java/io/PrintStream"), (.object "java/io/PrintStream"), (.object "java/io/InputStream"), .int, .int, .int, (.object "java/lang/SecurityManager"), (.object "java/lang/String"), (.object "java/io/Console"), (.object "java/io/PrintStream"), (.object "java/util/Properties"), (.object "java/lang/String"), (.object "java/lang/ModuleLayer")]
  resolved := Array.replicate 834 none
  statics := none }

def pool5 : Array CpInfo := pool [(1, u "java/lang/Cloneable"), (0, .class_ 1), (0, u "java/lang/Object"), (0, .class_ 3)] 3

/-- java/lang/Cloneable -/
def k5 : Class := { plain "java/lang/Cloneable" (some 0) with
  accessFlags := 1537
  interfaces := #[]
  cf := some (fileOf pool5 2 #[] #[] 1537 4 #[] #[])
  fields := #[]
  methods := #[]
  instanceTypes := #[]
  staticTypes := #[]
  resolved := Array.replicate 8 none
  statics := none }

def pool6 : Array CpInfo := pool [(1, u "java/io/Serializable"), (0, .class_ 1), (0, u "java/lang/Object"), (0, .class_ 3)] 3

/-- java/io/Serializable -/
def k6 : Class := { plain "java/io/Serializable" (some 0) with
  accessFlags := 1537
  interfaces := #[]
  cf := some (fileOf pool6 2 #[] #[] 1537 4 #[] #[])
  fields := #[]
  methods := #[]
  instanceTypes := #[]
  staticTypes := #[]
  resolved := Array.replicate 8 none
  statics := none }

/-- the primitive byte -/
def k7 : Class := { plain "byte" none with kind := .primitive 'B', accessFlags := 0x411 }
/-- [B -/
def k8 : Class := { plain "[B" (some 0) with kind := .array 7 .byte, interfaces := #[5, 6], accessFlags := 1041 }

/-- the primitive int -/
def k9 : Class := { plain "int" none with kind := .primitive 'I', accessFlags := 0x411 }
/-- [I -/
def k10 : Class := { plain "[I" (some 0) with kind := .array 9 .int, interfaces := #[5, 6], accessFlags := 1041 }

/-- the primitive long -/
def k11 : Class := { plain "long" none with kind := .primitive 'J', accessFlags := 0x411 }
/-- [J -/
def k12 : Class := { plain "[J" (some 0) with kind := .array 11 .long, interfaces := #[5, 6], accessFlags := 1041 }

def heap : Heap := #[{ cls := 3, slots := #[.long 0, .int 0, .ref 1], vm := .statics 3 },
  { cls := 12, slots := #[], vm := .none }]
def classes : Array Class := #[k0, k1, k2, k3, k4, k5, k6, k7, k8, k9, k10, k11, k12]
def interned : List (Array UInt16 × Addr) := []
def slotsUsed : Nat := 3
def theMethod : MethodId := ⟨1, 1⟩
def args0 : Array Value := #[.long 5, .long 5, .long 5, .long 5, .int 5]
def aboutOver (below : List Frame) : State where
  vm := { classes := classes, interned := interned.toArray }
  heap := heap
  slotsUsed := slotsUsed
  threads := #[{ frames := .invoking theMethod args0 :: below }]
def below0 : List Frame := [.native { method := ⟨0, 0⟩, args := #[] }]
def about1 : State := aboutOver below0
def p0 : Program := .bare "" "" ""
def e0 : Env := launch0.env 0 0 0
theorem w_frames : about1.frames = Frame.invoking theMethod args0 :: below0 := rfl
set_option maxRecDepth 65536 in
theorem w_args : argsFit about1.vm theMethod args0 = true := by decide +kernel
set_option maxRecDepth 65536 in
theorem w_heap : heapFits about1 = true := by decide +kernel
set_option maxRecDepth 65536 in
theorem w_runnable : about1.curStatus? = some .runnable := by decide +kernel
set_option maxRecDepth 65536 in
theorem w_alone : about1.alone = true := by decide +kernel
set_option maxRecDepth 65536 in
theorem w_named : about1.methodNamed? x = some theMethod := by decide +kernel
set_option maxRecDepth 65536 in
theorem w_hears : about1.hears theMethod below0 = true := by decide +kernel
set_option maxRecDepth 65536 in
theorem w_ripe : about1.ripe theMethod args0 below0 = true := by decide +kernel
theorem w_running : about1.status = .running := rfl
set_option maxRecDepth 65536 in
theorem w_room : about1.hasRoom e0.platform room_1 = true :=
  launch0.hasRoom_least _ room_1 (by decide +kernel) (by decide +kernel) (by decide +kernel) (by decide +kernel) (by decide +kernel) (by decide +kernel)
theorem allAtoms_all (ts : List Jvm.Cond) (a : Array Jvm.Value) (st : Jvm.State) : (allAtoms ts).before a st = ts.all (fun c => c.before a st) := by
  induction ts with
  | nil => rfl
  | cons c t ih =>
    show (Jvm.Cond.and c (allAtoms t)).before a st = _
    rw [Jvm.Cond.before_and, ih, List.all_cons]
def words1 : List Jvm.Cond := Jvm.Cond.code x code maxLocals ret :: tables_1
/-- a 'code' word, met by the world's own term for the bytes: nothing is compared byte by byte -/
theorem code_word {y : MethodName} {bytes : ByteArray} {mx : Nat} {rt : Option FieldType} {a : Array Value} {s : State} {m : MethodId} {meth : Method} {c : Code} (h1 : s.methodNamed? y = some m) (h2 : s.vm.method? m = some meth) (h3 : meth.code = some c) (h4 : c.code = bytes)
    (h5 : (c.maxLocals == mx && c.exceptionTable.isEmpty && decide (c.maxStack ≤ mostOperands) && decide (meth.sig.returnType = rt) && !meth.locks && decide (parseMethodDescriptor y.desc = some meth.sig)) = true) : (Jvm.Cond.code y bytes mx rt).before a s = true := by
  simp only [Bool.and_eq_true, beq_iff_eq, Bool.not_eq_true', decide_eq_true_eq] at h5
  obtain ⟨⟨⟨⟨⟨g1, g2⟩, g3⟩, g4⟩, g5⟩, g6⟩ := h5
  simp [Cond.before, Cond.holds, Cond.value, h1, h2, h3, h4, g1, g2, g3, g4, g5, g6]
def isCode : Jvm.Cond → Bool
  | .code _ _ _ _ => true
  | _ => false
theorem all_split {L : List Jvm.Cond} {P : Jvm.Cond → Bool} (h1 : L.all (fun c => isCode c || P c) = true) (h2 : ∀ c ∈ L.filter isCode, P c = true) : L.all P = true := by
  refine List.all_eq_true.mpr fun c hc => ?_
  have h := List.all_eq_true.mp h1 c hc
  rcases Bool.eq_false_or_eq_true (isCode c) with hi | hi
  · exact h2 c (List.mem_filter.mpr ⟨hc, hi⟩)
  · simpa [hi] using h
set_option maxRecDepth 65536 in
theorem w_c0 : (Jvm.Cond.code x code maxLocals ret).before args0 about1 = true := code_word (m := ⟨1, 1⟩) (meth := k1m1) (c := k1c1) (by decide +kernel) rfl rfl rfl (by decide +kernel)
set_option maxRecDepth 65536 in
theorem w_c1 : (Jvm.Cond.code ({ cls := "java/lang/Math", name := "min", desc := "(JJ)J" } : Jvm.MethodName) jdk_29_method_70_code (4 : Nat) (Option.some Jvm.ClassFile.FieldType.long)).before args0 about1 = true := code_word (m := ⟨2, 3⟩) (meth := k2m3) (c := k2c3) (by decide +kernel) rfl rfl rfl (by decide +kernel)
set_option maxRecDepth 65536 in
theorem w_c2 : (Jvm.Cond.code ({ cls := "java/lang/Math", name := "max", desc := "(JJ)J" } : Jvm.MethodName) jdk_29_method_66_code (4 : Nat) (Option.some Jvm.ClassFile.FieldType.long)).before args0 about1 = true := code_word (m := ⟨2, 2⟩) (meth := k2m2) (c := k2c2) (by decide +kernel) rfl rfl rfl (by decide +kernel)
set_option maxRecDepth 65536 in
theorem w_c3 : (Jvm.Cond.code ({ cls := "com/example/meter/meter/store/Spans", name := "<init>", desc := "()V" } : Jvm.MethodName) prog_11_method_1_code (1 : Nat) (Option.none : Option Jvm.ClassFile.FieldType)).before args0 about1 = true := code_word (m := ⟨3, 0⟩) (meth := k3m0) (c := k3c0) (by decide +kernel) rfl rfl rfl (by decide +kernel)
set_option maxRecDepth 65536 in
theorem w_c4 : (Jvm.Cond.code ({ cls := "java/lang/Object", name := "<init>", desc := "()V" } : Jvm.MethodName) object_method_1_code (1 : Nat) (Option.none : Option Jvm.ClassFile.FieldType)).before args0 about1 = true := code_word (m := ⟨0, 0⟩) (meth := k0m0) (c := k0c0) (by decide +kernel) rfl rfl rfl (by decide +kernel)
set_option maxRecDepth 65536 in
theorem w_c5 : (Jvm.Cond.code ({ cls := "com/example/meter/meter/store/Spans", name := "endsAfter", desc := "(J)Z" } : Jvm.MethodName) prog_11_method_8_code (3 : Nat) (Option.some Jvm.ClassFile.FieldType.boolean)).before args0 about1 = true := code_word (m := ⟨3, 1⟩) (meth := k3m1) (c := k3c1) (by decide +kernel) rfl rfl rfl (by decide +kernel)
set_option maxRecDepth 65536 in
theorem w_c6 : (Jvm.Cond.code ({ cls := "com/example/meter/meter/store/Spans", name := "append", desc := "(JJ)V" } : Jvm.MethodName) prog_11_method_9_code (5 : Nat) (Option.none : Option Jvm.ClassFile.FieldType)).before args0 about1 = true := code_word (m := ⟨3, 2⟩) (meth := k3m2) (c := k3c2) (by decide +kernel) rfl rfl rfl (by decide +kernel)
set_option maxRecDepth 65536 in
theorem w_c7 : (Jvm.Cond.code ({ cls := "com/example/meter/meter/store/Spans", name := "makeRoom", desc := "()V" } : Jvm.MethodName) prog_11_method_15_code (4 : Nat) (Option.none : Option Jvm.ClassFile.FieldType)).before args0 about1 = true := code_word (m := ⟨3, 5⟩) (meth := k3m5) (c := k3c5) (by decide +kernel) rfl rfl rfl (by decide +kernel)
set_option maxRecDepth 65536 in
theorem w_c8 : (Jvm.Cond.code ({ cls := "java/lang/Math", name := "max", desc := "(II)I" } : Jvm.MethodName) jdk_29_method_65_code (2 : Nat) (Option.some Jvm.ClassFile.FieldType.int)).before args0 about1 = true := code_word (m := ⟨2, 1⟩) (meth := k2m1) (c := k2c1) (by decide +kernel) rfl rfl rfl (by decide +kernel)
set_option maxRecDepth 65536 in
theorem w_c9 : (Jvm.Cond.code ({ cls := "com/example/meter/meter/store/Spans", name := "movedDown", desc := "([JI)[J" } : Jvm.MethodName) prog_11_method_16_code (4 : Nat) (Option.some (Jvm.ClassFile.FieldType.array Jvm.ClassFile.FieldType.long))).before args0 about1 = true := code_word (m := ⟨3, 6⟩) (meth := k3m6) (c := k3c6) (by decide +kernel) rfl rfl rfl (by decide +kernel)
set_option maxRecDepth 65536 in
theorem w_c10 : (Jvm.Cond.code ({ cls := "com/example/meter/meter/store/Spans", name := "totalBefore", desc := "(I)J" } : Jvm.MethodName) prog_11_method_14_code (2 : Nat) (Option.some Jvm.ClassFile.FieldType.long)).before args0 about1 = true := code_word (m := ⟨3, 4⟩) (meth := k3m4) (c := k3c4) (by decide +kernel) rfl rfl rfl (by decide +kernel)
set_option maxRecDepth 65536 in
theorem w_c11 : (Jvm.Cond.code ({ cls := "com/example/meter/meter/store/Spans", name := "dropThrough", desc := "(J)V" } : Jvm.MethodName) prog_11_method_10_code (3 : Nat) (Option.none : Option Jvm.ClassFile.FieldType)).before args0 about1 = true := code_word (m := ⟨3, 3⟩) (meth := k3m3) (c := k3c3) (by decide +kernel) rfl rfl rfl (by decide +kernel)
def codes1 : List Jvm.Cond := [Jvm.Cond.code x code maxLocals ret, Jvm.Cond.code ({ cls := "java/lang/Math", name := "min", desc := "(JJ)J" } : Jvm.MethodName) jdk_29_method_70_code (4 : Nat) (Option.some Jvm.ClassFile.FieldType.long), Jvm.Cond.code ({ cls := "java/lang/Math", name := "max", desc := "(JJ)J" } : Jvm.MethodName) jdk_29_method_66_code (4 : Nat) (Option.some Jvm.ClassFile.FieldType.long), Jvm.Cond.code ({ cls := "com/example/meter/meter/store/Spans", name := "<init>", desc := "()V" } : Jvm.MethodName) prog_11_method_1_code (1 : Nat) (Option.none : Option Jvm.ClassFile.FieldType), Jvm.Cond.code ({ cls := "java/lang/Object", name := "<init>", desc := "()V" } : Jvm.MethodName) object_method_1_code (1 : Nat) (Option.none : Option Jvm.ClassFile.FieldType), Jvm.Cond.code ({ cls := "com/example/meter/meter/store/Spans", name := "endsAfter", desc := "(J)Z" } : Jvm.MethodName) prog_11_method_8_code (3 : Nat) (Option.some Jvm.ClassFile.FieldType.boolean), Jvm.Cond.code ({ cls := "com/example/meter/meter/store/Spans", name := "append", desc := "(JJ)V" } : Jvm.MethodName) prog_11_method_9_code (5 : Nat) (Option.none : Option Jvm.ClassFile.FieldType), Jvm.Cond.code ({ cls := "com/example/meter/meter/store/Spans", name := "makeRoom", desc := "()V" } : Jvm.MethodName) prog_11_method_15_code (4 : Nat) (Option.none : Option Jvm.ClassFile.FieldType), Jvm.Cond.code ({ cls := "java/lang/Math", name := "max", desc := "(II)I" } : Jvm.MethodName) jdk_29_method_65_code (2 : Nat) (Option.some Jvm.ClassFile.FieldType.int), Jvm.Cond.code ({ cls := "com/example/meter/meter/store/Spans", name := "movedDown", desc := "([JI)[J" } : Jvm.MethodName) prog_11_method_16_code (4 : Nat) (Option.some (Jvm.ClassFile.FieldType.array Jvm.ClassFile.FieldType.long)), Jvm.Cond.code ({ cls := "com/example/meter/meter/store/Spans", name := "totalBefore", desc := "(I)J" } : Jvm.MethodName) prog_11_method_14_code (2 : Nat) (Option.some Jvm.ClassFile.FieldType.long), Jvm.Cond.code ({ cls := "com/example/meter/meter/store/Spans", name := "dropThrough", desc := "(J)V" } : Jvm.MethodName) prog_11_method_10_code (3 : Nat) (Option.none : Option Jvm.ClassFile.FieldType)]
set_option maxRecDepth 65536 in
theorem codes_eq : words1.filter isCode = codes1 := rfl
theorem w_codes : ∀ c ∈ words1.filter isCode, c.before args0 about1 = true := by
  rw [codes_eq]
  intro c hc
  simp only [codes1, List.mem_cons, List.not_mem_nil, or_false] at hc
  rcases hc with rfl | rfl | rfl | rfl | rfl | rfl | rfl | rfl | rfl | rfl | rfl | rfl
  · exact w_c0
  · exact w_c1
  · exact w_c2
  · exact w_c3
  · exact w_c4
  · exact w_c5
  · exact w_c6
  · exact w_c7
  · exact w_c8
  · exact w_c9
  · exact w_c10
  · exact w_c11
set_option maxRecDepth 65536 in
theorem w_t1 : (words1.take 24).all (fun c => isCode c || c.before args0 about1) = true := by decide +kernel
set_option maxRecDepth 65536 in
theorem w_t2 : ((words1.drop 24).take 24).all (fun c => isCode c || c.before args0 about1) = true := by decide +kernel
set_option maxRecDepth 65536 in
theorem w_t3 : ((words1.drop 24).drop 24).all (fun c => isCode c || c.before args0 about1) = true := by decide +kernel
theorem w_tables : (allAtoms (Jvm.Cond.code x code maxLocals ret :: tables_1)).before args0 about1 = true := by
  rw [allAtoms_all]
  show words1.all (fun c => c.before args0 about1) = true
  refine all_split ?_ w_codes
  rw [← List.take_append_drop 24 words1, List.all_append, w_t1, ← List.take_append_drop 24 (words1.drop 24), List.all_append, w_t2, w_t3]
  rfl
set_option maxRecDepth 65536 in
theorem w_case : (Jvm.Cond.and given_1 narrow_1).before args0 about1 = true := by decide +kernel
theorem w_applies : (headSpec (Jvm.Cond.code x code maxLocals ret :: tables_1) room_1).applies x e0.platform about1 = true :=
  (Spec.applies_iff w_frames).mpr ⟨w_running, w_runnable, w_alone, w_named, w_hears, w_ripe, w_room, w_tables⟩
theorem atStart : AtStart classFile x code maxLocals ret World_1 tables_1 room_1 Calls_1 rest_1 Pre_1 launch0 p0 e0 about1 theMethod args0 below0 :=
  ⟨lists_1, trivial, launch0.admits_env _ _ _, launch0.least_env, fairChoices_fair.cas, fairChoices_fair.clock, w_frames, w_args, w_heap, w_applies, trivial, trivial, w_case⟩
end start1
theorem witness_1 : WitnessClaimed_1 := ⟨start1.p0, start1.e0, start1.about1, start1.theMethod, start1.args0, start1.below0, start1.atStart⟩
end Jvm.Pilot.@@N@@
