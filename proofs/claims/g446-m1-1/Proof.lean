import JvmDerived
import JvmDerived.Pilot.@@N@@Statement
import JvmDerived.Pilot.@@N@@Code
set_option linter.unusedVariables false
set_option linter.unusedSimpArgs false
@@BLOCK:NumsL.lean.txt@@
namespace Jvm.Pilot.@@N@@
open Jvm Jvm.ClassFile Sem Op Lib Jvm.Free Jvm.Stand Jvm.LawKit Jvm.RoadKit Bundle Jvm.Pilot.@@N@@.Jvm.D
abbrev oI (x : Int32) : Slot := .val (.int x)
abbrev oJ (x : Int64) : Slot := .val (.long x)
abbrev oA (x : Addr) : Slot := .val (.ref x)
abbrev oN : Slot := .val .null
abbrev oU : Slot := .unset
abbrev oS : Slot := .second
theorem own_w {Z : State} {a0 : Array Value} (hw : ∀ d ∈ tables_1, d.before a0 Z = true) (i : Nat) {d : Jvm.Cond} (h : tables_1[i]? = some d) : d.before a0 Z = true := hw d (List.mem_of_getElem? h)
section Own
variable {p : Program} {l : Launch} {e : Env} {R : Room} {s : State} {m : MethodId} {args : Array Value} {below : List Frame} {meth : Method} {c : Code} {T : State} {locs : List Loc} {cells slots : Nat} {P : State → Outcome → Prop} {pc : Nat} {ls : Array Slot} {st : List Value} {Z : State} {a0 : Array Value} {h : Heap} {bytes : ByteArray}
/-- the run goes on from A and ends so that P holds -/
def Go (p : Program) (e : Env) (below : List Frame) (P : State → Outcome → Prop) (A : State) : Prop := ∃ s₂ o, Steps p.tables e below A s₂ ∧ P s₂ o
theorem own_go {A A' : State} (h : ∀ t, Steps p.tables e below A' t → Steps p.tables e below A t) (k : Go p e below P A') : Go p e below P A := by
  obtain ⟨s₂, o, h1, h2⟩ := k
  exact ⟨s₂, o, h _ h1, h2⟩
/-! loads, stores, constants -/
theorem own_iload_n (pc' : Nat) (X : Stand p l e R s m args below meth c T locs cells slots) (hx : p.tables.exec = Jvm.exec) (hby : c.code = bytes) {k : Fin 4} {v : Int32} (hd : decode bytes pc = .ok (.iload_n k, 1)) (hp : pc + 1 = pc') (hl : ls[k.val]? = some (.val (.int v))) (r : Go p e below P (T.setTop (mkF m pc' ls (.int v :: st)))) : Go p e below P (T.setTop (mkF m pc ls st)) := by
  subst hp; exact own_go (fun t q => XS.iloadN X.here hx rfl (hb hby hd) hl q) r
theorem own_iload (pc' : Nat) (X : Stand p l e R s m args below meth c T locs cells slots) (hx : p.tables.exec = Jvm.exec) (hby : c.code = bytes) {k : Nat} {v : Int32} (hd : decode bytes pc = .ok (.iload k, 2)) (hp : pc + 2 = pc') (hl : ls[k]? = some (.val (.int v))) (r : Go p e below P (T.setTop (mkF m pc' ls (.int v :: st)))) : Go p e below P (T.setTop (mkF m pc ls st)) := by
  subst hp; exact own_go (fun t q => XS.iload X.here hx rfl (hb hby hd) hl q) r
theorem own_lload_n (pc' : Nat) (X : Stand p l e R s m args below meth c T locs cells slots) (hx : p.tables.exec = Jvm.exec) (hby : c.code = bytes) {k : Fin 4} {v : Int64} (hd : decode bytes pc = .ok (.lload_n k, 1)) (hp : pc + 1 = pc') (hl : ls[k.val]? = some (.val (.long v))) (r : Go p e below P (T.setTop (mkF m pc' ls (.long v :: st)))) : Go p e below P (T.setTop (mkF m pc ls st)) := by
  subst hp; exact own_go (fun t q => XT.lloadN X.here hx rfl (hb hby hd) hl q) r
theorem own_lload (pc' : Nat) (X : Stand p l e R s m args below meth c T locs cells slots) (hx : p.tables.exec = Jvm.exec) (hby : c.code = bytes) {k : Nat} {v : Int64} (hd : decode bytes pc = .ok (.lload k, 2)) (hp : pc + 2 = pc') (hl : ls[k]? = some (.val (.long v))) (r : Go p e below P (T.setTop (mkF m pc' ls (.long v :: st)))) : Go p e below P (T.setTop (mkF m pc ls st)) := by
  subst hp; exact own_go (fun t q => XT.lload X.here hx rfl (hb hby hd) hl q) r
theorem own_aload_n (pc' : Nat) (X : Stand p l e R s m args below meth c T locs cells slots) (hx : p.tables.exec = Jvm.exec) (hby : c.code = bytes) {k : Fin 4} {v : Value} (hd : decode bytes pc = .ok (.aload_n k, 1)) (hp : pc + 1 = pc') (hl : ls[k.val]? = some (.val v)) (hv : v.isRef = true) (r : Go p e below P (T.setTop (mkF m pc' ls (v :: st)))) : Go p e below P (T.setTop (mkF m pc ls st)) := by
  subst hp; exact own_go (fun t q => XS.aloadN X.here hx rfl (hb hby hd) hl hv q) r
theorem own_aload (pc' : Nat) (X : Stand p l e R s m args below meth c T locs cells slots) (hx : p.tables.exec = Jvm.exec) (hby : c.code = bytes) {k : Nat} {v : Value} (hd : decode bytes pc = .ok (.aload k, 2)) (hp : pc + 2 = pc') (hl : ls[k]? = some (.val v)) (hv : v.isRef = true) (r : Go p e below P (T.setTop (mkF m pc' ls (v :: st)))) : Go p e below P (T.setTop (mkF m pc ls st)) := by
  subst hp; exact own_go (fun t q => XS.aload X.here hx rfl (hb hby hd) hl hv q) r
theorem own_istore_n (pc' : Nat) (l' : Array Slot) (X : Stand p l e R s m args below meth c T locs cells slots) (hx : p.tables.exec = Jvm.exec) (hby : c.code = bytes) {k : Fin 4} {v : Int32} (hd : decode bytes pc = .ok (.istore_n k, 1)) (hp : pc + 1 = pc') (hl : storeLocals ls k.val (.int v) = some l') (r : Go p e below P (T.setTop (mkF m pc' l' st))) : Go p e below P (T.setTop (mkF m pc ls (.int v :: st))) := by
  subst hp; exact own_go (fun t q => XS.istoreN X.here hx rfl (hb hby hd) rfl hl q) r
theorem own_istore (pc' : Nat) (l' : Array Slot) (X : Stand p l e R s m args below meth c T locs cells slots) (hx : p.tables.exec = Jvm.exec) (hby : c.code = bytes) {k : Nat} {v : Int32} (hd : decode bytes pc = .ok (.istore k, 2)) (hp : pc + 2 = pc') (hl : storeLocals ls k (.int v) = some l') (r : Go p e below P (T.setTop (mkF m pc' l' st))) : Go p e below P (T.setTop (mkF m pc ls (.int v :: st))) := by
  subst hp; exact own_go (fun t q => XS.istore X.here hx rfl (hb hby hd) rfl hl q) r
theorem own_lstore_n (pc' : Nat) (l' : Array Slot) (X : Stand p l e R s m args below meth c T locs cells slots) (hx : p.tables.exec = Jvm.exec) (hby : c.code = bytes) {k : Fin 4} {v : Int64} (hd : decode bytes pc = .ok (.lstore_n k, 1)) (hp : pc + 1 = pc') (hl : storeLocals ls k.val (.long v) = some l') (r : Go p e below P (T.setTop (mkF m pc' l' st))) : Go p e below P (T.setTop (mkF m pc ls (.long v :: st))) := by
  subst hp; exact own_go (fun t q => XT.lstoreN X.here hx rfl (hb hby hd) rfl hl q) r
theorem own_lstore (pc' : Nat) (l' : Array Slot) (X : Stand p l e R s m args below meth c T locs cells slots) (hx : p.tables.exec = Jvm.exec) (hby : c.code = bytes) {k : Nat} {v : Int64} (hd : decode bytes pc = .ok (.lstore k, 2)) (hp : pc + 2 = pc') (hl : storeLocals ls k (.long v) = some l') (r : Go p e below P (T.setTop (mkF m pc' l' st))) : Go p e below P (T.setTop (mkF m pc ls (.long v :: st))) := by
  subst hp; exact own_go (fun t q => XT.lstore X.here hx rfl (hb hby hd) rfl hl q) r
theorem own_astore_n (pc' : Nat) (l' : Array Slot) (X : Stand p l e R s m args below meth c T locs cells slots) (hx : p.tables.exec = Jvm.exec) (hby : c.code = bytes) {k : Fin 4} {v : Value} (hd : decode bytes pc = .ok (.astore_n k, 1)) (hp : pc + 1 = pc') (hv : v.isRef = true) (hl : storeLocals ls k.val v = some l') (r : Go p e below P (T.setTop (mkF m pc' l' st))) : Go p e below P (T.setTop (mkF m pc ls (v :: st))) := by
  subst hp; exact own_go (fun t q => XS.astoreN X.here hx rfl (hb hby hd) rfl hv hl q) r
theorem own_astore (pc' : Nat) (l' : Array Slot) (X : Stand p l e R s m args below meth c T locs cells slots) (hx : p.tables.exec = Jvm.exec) (hby : c.code = bytes) {k : Nat} {v : Value} (hd : decode bytes pc = .ok (.astore k, 2)) (hp : pc + 2 = pc') (hv : v.isRef = true) (hl : storeLocals ls k v = some l') (r : Go p e below P (T.setTop (mkF m pc' l' st))) : Go p e below P (T.setTop (mkF m pc ls (v :: st))) := by
  subst hp; exact own_go (fun t q => XS.astore X.here hx rfl (hb hby hd) rfl hv hl q) r
theorem own_iconst (pc' : Nat) (w : Int32) (X : Stand p l e R s m args below meth c T locs cells slots) (hx : p.tables.exec = Jvm.exec) (hby : c.code = bytes) {i : Int} (hd : decode bytes pc = .ok (.iconst i, 1)) (hp : pc + 1 = pc') (hw : Int32.ofInt i = w) (r : Go p e below P (T.setTop (mkF m pc' ls (.int w :: st)))) : Go p e below P (T.setTop (mkF m pc ls st)) := by
  subst hp hw; exact own_go (fun t q => XS.iconst X.here hx rfl (hb hby hd) q) r
theorem own_bipush (pc' : Nat) (w : Int32) (X : Stand p l e R s m args below meth c T locs cells slots) (hx : p.tables.exec = Jvm.exec) (hby : c.code = bytes) {i : Int} (hd : decode bytes pc = .ok (.bipush i, 2)) (hp : pc + 2 = pc') (hw : (Int8.ofInt i).toInt32 = w) (r : Go p e below P (T.setTop (mkF m pc' ls (.int w :: st)))) : Go p e below P (T.setTop (mkF m pc ls st)) := by
  subst hp hw; exact own_go (fun t q => XS.bipush X.here hx rfl (hb hby hd) q) r
theorem own_sipush (pc' : Nat) (w : Int32) (X : Stand p l e R s m args below meth c T locs cells slots) (hx : p.tables.exec = Jvm.exec) (hby : c.code = bytes) {i : Int} (hd : decode bytes pc = .ok (.sipush i, 3)) (hp : pc + 3 = pc') (hw : (Int16.ofInt i).toInt32 = w) (r : Go p e below P (T.setTop (mkF m pc' ls (.int w :: st)))) : Go p e below P (T.setTop (mkF m pc ls st)) := by
  subst hp hw; exact own_go (fun t q => XS.sipush X.here hx rfl (hb hby hd) q) r
theorem own_lconst (pc' : Nat) (w : Int64) (X : Stand p l e R s m args below meth c T locs cells slots) (hx : p.tables.exec = Jvm.exec) (hby : c.code = bytes) {k : Fin 2} (hd : decode bytes pc = .ok (.lconst k, 1)) (hp : pc + 1 = pc') (hw : Int64.ofNat k = w) (r : Go p e below P (T.setTop (mkF m pc' ls (.long w :: st)))) : Go p e below P (T.setTop (mkF m pc ls st)) := by
  subst hp hw; exact own_go (fun t q => XT.lconst X.here hx rfl (hb hby hd) q) r
theorem own_null (pc' : Nat) (X : Stand p l e R s m args below meth c T locs cells slots) (hx : p.tables.exec = Jvm.exec) (hby : c.code = bytes) (hd : decode bytes pc = .ok (.aconst_null, 1)) (hp : pc + 1 = pc') (r : Go p e below P (T.setTop (mkF m pc' ls (.null :: st)))) : Go p e below P (T.setTop (mkF m pc ls st)) := by
  subst hp; exact own_go (fun t q => XS.aconstNull X.here hx rfl (hb hby hd) q) r
theorem own_ldc (pc' : Nat) (X : Stand p l e R s m args below meth c T locs cells slots) (hx : p.tables.exec = Jvm.exec) (hby : c.code = bytes) (hZ : Z.Warmed39 s.vm) {own : String} {index : Nat} {v : Int32} (hown : s.vm.findClass own = some m.cls) (w : (Cond.constant own index v).before a0 Z = true) (hd : decode bytes pc = .ok (.ldc index, 2)) (hp : pc + 2 = pc') (r : Go p e below P (T.setTop (mkF m pc' ls (.int v :: st)))) : Go p e below P (T.setTop (mkF m pc ls st)) := by
  subst hp; exact own_go (fun t q => X.ldcI hx hown (mvT hZ w) rfl (hb hby hd) q) r
theorem own_ldc2 (pc' : Nat) (X : Stand p l e R s m args below meth c T locs cells slots) (hx : p.tables.exec = Jvm.exec) (hby : c.code = bytes) (hZ : Z.Warmed39 s.vm) {own : String} {index : Nat} {v : Int64} (hown : s.vm.findClass own = some m.cls) (w : (Cond.constantLong own index v).before a0 Z = true) (hd : decode bytes pc = .ok (.ldc2_w index, 3)) (hp : pc + 3 = pc') (r : Go p e below P (T.setTop (mkF m pc' ls (.long v :: st)))) : Go p e below P (T.setTop (mkF m pc ls st)) := by
  subst hp; exact own_go (fun t q => X.ldc2J hx hown (mvT hZ w) rfl (hb hby hd) q) r
/-! arithmetic -/
theorem own_iadd (pc' : Nat) (w : Int32) (X : Stand p l e R s m args below meth c T locs cells slots) (hx : p.tables.exec = Jvm.exec) (hby : c.code = bytes) {x y : Int32} (hd : decode bytes pc = .ok (.iadd, 1)) (hp : pc + 1 = pc') (hw : x + y = w) (r : Go p e below P (T.setTop (mkF m pc' ls (.int w :: st)))) : Go p e below P (T.setTop (mkF m pc ls (.int y :: .int x :: st))) := by
  subst hp hw; exact own_go (fun t q => XS.iadd X.here hx rfl (hb hby hd) rfl q) r
theorem own_isub (pc' : Nat) (w : Int32) (X : Stand p l e R s m args below meth c T locs cells slots) (hx : p.tables.exec = Jvm.exec) (hby : c.code = bytes) {x y : Int32} (hd : decode bytes pc = .ok (.isub, 1)) (hp : pc + 1 = pc') (hw : x - y = w) (r : Go p e below P (T.setTop (mkF m pc' ls (.int w :: st)))) : Go p e below P (T.setTop (mkF m pc ls (.int y :: .int x :: st))) := by
  subst hp hw; exact own_go (fun t q => XS.isub X.here hx rfl (hb hby hd) rfl q) r
theorem own_imul (pc' : Nat) (w : Int32) (X : Stand p l e R s m args below meth c T locs cells slots) (hx : p.tables.exec = Jvm.exec) (hby : c.code = bytes) {x y : Int32} (hd : decode bytes pc = .ok (.imul, 1)) (hp : pc + 1 = pc') (hw : x * y = w) (r : Go p e below P (T.setTop (mkF m pc' ls (.int w :: st)))) : Go p e below P (T.setTop (mkF m pc ls (.int y :: .int x :: st))) := by
  subst hp hw; exact own_go (fun t q => XS.imul X.here hx rfl (hb hby hd) rfl q) r
theorem own_idiv (pc' : Nat) (w : Int32) (X : Stand p l e R s m args below meth c T locs cells slots) (hx : p.tables.exec = Jvm.exec) (hby : c.code = bytes) {x y : Int32} (hd : decode bytes pc = .ok (.idiv, 1)) (hp : pc + 1 = pc') (hy : y ≠ 0) (hw : x / y = w) (r : Go p e below P (T.setTop (mkF m pc' ls (.int w :: st)))) : Go p e below P (T.setTop (mkF m pc ls (.int y :: .int x :: st))) := by
  subst hp hw; exact own_go (fun t q => XS.idiv X.here hx rfl (hb hby hd) rfl hy q) r
theorem own_irem (pc' : Nat) (w : Int32) (X : Stand p l e R s m args below meth c T locs cells slots) (hx : p.tables.exec = Jvm.exec) (hby : c.code = bytes) {x y : Int32} (hd : decode bytes pc = .ok (.irem, 1)) (hp : pc + 1 = pc') (hy : y ≠ 0) (hw : x % y = w) (r : Go p e below P (T.setTop (mkF m pc' ls (.int w :: st)))) : Go p e below P (T.setTop (mkF m pc ls (.int y :: .int x :: st))) := by
  subst hp hw; exact own_go (fun t q => iremM X hx rfl (hb hby hd) rfl hy q) r
theorem own_iand (pc' : Nat) (w : Int32) (X : Stand p l e R s m args below meth c T locs cells slots) (hx : p.tables.exec = Jvm.exec) (hby : c.code = bytes) {x y : Int32} (hd : decode bytes pc = .ok (.iand, 1)) (hp : pc + 1 = pc') (hw : x &&& y = w) (r : Go p e below P (T.setTop (mkF m pc' ls (.int w :: st)))) : Go p e below P (T.setTop (mkF m pc ls (.int y :: .int x :: st))) := by
  subst hp hw; exact own_go (fun t q => XS.iand X.here hx rfl (hb hby hd) rfl q) r
theorem own_ishr (pc' : Nat) (w : Int32) (X : Stand p l e R s m args below meth c T locs cells slots) (hx : p.tables.exec = Jvm.exec) (hby : c.code = bytes) {x y : Int32} (hd : decode bytes pc = .ok (.ishr, 1)) (hp : pc + 1 = pc') (hw : x >>> (y &&& 31) = w) (r : Go p e below P (T.setTop (mkF m pc' ls (.int w :: st)))) : Go p e below P (T.setTop (mkF m pc ls (.int y :: .int x :: st))) := by
  subst hp hw; exact own_go (fun t q => XT.ishr X.here hx rfl (hb hby hd) rfl q) r
theorem own_iushr (pc' : Nat) (w : Int32) (X : Stand p l e R s m args below meth c T locs cells slots) (hx : p.tables.exec = Jvm.exec) (hby : c.code = bytes) {x y : Int32} (hd : decode bytes pc = .ok (.iushr, 1)) (hp : pc + 1 = pc') (hw : XT.ushr x y = w) (r : Go p e below P (T.setTop (mkF m pc' ls (.int w :: st)))) : Go p e below P (T.setTop (mkF m pc ls (.int y :: .int x :: st))) := by
  subst hp hw; exact own_go (fun t q => XT.iushr X.here hx rfl (hb hby hd) rfl q) r
theorem own_ladd (pc' : Nat) (w : Int64) (X : Stand p l e R s m args below meth c T locs cells slots) (hx : p.tables.exec = Jvm.exec) (hby : c.code = bytes) {x y : Int64} (hd : decode bytes pc = .ok (.ladd, 1)) (hp : pc + 1 = pc') (hw : x + y = w) (r : Go p e below P (T.setTop (mkF m pc' ls (.long w :: st)))) : Go p e below P (T.setTop (mkF m pc ls (.long y :: .long x :: st))) := by
  subst hp hw; exact own_go (fun t q => XT.ladd X.here hx rfl (hb hby hd) rfl q) r
theorem own_lsub (pc' : Nat) (w : Int64) (X : Stand p l e R s m args below meth c T locs cells slots) (hx : p.tables.exec = Jvm.exec) (hby : c.code = bytes) {x y : Int64} (hd : decode bytes pc = .ok (.lsub, 1)) (hp : pc + 1 = pc') (hw : x - y = w) (r : Go p e below P (T.setTop (mkF m pc' ls (.long w :: st)))) : Go p e below P (T.setTop (mkF m pc ls (.long y :: .long x :: st))) := by
  subst hp hw; exact own_go (fun t q => XT.lsub X.here hx rfl (hb hby hd) rfl q) r
theorem own_lmul (pc' : Nat) (w : Int64) (X : Stand p l e R s m args below meth c T locs cells slots) (hx : p.tables.exec = Jvm.exec) (hby : c.code = bytes) {x y : Int64} (hd : decode bytes pc = .ok (.lmul, 1)) (hp : pc + 1 = pc') (hw : x * y = w) (r : Go p e below P (T.setTop (mkF m pc' ls (.long w :: st)))) : Go p e below P (T.setTop (mkF m pc ls (.long y :: .long x :: st))) := by
  subst hp hw; exact own_go (fun t q => XT.lmul X.here hx rfl (hb hby hd) rfl q) r
theorem own_ldiv (pc' : Nat) (w : Int64) (X : Stand p l e R s m args below meth c T locs cells slots) (hx : p.tables.exec = Jvm.exec) (hby : c.code = bytes) {x y : Int64} (hd : decode bytes pc = .ok (.ldiv, 1)) (hp : pc + 1 = pc') (hy : y ≠ 0) (hw : x / y = w) (r : Go p e below P (T.setTop (mkF m pc' ls (.long w :: st)))) : Go p e below P (T.setTop (mkF m pc ls (.long y :: .long x :: st))) := by
  subst hp hw; exact own_go (fun t q => XT.ldiv X.here hx rfl (hb hby hd) rfl hy q) r
theorem own_lrem (pc' : Nat) (w : Int64) (X : Stand p l e R s m args below meth c T locs cells slots) (hx : p.tables.exec = Jvm.exec) (hby : c.code = bytes) {x y : Int64} (hd : decode bytes pc = .ok (.lrem, 1)) (hp : pc + 1 = pc') (hy : y ≠ 0) (hw : x - (x / y) * y = w) (r : Go p e below P (T.setTop (mkF m pc' ls (.long w :: st)))) : Go p e below P (T.setTop (mkF m pc ls (.long y :: .long x :: st))) := by
  subst hp hw; exact own_go (fun t q => XT.lrem X.here hx rfl (hb hby hd) rfl hy q) r
theorem own_land (pc' : Nat) (w : Int64) (X : Stand p l e R s m args below meth c T locs cells slots) (hx : p.tables.exec = Jvm.exec) (hby : c.code = bytes) {x y : Int64} (hd : decode bytes pc = .ok (.land, 1)) (hp : pc + 1 = pc') (hw : x &&& y = w) (r : Go p e below P (T.setTop (mkF m pc' ls (.long w :: st)))) : Go p e below P (T.setTop (mkF m pc ls (.long y :: .long x :: st))) := by
  subst hp hw; exact own_go (fun t q => XT.land X.here hx rfl (hb hby hd) rfl q) r
theorem own_lushr (pc' : Nat) (w : Int64) (X : Stand p l e R s m args below meth c T locs cells slots) (hx : p.tables.exec = Jvm.exec) (hby : c.code = bytes) {x : Int64} {y : Int32} (hd : decode bytes pc = .ok (.lushr, 1)) (hp : pc + 1 = pc') (hw : XT.ushrL x y = w) (r : Go p e below P (T.setTop (mkF m pc' ls (.long w :: st)))) : Go p e below P (T.setTop (mkF m pc ls (.int y :: .long x :: st))) := by
  subst hp hw; exact own_go (fun t q => XT.lushr X.here hx rfl (hb hby hd) rfl q) r
theorem own_i2l (pc' : Nat) (w : Int64) (X : Stand p l e R s m args below meth c T locs cells slots) (hx : p.tables.exec = Jvm.exec) (hby : c.code = bytes) {x : Int32} (hd : decode bytes pc = .ok (.i2l, 1)) (hp : pc + 1 = pc') (hw : x.toInt64 = w) (r : Go p e below P (T.setTop (mkF m pc' ls (.long w :: st)))) : Go p e below P (T.setTop (mkF m pc ls (.int x :: st))) := by
  subst hp hw; exact own_go (fun t q => XT.i2l X.here hx rfl (hb hby hd) rfl q) r
theorem own_l2i (pc' : Nat) (w : Int32) (X : Stand p l e R s m args below meth c T locs cells slots) (hx : p.tables.exec = Jvm.exec) (hby : c.code = bytes) {x : Int64} (hd : decode bytes pc = .ok (.l2i, 1)) (hp : pc + 1 = pc') (hw : x.toInt32 = w) (r : Go p e below P (T.setTop (mkF m pc' ls (.int w :: st)))) : Go p e below P (T.setTop (mkF m pc ls (.long x :: st))) := by
  subst hp hw; exact own_go (fun t q => XT.l2i X.here hx rfl (hb hby hd) rfl q) r
theorem own_lcmp (pc' : Nat) (w : Int32) (X : Stand p l e R s m args below meth c T locs cells slots) (hx : p.tables.exec = Jvm.exec) (hby : c.code = bytes) {x y : Int64} (hd : decode bytes pc = .ok (.lcmp, 1)) (hp : pc + 1 = pc') (hw : XT.cmpL x y = w) (r : Go p e below P (T.setTop (mkF m pc' ls (.int w :: st)))) : Go p e below P (T.setTop (mkF m pc ls (.long y :: .long x :: st))) := by
  subst hp hw; exact own_go (fun t q => XT.lcmp X.here hx rfl (hb hby hd) rfl q) r
theorem own_iinc (pc' : Nat) (l' : Array Slot) (X : Stand p l e R s m args below meth c T locs cells slots) (hx : p.tables.exec = Jvm.exec) (hby : c.code = bytes) {k : Nat} {i : Int} {x : Int32} (hd : decode bytes pc = .ok (.iinc k i, 3)) (hp : pc + 3 = pc') (hl : ls[k]? = some (.val (.int x))) (hl' : storeLocals ls k (.int (x + Int32.ofInt i)) = some l') (r : Go p e below P (T.setTop (mkF m pc' l' st))) : Go p e below P (T.setTop (mkF m pc ls st)) := by
  subst hp; exact own_go (fun t q => XS.iinc X.here hx rfl (hb hby hd) hl hl' q) r
theorem own_dup (pc' : Nat) (X : Stand p l e R s m args below meth c T locs cells slots) (hx : p.tables.exec = Jvm.exec) (hby : c.code = bytes) {v : Value} (hd : decode bytes pc = .ok (.dup, 1)) (hp : pc + 1 = pc') (hc : v.category = 1) (r : Go p e below P (T.setTop (mkF m pc' ls (v :: v :: st)))) : Go p e below P (T.setTop (mkF m pc ls (v :: st))) := by
  subst hp; exact own_go (fun t q => XS.dup X.here hx rfl (hb hby hd) rfl hc q) r
theorem own_pop (pc' : Nat) (X : Stand p l e R s m args below meth c T locs cells slots) (hx : p.tables.exec = Jvm.exec) (hby : c.code = bytes) {v : Value} (hd : decode bytes pc = .ok (.pop, 1)) (hp : pc + 1 = pc') (hc : v.category = 1) (r : Go p e below P (T.setTop (mkF m pc' ls st))) : Go p e below P (T.setTop (mkF m pc ls (v :: st))) := by
  subst hp; exact own_go (fun t q => XT.pop X.here hx rfl (hb hby hd) rfl hc q) r
/-! branches -/
theorem own_goto (pc' : Nat) (X : Stand p l e R s m args below meth c T locs cells slots) (hx : p.tables.exec = Jvm.exec) (hby : c.code = bytes) {o : Int} (hd : decode bytes pc = .ok (.goto o, 3)) (ho : 0 ≤ (pc : Int) + o) (hp : ((pc : Int) + o).toNat = pc') (r : Go p e below P (T.setTop (mkF m pc' ls st))) : Go p e below P (T.setTop (mkF m pc ls st)) :=
  own_go (fun t q => XS.goto X.here hx rfl rfl (hb hby hd) ho hp q) r
theorem own_ifY (pc' : Nat) (X : Stand p l e R s m args below meth c T locs cells slots) (hx : p.tables.exec = Jvm.exec) (hby : c.code = bytes) {cd : ClassFile.Cond} {x : Int32} {o : Int} (hd : decode bytes pc = .ok (.ifCond cd o, 3)) (ho : 0 ≤ (pc : Int) + o) (hp : ((pc : Int) + o).toNat = pc') (hc : ifCond.holds cd x = true) (r : Go p e below P (T.setTop (mkF m pc' ls st))) : Go p e below P (T.setTop (mkF m pc ls (.int x :: st))) :=
  own_go (fun t q => XS.ifYes X.here hx rfl rfl (hb hby hd) rfl hc ho hp q) r
theorem own_ifN (pc' : Nat) (X : Stand p l e R s m args below meth c T locs cells slots) (hx : p.tables.exec = Jvm.exec) (hby : c.code = bytes) {cd : ClassFile.Cond} {x : Int32} {o : Int} (hd : decode bytes pc = .ok (.ifCond cd o, 3)) (hp : pc + 3 = pc') (hc : ifCond.holds cd x = false) (r : Go p e below P (T.setTop (mkF m pc' ls st))) : Go p e below P (T.setTop (mkF m pc ls (.int x :: st))) := by
  subst hp; exact own_go (fun t q => XS.ifNo X.here hx rfl (hb hby hd) rfl hc q) r
theorem own_icY (pc' : Nat) (X : Stand p l e R s m args below meth c T locs cells slots) (hx : p.tables.exec = Jvm.exec) (hby : c.code = bytes) {cd : ClassFile.Cond} {x y : Int32} {o : Int} (hd : decode bytes pc = .ok (.if_icmp cd o, 3)) (ho : 0 ≤ (pc : Int) + o) (hp : ((pc : Int) + o).toNat = pc') (hc : if_icmp.holds cd x y = true) (r : Go p e below P (T.setTop (mkF m pc' ls st))) : Go p e below P (T.setTop (mkF m pc ls (.int y :: .int x :: st))) :=
  own_go (fun t q => XS.icmpYes X.here hx rfl rfl (hb hby hd) rfl hc ho hp q) r
theorem own_icN (pc' : Nat) (X : Stand p l e R s m args below meth c T locs cells slots) (hx : p.tables.exec = Jvm.exec) (hby : c.code = bytes) {cd : ClassFile.Cond} {x y : Int32} {o : Int} (hd : decode bytes pc = .ok (.if_icmp cd o, 3)) (hp : pc + 3 = pc') (hc : if_icmp.holds cd x y = false) (r : Go p e below P (T.setTop (mkF m pc' ls st))) : Go p e below P (T.setTop (mkF m pc ls (.int y :: .int x :: st))) := by
  subst hp; exact own_go (fun t q => XS.icmpNo X.here hx rfl (hb hby hd) rfl hc q) r
theorem own_acmp (pc' : Nat) (same : Bool) (X : Stand p l e R s m args below meth c T locs cells slots) (hx : p.tables.exec = Jvm.exec) (hby : c.code = bytes) {cd : ACond} {x y : Value} {o : Int} (hd : decode bytes pc = .ok (.if_acmp cd o, 3)) (h1 : x.isRef = true) (h2 : y.isRef = true) (ho : 0 ≤ (pc : Int) + o) (hp : pc' = if acV cd same = true then ((pc : Int) + o).toNat else pc + 3) (hq : decide (x = y) = same) (r : Go p e below P (T.setTop (mkF m pc' ls st))) : Go p e below P (T.setTop (mkF m pc ls (y :: x :: st))) :=
  own_go (fun t q => Jvm.RoadKit.acmp X hx rfl h1 h2 rfl (hb hby hd) rfl hq ho hp q) r
theorem own_nullY (pc' : Nat) (X : Stand p l e R s m args below meth c T locs cells slots) (hx : p.tables.exec = Jvm.exec) (hby : c.code = bytes) {o : Int} (hd : decode bytes pc = .ok (.ifnull o, 3)) (ho : 0 ≤ (pc : Int) + o) (hp : ((pc : Int) + o).toNat = pc') (r : Go p e below P (T.setTop (mkF m pc' ls st))) : Go p e below P (T.setTop (mkF m pc ls (.null :: st))) :=
  own_go (fun t q => XS.ifnullYes X.here hx rfl rfl (hb hby hd) rfl ho hp q) r
theorem own_nullN (pc' : Nat) (X : Stand p l e R s m args below meth c T locs cells slots) (hx : p.tables.exec = Jvm.exec) (hby : c.code = bytes) {o : Int} {b : Addr} (hd : decode bytes pc = .ok (.ifnull o, 3)) (hp : pc + 3 = pc') (r : Go p e below P (T.setTop (mkF m pc' ls st))) : Go p e below P (T.setTop (mkF m pc ls (.ref b :: st))) := by
  subst hp; exact own_go (fun t q => XS.ifnullNo X.here hx rfl (hb hby hd) rfl q) r
theorem own_nnY (pc' : Nat) (X : Stand p l e R s m args below meth c T locs cells slots) (hx : p.tables.exec = Jvm.exec) (hby : c.code = bytes) {o : Int} {b : Addr} (hd : decode bytes pc = .ok (.ifnonnull o, 3)) (ho : 0 ≤ (pc : Int) + o) (hp : ((pc : Int) + o).toNat = pc') (r : Go p e below P (T.setTop (mkF m pc' ls st))) : Go p e below P (T.setTop (mkF m pc ls (.ref b :: st))) :=
  own_go (fun t q => XT.ifnonnullYes X.here hx rfl rfl (hb hby hd) rfl ho hp q) r
theorem own_nnN (pc' : Nat) (X : Stand p l e R s m args below meth c T locs cells slots) (hx : p.tables.exec = Jvm.exec) (hby : c.code = bytes) {o : Int} (hd : decode bytes pc = .ok (.ifnonnull o, 3)) (hp : pc + 3 = pc') (r : Go p e below P (T.setTop (mkF m pc' ls st))) : Go p e below P (T.setTop (mkF m pc ls (.null :: st))) := by
  subst hp; exact own_go (fun t q => XT.ifnonnullNo X.here hx rfl (hb hby hd) rfl q) r
/-! what lcmp and a branch behind it say -/
theorem own_tltL {x y : Int64} (h : x < y) : ifCond.holds .lt (XT.cmpL x y) = true ∧ ifCond.holds .ge (XT.cmpL x y) = false ∧ ifCond.holds .gt (XT.cmpL y x) = true ∧ ifCond.holds .le (XT.cmpL y x) = false := by
  have h1 : ¬ y < x := fun q => absurd h (Int64.lt_asymm q)
  have h2 : ¬ x = y := fun q => absurd (q ▸ h) Int64.lt_irrefl
  have h3 : ¬ y = x := fun q => h2 q.symm
  simp only [XT.cmpL, h, h1, h2, h3, if_true, if_false]
  decide
theorem own_fltL {x y : Int64} (h : ¬ x < y) : ifCond.holds .lt (XT.cmpL x y) = false ∧ ifCond.holds .ge (XT.cmpL x y) = true ∧ ifCond.holds .gt (XT.cmpL y x) = false ∧ ifCond.holds .le (XT.cmpL y x) = true := by
  by_cases q : x = y
  · subst q
    simp only [XT.cmpL, h, if_true, if_false]
    decide
  · have h1 : y < x := by
      rw [Int64.lt_iff_toInt_lt] at h ⊢
      have : x.toInt ≠ y.toInt := fun z => q (Int64.toInt_inj.mp z)
      omega
    have h3 : ¬ y = x := fun z => q z.symm
    simp only [XT.cmpL, h, h1, q, h3, if_true, if_false]
    decide
theorem own_teqL {x y : Int64} (h : x = y) : ifCond.holds .eq (XT.cmpL x y) = true ∧ ifCond.holds .ne (XT.cmpL x y) = false := by
  subst h
  simp only [XT.cmpL, Int64.lt_irrefl, if_true, if_false]
  decide
theorem own_feqL {x y : Int64} (h : ¬ x = y) : ifCond.holds .eq (XT.cmpL x y) = false ∧ ifCond.holds .ne (XT.cmpL x y) = true := by
  by_cases q : y < x
  · simp only [XT.cmpL, q, if_true]
    decide
  · simp only [XT.cmpL, q, h, if_false]
    decide
/-! fields, statics -/
theorem own_getS (pc' : Nat) (X : Stand p l e R s m args below meth c T locs cells slots) (hx : p.tables.exec = Jvm.exec) (hby : c.code = bytes) (hZ : Z.Warmed39 s.vm) {own O n d : String} {index : Nat} (hown : s.vm.findClass own = some m.cls) (w : (Cond.fieldLink own index O n d).before a0 Z = true) (eT : T.heap = h) {v : Value} (F : Sta Z h O n d v) (hd : decode bytes pc = .ok (.getstatic index, 3)) (hp : pc + 3 = pc')
    (r : ∀ T', Stand p l e R s m args below meth c T' locs cells slots → T'.heap = h → Go p e below P (T'.setTop (mkF m pc' ls (v :: st)))) : Go p e below P (T.setTop (mkF m pc ls st)) := by
  subst hp
  obtain ⟨T', X', e', q⟩ := getS2 X hx hZ hown (host := "") (Or.inl w) Via.refl eT F (g := mkF m pc ls st) rfl (hb hby hd)
  exact own_go q (r T' X' e')
theorem own_getSN (pc' : Nat) (X : Stand p l e R s m args below meth c T locs cells slots) (hx : p.tables.exec = Jvm.exec) (hby : c.code = bytes) (hZ : Z.Warmed39 s.vm) {own O n d host : String} {index : Nat} (hown : s.vm.findClass own = some m.cls) (w : (Cond.fieldLinkNest own index O n d host).before a0 Z = true) (eT : T.heap = h) {v : Value} (F : Sta Z h O n d v) (hd : decode bytes pc = .ok (.getstatic index, 3)) (hp : pc + 3 = pc')
    (r : ∀ T', Stand p l e R s m args below meth c T' locs cells slots → T'.heap = h → Go p e below P (T'.setTop (mkF m pc' ls (v :: st)))) : Go p e below P (T.setTop (mkF m pc ls st)) := by
  subst hp
  obtain ⟨T', X', e', q⟩ := getS2 X hx hZ hown (Or.inr w) Via.refl eT F (g := mkF m pc ls st) rfl (hb hby hd)
  exact own_go q (r T' X' e')
theorem own_getF (pc' : Nat) (X : Stand p l e R s m args below meth c T locs cells slots) (hx : p.tables.exec = Jvm.exec) (hby : c.code = bytes) (hZ : Z.Warmed39 s.vm) {own O n d : String} {index : Nat} (hown : s.vm.findClass own = some m.cls) (w : (Cond.fieldLink own index O n d).before a0 Z = true) (eT : T.heap = h) {a : Addr} {v : Value} (F : Fld Z h a O n d v) (hd : decode bytes pc = .ok (.getfield index, 3)) (hp : pc + 3 = pc')
    (r : ∀ T', Stand p l e R s m args below meth c T' locs cells slots → T'.heap = h → Go p e below P (T'.setTop (mkF m pc' ls (v :: st)))) : Go p e below P (T.setTop (mkF m pc ls (.ref a :: st))) := by
  subst hp
  obtain ⟨T', X', e', q⟩ := getF X hx hZ hown (host := "") (Or.inl w) Via.refl eT F (g := mkF m pc ls (.ref a :: st)) rfl rfl (hb hby hd)
  exact own_go q (r T' X' e')
/-! arrays -/
theorem own_n0 {n0 : Nat} (O : Old Z n0 h) : n0 ≤ h.size := O.1 ▸ O.2.1
theorem own_newR (pc' : Nat) (N : Nat) (X : Stand p l e R s m args below meth c T locs cells slots) (hx : p.tables.exec = Jvm.exec) (hby : c.code = bytes) (hZ : Z.Warmed39 s.vm) {own C : String} {index : Nat} (hown : s.vm.findClass own = some m.cls) (w1 : (Cond.classLink own index C).before a0 Z = true) (w2 : (Cond.arrayOver (.object C)).before a0 Z = true) (eT : T.heap = h)
    (hd : decode bytes pc = .ok (.anewarray index, 3)) (hp : pc + 3 = pc') {n : Int32} (hn : ¬ n < 0) (hcap : n.toNatClampNeg ≤ N) (hbig : N * 8 ≤ 536870912) (hc : cells + 1 ≤ R.cells) (hl : slots + N ≤ R.slots)
    (r : ∀ T' h' cA b, Stand p l e R s m args below meth c T' locs (cells + 1) (slots + N) → T'.heap = h' → Ext h h' → b = h.size → Arv Z h' b cA (.object C) n (List.replicate N .null) .null → Ovr Z cA C → Go p e below P (T'.setTop (mkF m pc' ls (.ref b :: st)))) : Go p e below P (T.setTop (mkF m pc ls (.int n :: st))) := by
  subst hp
  obtain ⟨T', h', cA, X', e', E', A', O', q⟩ := newR X hx hZ hown w1 w2 eT (g := mkF m pc ls (.int n :: st)) rfl (hb hby hd) rfl hn hcap hbig hc hl
  exact own_go q (r T' h' cA h.size X' e' E' rfl ((Arv.new A' hn).pad (pad_rep [] .null N)) O')
theorem own_newP (pc' : Nat) (N : Nat) {aty : ArrayType} (X : Stand p l e R s m args below meth c T locs cells slots) (hx : p.tables.exec = Jvm.exec) (hby : c.code = bytes) (hZ : Z.Warmed39 s.vm) (w : (Cond.arrayClass (newarray.typeOf aty)).before a0 Z = true) (eT : T.heap = h)
    (hd : decode bytes pc = .ok (.newarray aty, 2)) (hp : pc + 2 = pc') {n : Int32} (hn : ¬ n < 0) (hcap : n.toNatClampNeg ≤ N) (hbig : N * 8 ≤ 536870912) (hc : cells + 1 ≤ R.cells) (hl : slots + N ≤ R.slots)
    (r : ∀ T' h' cA b, Stand p l e R s m args below meth c T' locs (cells + 1) (slots + N) → T'.heap = h' → Ext h h' → b = h.size → Arv Z h' b cA (newarray.typeOf aty) n (List.replicate N (defaultValue (newarray.typeOf aty))) (defaultValue (newarray.typeOf aty)) → Go p e below P (T'.setTop (mkF m pc' ls (.ref b :: st)))) : Go p e below P (T.setTop (mkF m pc ls (.int n :: st))) := by
  subst hp
  obtain ⟨T', h', cA, X', e', E', A', q⟩ := newP X hx hZ w eT (g := mkF m pc ls (.int n :: st)) rfl (hb hby hd) rfl hn hcap hbig hc hl
  exact own_go q (r T' h' cA h.size X' e' E' rfl ((Arv.new A' hn).pad (pad_rep [] _ N)))
theorem own_stR (pc' : Nat) (i : Nat) (X : Stand p l e R s m args below meth c T locs cells slots) (hx : p.tables.exec = Jvm.exec) (hby : c.code = bytes) (hZ : Z.Warmed39 s.vm) (eT : T.heap = h) {a y : Addr} {cA : ClassId} {C : String} {n j : Int32} {vs : List Value} (V : Arv Z h a cA (.object C) n vs .null) (O : Ovr Z cA C) (I : Ins Z h y C true)
    (hd : decode bytes pc = .ok (.aastore, 1)) (hp : pc + 1 = pc') (hj : ¬ j < 0 ∧ j < n) (hi : j.toNatClampNeg = i) (hv : i < vs.length)
    (r : ∀ T' h', Stand p l e R s m args below meth c T' (locs ++ [⟨a, j.toNatClampNeg⟩]) cells slots → T'.heap = h' → Wr h h' a j.toNatClampNeg (.ref y) → Arv Z h' a cA (.object C) n (vs.set i (.ref y)) .null → Go p e below P (T'.setTop (mkF m pc' ls st))) : Go p e below P (T.setTop (mkF m pc ls (.ref y :: .int j :: .ref a :: st))) := by
  subst hp
  obtain ⟨cl, A, q1, S, q3, H, G⟩ := V
  obtain ⟨T', h', X', e', W', q⟩ := stR X hx hZ eT A (j := j) (inb_of S hj) rfl (Sto.ofV A q1 O I) (g := mkF m pc ls (.ref y :: .int j :: .ref a :: st)) rfl rfl (hb hby hd)
  exact own_go q (r T' h' X' e' W' (Arv.set A q1 S q3 H G rfl W' i hi hv))
theorem own_stZ (pc' : Nat) (i : Nat) (X : Stand p l e R s m args below meth c T locs cells slots) (hx : p.tables.exec = Jvm.exec) (hby : c.code = bytes) (hZ : Z.Warmed39 s.vm) (eT : T.heap = h) {a : Addr} {cA : ClassId} {n j x : Int32} {vs : List Value} {dv : Value} (V : Arv Z h a cA .boolean n vs dv)
    (hd : decode bytes pc = .ok (.bastore, 1)) (hp : pc + 1 = pc') (hj : ¬ j < 0 ∧ j < n) (hi : j.toNatClampNeg = i) (hv : i < vs.length) (hx1 : nar .boolean x = x)
    (r : ∀ T' h', Stand p l e R s m args below meth c T' (locs ++ [⟨a, j.toNatClampNeg⟩]) cells slots → T'.heap = h' → Wr h h' a j.toNatClampNeg (.int x) → Arv Z h' a cA .boolean n (vs.set i (.int x)) dv → Go p e below P (T'.setTop (mkF m pc' ls st))) : Go p e below P (T.setTop (mkF m pc ls (.int x :: .int j :: .ref a :: st))) := by
  subst hp
  obtain ⟨cl, A, q1, S, q3, H, G⟩ := V
  obtain ⟨T', h', X', e', W', q⟩ := stZ X hx hZ eT A (j := j) (x := x) (inb_of S hj) (g := mkF m pc ls (.int x :: .int j :: .ref a :: st)) rfl rfl (hb hby hd)
  rw [hx1] at W'
  exact own_go q (r T' h' X' e' W' (Arv.set A q1 S q3 H G (hx1 ▸ fits_nar_bool x) W' i hi hv))
theorem own_aaload (pc' : Nat) (v : Value) (X : Stand p l e R s m args below meth c T locs cells slots) (hx : p.tables.exec = Jvm.exec) (hby : c.code = bytes) (hZ : Z.Warmed39 s.vm) (eT : T.heap = h) {a : Addr} {cA : ClassId} {ty : FieldType} {n j : Int32} {vs : List Value} {dv : Value} (V : Arv Z h a cA ty n vs dv) (hty : ty.isReference = true)
    (hd : decode bytes pc = .ok (.aaload, 1)) (hp : pc + 1 = pc') (hj : ¬ j < 0 ∧ j < n) (hv : vs.getD j.toNatClampNeg dv = v)
    (r : Go p e below P (T.setTop (mkF m pc' ls (v :: st)))) : Go p e below P (T.setTop (mkF m pc ls (.int j :: .ref a :: st))) := by
  subst hp
  obtain ⟨cl, A, q1, S, q3, H, G⟩ := V
  exact own_go (fun t q => X.aaload hx (j := j) (v := v) (by rw [eT]; exact A.1) (State.isArrayOf_alike hZ.alike A.2.1) hty A.2.2 (inb_of S hj) (H.at (inb_of S hj) hv) (g := mkF m pc ls (.int j :: .ref a :: st)) rfl rfl (hb hby hd) t q) r
theorem own_zaload (pc' : Nat) (v : Value) (X : Stand p l e R s m args below meth c T locs cells slots) (hx : p.tables.exec = Jvm.exec) (hby : c.code = bytes) (hZ : Z.Warmed39 s.vm) (eT : T.heap = h) {a : Addr} {cA : ClassId} {n j : Int32} {vs : List Value} {dv : Value} (V : Arv Z h a cA .boolean n vs dv)
    (hd : decode bytes pc = .ok (.baload, 1)) (hp : pc + 1 = pc') (hj : ¬ j < 0 ∧ j < n) (hv : vs.getD j.toNatClampNeg dv = v)
    (r : Go p e below P (T.setTop (mkF m pc' ls (v :: st)))) : Go p e below P (T.setTop (mkF m pc ls (.int j :: .ref a :: st))) := by
  subst hp
  obtain ⟨cl, A, q1, S, q3, H, G⟩ := V
  exact own_go (fun t q => X.baloadBooleans hx (j := j) (v := v) (by rw [eT]; exact A.1) (State.isArrayOf_alike hZ.alike A.2.1) A.2.2 (inb_of S hj) (H.at (inb_of S hj) hv) (g := mkF m pc ls (.int j :: .ref a :: st)) rfl rfl (hb hby hd) t q) r
theorem own_len (pc' : Nat) (X : Stand p l e R s m args below meth c T locs cells slots) (hx : p.tables.exec = Jvm.exec) (hby : c.code = bytes) (hZ : Z.Warmed39 s.vm) (eT : T.heap = h) {a : Addr} {cA : ClassId} {ty : FieldType} {n : Int32} {vs : List Value} {dv : Value} (V : Arv Z h a cA ty n vs dv)
    (hd : decode bytes pc = .ok (.arraylength, 1)) (hp : pc + 1 = pc')
    (r : Go p e below P (T.setTop (mkF m pc' ls (.int n :: st)))) : Go p e below P (T.setTop (mkF m pc ls (.ref a :: st))) := by
  subst hp
  obtain ⟨cl, A, q1, S, q3, H, G⟩ := V
  rw [← len_of S q3] at r
  exact own_go (fun t q => X.arraylength hx (by rw [eT]; exact A.1) (State.isArrayOf_alike hZ.alike A.2.1) (g := mkF m pc ls (.ref a :: st)) rfl rfl (hb hby hd) t q) r
/-! calls -/
theorem own_callS (pc' : Nat) {h : Heap} {as' : Array Value} {rm : Room} {Q : Option Value → Heap → List Loc → Prop} {y : MethodName} {code' : ByteArray} {maxL : Nat} {ret' : Option FieldType}
    (hM : MetFree l y (head1 [Cond.code y code' maxL ret'] rm) (fun a U => a = as' ∧ Z.Warmed39 U.vm ∧ U.heap = h) (fun _ _ _ _ _ => True) (fun _ U o U' => ∃ v L, o = .returned v ∧ Q v U'.heap L ∧ FrameEnd U o U' L rm.cells rm.slots))
    (X : Stand p l e R s m args below meth c T locs cells slots) (hx : p.tables.exec = Jvm.exec) (hby : c.code = bytes) (hZ : Z.Warmed39 s.vm) {own : String} {index W : Nat} (hown : s.vm.findClass own = some m.cls)
    (w1 : (Cond.methodLink own index y).before a0 Z = true) (w2 : (Cond.static y).before a0 Z = true) (w3 : (Cond.initialized y.cls).before a0 Z = true) (w4 : (Cond.code y code' maxL ret').before a0 Z = true)
    (hy : y.cls ≠ "java/lang/invoke/MethodHandle" ∧ y.cls ≠ "java/lang/invoke/VarHandle") (hsz : ls.size = c.maxLocals) (argsL rest : List Value) {ps : List FieldType} {rt : Option FieldType} (hps : parseMethodDescriptor y.desc = some ⟨ps, rt⟩) (hlen : argsL.length = ps.length)
    (hd : decode bytes pc = .ok (.invokestatic index, 3)) (hp : pc + 3 = pc') (eT : T.heap = h) (hst : st = argsL.reverse ++ rest) (has : argsL.toArray = as') (hW : (rest.map fun v => v.category).sum = W)
    (hf : rm.frames + 1 ≤ R.frames) (hl : W + (maxL + 11) + rm.locals ≤ R.locals) (hc : cells + rm.cells ≤ R.cells) (hs : slots + rm.slots ≤ R.slots)
    (r : ∀ v T' L, Stand p l e R s m args below meth c T' (locs ++ L) (cells + rm.cells) (slots + rm.slots) → Q v T'.heap L → Go p e below P (T'.setTop (mkF m pc' ls (v.toList ++ rest)))) : Go p e below P (T.setTop (mkF m pc ls st)) := by
  subst hp
  obtain ⟨v, _, ⟨T', L', k', n'⟩, -, X', ⟨L, hQ, l1, l2, l3⟩, q⟩ := Jvm.LawKit.callS X hx hown (mvT hZ w1) (mvT hZ w2) (mvT hZ w3) (mvT hZ w4) hy (backOf (W := W) hM hZ w4 w3 hf hl) (g := mkF m pc ls st) rfl hsz (argsL := argsL) (rest := rest) (lenOf hps hlen) hst (by show 2 * 0 + _ ≤ _; omega) (hb hby hd) (fun _ _ => ⟨has, eT, hc, hs⟩)
  dsimp only [Pt.U, Pt.locs, Pt.cells, Pt.slots] at X' l1 l2 l3 q hQ
  subst l1 l2 l3
  exact own_go q (r v T' L X' hQ)
theorem own_virt (pc' : Nat) {h : Heap} {as' : Array Value} {rm : Room} {Q : Option Value → Heap → List Loc → Prop} {y z : MethodName} {code' : ByteArray} {maxL : Nat} {ret' : Option FieldType}
    (hM : MetFree l z (head1 [Cond.code z code' maxL ret'] rm) (fun a U => a = as' ∧ Z.Warmed39 U.vm ∧ U.heap = h) (fun _ _ _ _ _ => True) (fun _ U o U' => ∃ v L, o = .returned v ∧ Q v U'.heap L ∧ FrameEnd U o U' L rm.cells rm.slots))
    (X : Stand p l e R s m args below meth c T locs cells slots) (hx : p.tables.exec = Jvm.exec) (hby : c.code = bytes) (hZ : Z.Warmed39 s.vm) {own C : String} {index W : Nat} (hown : s.vm.findClass own = some m.cls)
    (w1 : (Cond.methodLink own index y).before a0 Z = true) (w2 : (Cond.declares y).before a0 Z = true) (nf : NotFace s y) (w3 : (Cond.selects C y z).before a0 Z = true) (w4 : (Cond.instanceMethod z).before a0 Z = true) (w5 : (Cond.initialized z.cls).before a0 Z = true) (w6 : (Cond.code z code' maxL ret').before a0 Z = true)
    (hy : y.cls ≠ "java/lang/invoke/MethodHandle" ∧ y.cls ≠ "java/lang/invoke/VarHandle") (hsz : ls.size = c.maxLocals) (b : Addr) (argsL rest : List Value) {ps : List FieldType} {rt : Option FieldType} (hps : parseMethodDescriptor y.desc = some ⟨ps, rt⟩) (hlen : argsL.length = ps.length)
    (hd : decode bytes pc = .ok (.invokevirtual index, 3)) (hp : pc + 3 = pc') (eT : T.heap = h) (E : Exa Z h b C) (hst : st = argsL.reverse ++ .ref b :: rest) (has : (.ref b :: argsL).toArray = as') (hW : (rest.map fun v => v.category).sum = W)
    (hf : rm.frames + 1 ≤ R.frames) (hl : W + (maxL + 11) + rm.locals ≤ R.locals) (hc : cells + rm.cells ≤ R.cells) (hs : slots + rm.slots ≤ R.slots)
    (r : ∀ v T' L, Stand p l e R s m args below meth c T' (locs ++ L) (cells + rm.cells) (slots + rm.slots) → Q v T'.heap L → Go p e below P (T'.setTop (mkF m pc' ls (v.toList ++ rest)))) : Go p e below P (T.setTop (mkF m pc ls st)) := by
  subst hp
  obtain ⟨cq, kq, q1, q2, q3⟩ := isOf (s := s) (T := T) hZ eT E
  obtain ⟨v, _, ⟨T', L', k', n'⟩, -, X', ⟨L, hQ, l1, l2, l3⟩, q⟩ := X.virtualBack hx hown (mvT hZ w1) (mvT hZ w2) nf (mvT hZ w3) (mvT hZ w4) hy (backOf (W := W) hM hZ w6 w5 hf hl) q1 q3 (g := mkF m pc ls st) rfl hsz (Steps.refl _) (argsL := argsL) (rest := rest) (lenOf hps hlen) hst (by show 2 * 0 + _ ≤ _; omega) (hb hby hd) (fun _ _ => ⟨has, eT, hc, hs⟩)
  dsimp only [Pt.U, Pt.locs, Pt.cells, Pt.slots] at X' l1 l2 l3 q hQ
  subst l1 l2 l3
  exact own_go (fun t k => q.trans k) (r v T' L X' hQ)
/-! the end of a walk -/
theorem own_ret {Q : Option Value → Heap → List Loc → Prop} {K N : Nat} {t : FieldType} {w : Value} {i : Instr} (X : Stand p l e R s m args below meth c T locs cells slots) (hx : p.tables.exec = Jvm.exec) (hby : c.code = bytes) (hret : meth.sig.returnType = some t) (hlocks : meth.locks = false)
    (hd : decode bytes pc = .ok (i, 1)) (hn : narrow t w = w)
    (hi : (i = .ireturn ∧ (t = .int ∨ t = .boolean ∨ t = .byte ∨ t = .char ∨ t = .short) ∧ ∃ z, w = .int z) ∨ (i = .lreturn ∧ t = .long ∧ ∃ z, w = .long z) ∨ (i = .dreturn ∧ t = .double ∧ ∃ z, w = .double z) ∨ (i = .freturn ∧ t = .float ∧ ∃ z, w = .float z) ∨ (i = .areturn ∧ t.isReference = true ∧ w.isRef = true))
    (hK : cells ≤ K) (hN : slots ≤ N) (hQ : Q (some w) T.heap locs) :
    Go p e below (fun s₂ o => s₂.status = .running ∧ Ended s₂ below o ∧ ∃ v L, o = .returned v ∧ Q v s₂.heap L ∧ FrameEnd s o s₂ L K N) (T.setTop (mkF m pc ls (w :: st))) := by
  obtain ⟨fs, hr, hrun, hended, hW, hsame⟩ := X.leave (v := some w) (fun h => by rw [hret] at h; cases h) hlocks
  exact ⟨_, _, retOut X hx hret hn hi (hb hby hd) hr, hrun, hended, _, _, rfl, hQ, ⟨_, rfl⟩, hW, hsame.mono hK hN⟩
theorem own_ret0 {Q : Option Value → Heap → List Loc → Prop} {K N : Nat} (X : Stand p l e R s m args below meth c T locs cells slots) (hx : p.tables.exec = Jvm.exec) (hby : c.code = bytes) (hret : meth.sig.returnType = none) (hlocks : meth.locks = false)
    (hd : decode bytes pc = .ok (.return_, 1)) (hK : cells ≤ K) (hN : slots ≤ N) (hQ : Q none T.heap locs) :
    Go p e below (fun s₂ o => s₂.status = .running ∧ Ended s₂ below o ∧ ∃ v L, o = .returned v ∧ Q v s₂.heap L ∧ FrameEnd s o s₂ L K N) (T.setTop (mkF m pc ls [])) := by
  obtain ⟨fs, hr, hrun, hended, hW, hsame⟩ := X.leave (v := none) (fun _ => rfl) hlocks
  exact ⟨_, _, X.returnOut hx hret (hb hby hd) hr, hrun, hended, _, _, rfl, hQ, ⟨_, rfl⟩, hW, hsame.mono hK hN⟩
/-! the case's words -/
theorem own_fld {Z : State} {args : Array Value} {t : Term} {C n d : String} {v : Int32} {x : Addr} (h : (Cond.eq (Term.field t C n d) (Term.int v)).value args Z none Z [] = some true) (ht : t.eval args Z none [] Z = some (.ref x)) : Fld Z Z.heap x C n d (.int v) :=
  Fld.start ((fld_at ht).symm.trans (eqv_i (Term.int_eval v) h))
theorem own_fldN {Z : State} {args : Array Value} {t : Term} {C n d : String} {x : Addr} (h : (Cond.eq (Term.field t C n d) Term.null).value args Z none Z [] = some true) (ht : t.eval args Z none [] Z = some (.ref x)) : Fld Z Z.heap x C n d .null :=
  Fld.start ((fld_at ht).symm.trans (null_v h))
theorem own_eqvR {Z : State} {args : Array Value} {X F : Term} {y : Addr} (hF : F.eval args Z none [] Z = some (.ref y)) (h : (Cond.eq X F).value args Z none Z [] = some true) : X.eval args Z none [] Z = some (.ref y) := by
  obtain ⟨x, y', e1, e2, k1, k2⟩ := cmp_v (Or.inl h)
  cases hF.symm.trans e2
  have hx : x.isRef = true := k2.2
  exact e1.trans (congrArg some (gotT (eq_R e1 hF hx rfl) h))
theorem own_fldR {Z : State} {args : Array Value} {t F : Term} {C n d : String} {x y : Addr} (h : (Cond.eq (Term.field t C n d) F).value args Z none Z [] = some true) (ht : t.eval args Z none [] Z = some (.ref x)) (hF : F.eval args Z none [] Z = some (.ref y)) : Fld Z Z.heap x C n d (.ref y) :=
  Fld.start ((fld_at ht).symm.trans (own_eqvR hF h))
theorem own_len_at {Z : State} {args : Array Value} {t : Term} {z : Int32} {a : Addr} {cl : Cell} (h : (Term.length t).eval args Z none [] Z = some (.int z)) (ht : t.eval args Z none [] Z = some (.ref a)) (ha : Z.arrayAt? a = some cl) : cl.slots.size < 2 ^ 31 ∧ cl.slots.size.toInt32 = z := by
  by_cases q : cl.slots.size < 2 ^ 31
  · refine ⟨q, ?_⟩
    rw [len_f ht ha q] at h
    exact Value.int.inj (Option.some.inj h)
  · exfalso
    simp [Term.eval, ht, ha, q] at h
/-- what a callee that writes nothing leaves -/
def own_Q (r : Option Value) (n0 : Nat) (h0 : Heap) (v : Option Value) (h : Heap) (L : List Loc) : Prop := v = r ∧ Fr n0 L ∧ h = h0
/-- what the law leaves -/
def own_Q1 (n0 : Nat) (v : Option Value) (h : Heap) (L : List Loc) : Prop := v = some (.int 1) ∧ Fr n0 L
end Own
/-! small facts on ints -/
theorem own_mask_nn (x : Int32) : 0 ≤ (x &&& 2147483647).toInt := by
  have h : (x &&& 2147483647).toInt = x.toInt % 2 ^ 31 := Jvm.Kit.i32_mask x 2147483647 (k := 31) (by decide) (by decide)
  omega
theorem own_mod_toInt (x y : Int32) (hy : 0 < y.toInt) (hx : 0 ≤ x.toInt) : (x % y).toInt = x.toInt % y.toInt := Jvm.Kit.i32_rem_nonneg hx
theorem own_and_toInt1 (x : Int32) : (x &&& 1).toInt = x.toInt % 2 := Jvm.Kit.i32_mask x 1 (k := 1) (by decide) (by decide)
theorem own_and_toInt3 (x : Int32) : (x &&& 3).toInt = x.toInt % 4 := Jvm.Kit.i32_mask x 3 (k := 2) (by decide) (by decide)
theorem own_and_toInt7 (x : Int32) : (x &&& 7).toInt = x.toInt % 8 := Jvm.Kit.i32_mask x 7 (k := 3) (by decide) (by decide)
theorem own_mkI (x m : Int32) (k : Nat) (hk : k < 32) (hm : m.toBitVec.toNat = 2 ^ k - 1) : 0 ≤ (x &&& m).toInt ∧ (x &&& m).toInt ≤ m.toInt := by
  have h1 := Jvm.Kit.i32_mask x m hk hm
  have h2 : m.toInt = 2 ^ k - 1 := by
    have h3 : m.toInt = (m.toBitVec).toInt := rfl
    have h4 : (2 : Nat) ^ k ≤ 2 ^ 31 := Nat.pow_le_pow_right (by decide) (by omega)
    rw [h3, BitVec.toInt_eq_toNat_cond, hm]
    have h5 : 0 < (2 : Nat) ^ k := Nat.pow_pos (by decide)
    have h6 : ((2 ^ k - 1 : Nat) : Int) = (2 : Int) ^ k - 1 := by
      rw [Int.natCast_sub h5]; simp
    split
    · exact h6
    · omega
  have h7 : (0 : Int) < 2 ^ k := Int.pow_pos (by decide)
  have h8 := Int.emod_nonneg x.toInt (Int.ne_of_gt h7)
  have h9 := Int.emod_lt_of_pos x.toInt h7
  omega
theorem own_mkJ (x m : Int64) (k : Nat) (hk : k < 64) (hm : m.toBitVec.toNat = 2 ^ k - 1) : 0 ≤ (x &&& m).toInt ∧ (x &&& m).toInt ≤ m.toInt := by
  have h1 := Jvm.Kit.i64_mask x m hk hm
  have h2 : m.toInt = 2 ^ k - 1 := by
    have h3 : m.toInt = (m.toBitVec).toInt := rfl
    have h4 : (2 : Nat) ^ k ≤ 2 ^ 63 := Nat.pow_le_pow_right (by decide) (by omega)
    rw [h3, BitVec.toInt_eq_toNat_cond, hm]
    have h5 : 0 < (2 : Nat) ^ k := Nat.pow_pos (by decide)
    have h6 : ((2 ^ k - 1 : Nat) : Int) = (2 : Int) ^ k - 1 := by
      rw [Int.natCast_sub h5]; simp
    split
    · exact h6
    · omega
  have h7 : (0 : Int) < 2 ^ k := Int.pow_pos (by decide)
  have h8 := Int.emod_nonneg x.toInt (Int.ne_of_gt h7)
  have h9 := Int.emod_lt_of_pos x.toInt h7
  omega
theorem own_rngI (x : Int32) : -2 ^ 31 ≤ x.toInt ∧ x.toInt < 2 ^ 31 := ⟨Int32.le_toInt x, Int32.toInt_lt x⟩
theorem own_rngJ (x : Int64) : -2 ^ 63 ≤ x.toInt ∧ x.toInt < 2 ^ 63 := ⟨Int64.le_toInt x, Int64.toInt_lt x⟩
theorem own_rmI {x : Int32} (hx : 0 ≤ x.toInt) (y : Int32) (hy : 0 < y.toInt) : 0 ≤ (x % y).toInt ∧ (x % y).toInt ≤ y.toInt - 1 := by
  rw [Jvm.Kit.i32_rem_nonneg hx]
  have h8 := Int.emod_nonneg x.toInt (Int.ne_of_gt hy)
  have h9 := Int.emod_lt_of_pos x.toInt hy
  omega
theorem own_rmJ (x y : Int64) (hy : 0 < y.toInt) : -(y.toInt - 1) ≤ (x - (x / y) * y).toInt ∧ (x - (x / y) * y).toInt ≤ y.toInt - 1 := by
  rw [Jvm.Kit.i64_rem]
  have h1 := Int.tmod_lt_of_pos x.toInt hy
  have h2 := Int.lt_tmod_of_pos x.toInt hy
  omega
theorem own_dvI {x : Int32} (hx : 0 ≤ x.toInt) (y : Int32) (hy : 0 < y.toInt) : (x / y).toInt = x.toInt / y.toInt := by
  rw [Jvm.Kit.i32_div (by omega), Int.tdiv_eq_ediv_of_nonneg hx]
theorem own_bdI {x a b : Int32} (h1 : ¬ (x < a)) (h2 : ¬ (b < x)) : a.toInt ≤ x.toInt ∧ x.toInt ≤ b.toInt := by
  rw [Int32.lt_iff_toInt_lt] at h1 h2
  omega
theorem own_bdJ {x a b : Int64} (h1 : ¬ (x < a)) (h2 : ¬ (b < x)) : a.toInt ≤ x.toInt ∧ x.toInt ≤ b.toInt := by
  rw [Int64.lt_iff_toInt_lt] at h1 h2
  omega
theorem own_and1 (x : Int32) : x &&& 1 = 0 ∨ x &&& 1 = 1 := by
  have h1 : (x &&& 1).toInt = x.toInt % 2 := own_and_toInt1 x
  have h3 : ∀ y : Int32, ∀ k : Int32, y.toInt = k.toInt → y = k := fun _ _ q => Int32.toInt_inj.mp q
  have h4 : x.toInt % 2 = 0 ∨ x.toInt % 2 = 1 := by omega
  rcases h4 with h4 | h4
  · exact Or.inl (h3 _ _ (h1.trans h4))
  · exact Or.inr (h3 _ _ (h1.trans h4))
def own_W (Z : State) (w_HELLO w_ADD_SERVICE w_GET_SERVICE w_LIST_SERVICES w_TRANSLATE w_RESOLVE w_RELEASE w_STATUS w_WAITING w_WATCH w_ACQUIRE w_RETIRE w_RESULT w_FAILURE w_DEAD w_COUNT_WAITING w_CLOSING w_UNHELD w_OPEN w_TRANSACTION w_REPLY w_KNOCK w_ALL k_ALL : Addr) : Prop := Sta Z Z.heap "com/example/hop1/hop1/protocol/FrameKind" "HELLO" "Lcom/example/hop1/hop1/protocol/FrameKind;" (.ref w_HELLO) ∧ Exa Z Z.heap w_HELLO "com/example/hop1/hop1/protocol/FrameKind" ∧ Sta Z Z.heap "com/example/hop1/hop1/protocol/FrameKind" "ADD_SERVICE" "Lcom/example/hop1/hop1/protocol/FrameKind;" (.ref w_ADD_SERVICE) ∧ Exa Z Z.heap w_ADD_SERVICE "com/example/hop1/hop1/protocol/FrameKind" ∧ Sta Z Z.heap "com/example/hop1/hop1/protocol/FrameKind" "GET_SERVICE" "Lcom/example/hop1/hop1/protocol/FrameKind;" (.ref w_GET_SERVICE) ∧ Exa Z Z.heap w_GET_SERVICE "com/example/hop1/hop1/protocol/FrameKind" ∧ Sta Z Z.heap "com/example/hop1/hop1/protocol/FrameKind" "LIST_SERVICES" "Lcom/example/hop1/hop1/protocol/FrameKind;" (.ref w_LIST_SERVICES) ∧ Exa Z Z.heap w_LIST_SERVICES "com/example/hop1/hop1/protocol/FrameKind" ∧ Sta Z Z.heap "com/example/hop1/hop1/protocol/FrameKind" "TRANSLATE" "Lcom/example/hop1/hop1/protocol/FrameKind;" (.ref w_TRANSLATE) ∧ Exa Z Z.heap w_TRANSLATE "com/example/hop1/hop1/protocol/FrameKind" ∧ Sta Z Z.heap "com/example/hop1/hop1/protocol/FrameKind" "RESOLVE" "Lcom/example/hop1/hop1/protocol/FrameKind;" (.ref w_RESOLVE) ∧ Exa Z Z.heap w_RESOLVE "com/example/hop1/hop1/protocol/FrameKind" ∧ Sta Z Z.heap "com/example/hop1/hop1/protocol/FrameKind" "RELEASE" "Lcom/example/hop1/hop1/protocol/FrameKind;" (.ref w_RELEASE) ∧ Exa Z Z.heap w_RELEASE "com/example/hop1/hop1/protocol/FrameKind" ∧ Sta Z Z.heap "com/example/hop1/hop1/protocol/FrameKind" "STATUS" "Lcom/example/hop1/hop1/protocol/FrameKind;" (.ref w_STATUS) ∧ Exa Z Z.heap w_STATUS "com/example/hop1/hop1/protocol/FrameKind" ∧ Sta Z Z.heap "com/example/hop1/hop1/protocol/FrameKind" "WAITING" "Lcom/example/hop1/hop1/protocol/FrameKind;" (.ref w_WAITING) ∧ Exa Z Z.heap w_WAITING "com/example/hop1/hop1/protocol/FrameKind" ∧ Sta Z Z.heap "com/example/hop1/hop1/protocol/FrameKind" "WATCH" "Lcom/example/hop1/hop1/protocol/FrameKind;" (.ref w_WATCH) ∧ Exa Z Z.heap w_WATCH "com/example/hop1/hop1/protocol/FrameKind" ∧ Sta Z Z.heap "com/example/hop1/hop1/protocol/FrameKind" "ACQUIRE" "Lcom/example/hop1/hop1/protocol/FrameKind;" (.ref w_ACQUIRE) ∧ Exa Z Z.heap w_ACQUIRE "com/example/hop1/hop1/protocol/FrameKind" ∧ Sta Z Z.heap "com/example/hop1/hop1/protocol/FrameKind" "RETIRE" "Lcom/example/hop1/hop1/protocol/FrameKind;" (.ref w_RETIRE) ∧ Exa Z Z.heap w_RETIRE "com/example/hop1/hop1/protocol/FrameKind" ∧ Sta Z Z.heap "com/example/hop1/hop1/protocol/FrameKind" "RESULT" "Lcom/example/hop1/hop1/protocol/FrameKind;" (.ref w_RESULT) ∧ Exa Z Z.heap w_RESULT "com/example/hop1/hop1/protocol/FrameKind" ∧ Sta Z Z.heap "com/example/hop1/hop1/protocol/FrameKind" "FAILURE" "Lcom/example/hop1/hop1/protocol/FrameKind;" (.ref w_FAILURE) ∧ Exa Z Z.heap w_FAILURE "com/example/hop1/hop1/protocol/FrameKind" ∧ Sta Z Z.heap "com/example/hop1/hop1/protocol/FrameKind" "DEAD" "Lcom/example/hop1/hop1/protocol/FrameKind;" (.ref w_DEAD) ∧ Exa Z Z.heap w_DEAD "com/example/hop1/hop1/protocol/FrameKind" ∧ Sta Z Z.heap "com/example/hop1/hop1/protocol/FrameKind" "COUNT_WAITING" "Lcom/example/hop1/hop1/protocol/FrameKind;" (.ref w_COUNT_WAITING) ∧ Exa Z Z.heap w_COUNT_WAITING "com/example/hop1/hop1/protocol/FrameKind" ∧ Sta Z Z.heap "com/example/hop1/hop1/protocol/FrameKind" "CLOSING" "Lcom/example/hop1/hop1/protocol/FrameKind;" (.ref w_CLOSING) ∧ Exa Z Z.heap w_CLOSING "com/example/hop1/hop1/protocol/FrameKind" ∧ Sta Z Z.heap "com/example/hop1/hop1/protocol/FrameKind" "UNHELD" "Lcom/example/hop1/hop1/protocol/FrameKind;" (.ref w_UNHELD) ∧ Exa Z Z.heap w_UNHELD "com/example/hop1/hop1/protocol/FrameKind" ∧ Sta Z Z.heap "com/example/hop1/hop1/protocol/FrameKind" "OPEN" "Lcom/example/hop1/hop1/protocol/FrameKind;" (.ref w_OPEN) ∧ Exa Z Z.heap w_OPEN "com/example/hop1/hop1/protocol/FrameKind" ∧ Sta Z Z.heap "com/example/hop1/hop1/protocol/FrameKind" "TRANSACTION" "Lcom/example/hop1/hop1/protocol/FrameKind;" (.ref w_TRANSACTION) ∧ Exa Z Z.heap w_TRANSACTION "com/example/hop1/hop1/protocol/FrameKind" ∧ Sta Z Z.heap "com/example/hop1/hop1/protocol/FrameKind" "REPLY" "Lcom/example/hop1/hop1/protocol/FrameKind;" (.ref w_REPLY) ∧ Exa Z Z.heap w_REPLY "com/example/hop1/hop1/protocol/FrameKind" ∧ Sta Z Z.heap "com/example/hop1/hop1/protocol/FrameKind" "KNOCK" "Lcom/example/hop1/hop1/protocol/FrameKind;" (.ref w_KNOCK) ∧ Exa Z Z.heap w_KNOCK "com/example/hop1/hop1/protocol/FrameKind" ∧ Sta Z Z.heap "com/example/hop1/hop1/protocol/FrameKind" "ALL" "[Lcom/example/hop1/hop1/protocol/FrameKind;" (.ref w_ALL) ∧ Fld Z Z.heap w_HELLO "com/example/hop1/hop1/protocol/FrameKind" "code" "I" (.int (1 : Int32)) ∧ Fld Z Z.heap w_ADD_SERVICE "com/example/hop1/hop1/protocol/FrameKind" "code" "I" (.int (2 : Int32)) ∧ Fld Z Z.heap w_GET_SERVICE "com/example/hop1/hop1/protocol/FrameKind" "code" "I" (.int (3 : Int32)) ∧ Fld Z Z.heap w_LIST_SERVICES "com/example/hop1/hop1/protocol/FrameKind" "code" "I" (.int (4 : Int32)) ∧ Fld Z Z.heap w_TRANSLATE "com/example/hop1/hop1/protocol/FrameKind" "code" "I" (.int (5 : Int32)) ∧ Fld Z Z.heap w_RESOLVE "com/example/hop1/hop1/protocol/FrameKind" "code" "I" (.int (6 : Int32)) ∧ Fld Z Z.heap w_RELEASE "com/example/hop1/hop1/protocol/FrameKind" "code" "I" (.int (7 : Int32)) ∧ Fld Z Z.heap w_STATUS "com/example/hop1/hop1/protocol/FrameKind" "code" "I" (.int (8 : Int32)) ∧ Fld Z Z.heap w_WAITING "com/example/hop1/hop1/protocol/FrameKind" "code" "I" (.int (9 : Int32)) ∧ Fld Z Z.heap w_WATCH "com/example/hop1/hop1/protocol/FrameKind" "code" "I" (.int (10 : Int32)) ∧ Fld Z Z.heap w_ACQUIRE "com/example/hop1/hop1/protocol/FrameKind" "code" "I" (.int (11 : Int32)) ∧ Fld Z Z.heap w_RETIRE "com/example/hop1/hop1/protocol/FrameKind" "code" "I" (.int (12 : Int32)) ∧ Fld Z Z.heap w_RESULT "com/example/hop1/hop1/protocol/FrameKind" "code" "I" (.int (16 : Int32)) ∧ Fld Z Z.heap w_FAILURE "com/example/hop1/hop1/protocol/FrameKind" "code" "I" (.int (17 : Int32)) ∧ Fld Z Z.heap w_DEAD "com/example/hop1/hop1/protocol/FrameKind" "code" "I" (.int (18 : Int32)) ∧ Fld Z Z.heap w_COUNT_WAITING "com/example/hop1/hop1/protocol/FrameKind" "code" "I" (.int (19 : Int32)) ∧ Fld Z Z.heap w_CLOSING "com/example/hop1/hop1/protocol/FrameKind" "code" "I" (.int (20 : Int32)) ∧ Fld Z Z.heap w_UNHELD "com/example/hop1/hop1/protocol/FrameKind" "code" "I" (.int (21 : Int32)) ∧ Fld Z Z.heap w_OPEN "com/example/hop1/hop1/protocol/FrameKind" "code" "I" (.int (32 : Int32)) ∧ Fld Z Z.heap w_TRANSACTION "com/example/hop1/hop1/protocol/FrameKind" "code" "I" (.int (33 : Int32)) ∧ Fld Z Z.heap w_REPLY "com/example/hop1/hop1/protocol/FrameKind" "code" "I" (.int (34 : Int32)) ∧ Fld Z Z.heap w_KNOCK "com/example/hop1/hop1/protocol/FrameKind" "code" "I" (.int (35 : Int32)) ∧ Arv Z Z.heap w_ALL k_ALL (.object "com/example/hop1/hop1/protocol/FrameKind") (22 : Int32) [(.ref w_HELLO), (.ref w_ADD_SERVICE), (.ref w_GET_SERVICE), (.ref w_LIST_SERVICES), (.ref w_TRANSLATE), (.ref w_RESOLVE), (.ref w_RELEASE), (.ref w_STATUS), (.ref w_WAITING), (.ref w_WATCH), (.ref w_ACQUIRE), (.ref w_RETIRE), (.ref w_RESULT), (.ref w_FAILURE), (.ref w_DEAD), (.ref w_COUNT_WAITING), (.ref w_CLOSING), (.ref w_UNHELD), (.ref w_OPEN), (.ref w_TRANSACTION), (.ref w_REPLY), (.ref w_KNOCK)] .null
theorem d1_0 : decode method_2_code 0 = .ok (.iload_n 0, 1) := by decide +kernel
theorem d1_1 : decode method_2_code 1 = .ok (.iconst 1, 1) := by decide +kernel
theorem d1_2 : decode method_2_code 2 = .ok (.if_icmp .ne 7, 3) := by decide +kernel
theorem d1_5 : decode method_2_code 5 = .ok (.getstatic 7, 3) := by decide +kernel
theorem d1_8 : decode method_2_code 8 = .ok (.areturn, 1) := by decide +kernel
theorem ef_1 (m : MethodId) (x0 : Int32) : entryFrame m #[(.int x0)] 1 = mkF m 0 #[oI x0] [] := by first | (simp [entryFrame, mkF, argsToLocals, Value.category]; done) | rfl
theorem pn_0 : plainName "com/example/hop1/hop1/protocol/FrameKindOfPinLaw" = true := by first | (simp [plainName, overriddenIn]; done) | decide +kernel
theorem d1_9 : decode method_2_code 9 = .ok (.iload_n 0, 1) := by decide +kernel
theorem d1_10 : decode method_2_code 10 = .ok (.iconst 2, 1) := by decide +kernel
theorem d1_11 : decode method_2_code 11 = .ok (.if_icmp .ne 7, 3) := by decide +kernel
theorem d1_14 : decode method_2_code 14 = .ok (.getstatic 13, 3) := by decide +kernel
theorem d1_17 : decode method_2_code 17 = .ok (.areturn, 1) := by decide +kernel
theorem d1_18 : decode method_2_code 18 = .ok (.iload_n 0, 1) := by decide +kernel
theorem d1_19 : decode method_2_code 19 = .ok (.iconst 3, 1) := by decide +kernel
theorem d1_20 : decode method_2_code 20 = .ok (.if_icmp .ne 7, 3) := by decide +kernel
theorem d1_23 : decode method_2_code 23 = .ok (.getstatic 16, 3) := by decide +kernel
theorem d1_26 : decode method_2_code 26 = .ok (.areturn, 1) := by decide +kernel
theorem d1_27 : decode method_2_code 27 = .ok (.iload_n 0, 1) := by decide +kernel
theorem d1_28 : decode method_2_code 28 = .ok (.iconst 4, 1) := by decide +kernel
theorem d1_29 : decode method_2_code 29 = .ok (.if_icmp .ne 7, 3) := by decide +kernel
theorem d1_32 : decode method_2_code 32 = .ok (.getstatic 19, 3) := by decide +kernel
theorem d1_35 : decode method_2_code 35 = .ok (.areturn, 1) := by decide +kernel
theorem d1_36 : decode method_2_code 36 = .ok (.iload_n 0, 1) := by decide +kernel
theorem d1_37 : decode method_2_code 37 = .ok (.iconst 5, 1) := by decide +kernel
theorem d1_38 : decode method_2_code 38 = .ok (.if_icmp .ne 7, 3) := by decide +kernel
theorem d1_41 : decode method_2_code 41 = .ok (.getstatic 22, 3) := by decide +kernel
theorem d1_44 : decode method_2_code 44 = .ok (.areturn, 1) := by decide +kernel
theorem d1_45 : decode method_2_code 45 = .ok (.iload_n 0, 1) := by decide +kernel
theorem d1_46 : decode method_2_code 46 = .ok (.bipush 6, 2) := by decide +kernel
theorem d1_48 : decode method_2_code 48 = .ok (.if_icmp .ne 7, 3) := by decide +kernel
theorem d1_51 : decode method_2_code 51 = .ok (.getstatic 25, 3) := by decide +kernel
theorem d1_54 : decode method_2_code 54 = .ok (.areturn, 1) := by decide +kernel
theorem d1_55 : decode method_2_code 55 = .ok (.iload_n 0, 1) := by decide +kernel
theorem d1_56 : decode method_2_code 56 = .ok (.bipush 7, 2) := by decide +kernel
theorem d1_58 : decode method_2_code 58 = .ok (.if_icmp .ne 7, 3) := by decide +kernel
theorem d1_61 : decode method_2_code 61 = .ok (.getstatic 28, 3) := by decide +kernel
theorem d1_64 : decode method_2_code 64 = .ok (.areturn, 1) := by decide +kernel
theorem d1_65 : decode method_2_code 65 = .ok (.iload_n 0, 1) := by decide +kernel
theorem d1_66 : decode method_2_code 66 = .ok (.bipush 8, 2) := by decide +kernel
theorem d1_68 : decode method_2_code 68 = .ok (.if_icmp .ne 7, 3) := by decide +kernel
theorem d1_71 : decode method_2_code 71 = .ok (.getstatic 31, 3) := by decide +kernel
theorem d1_74 : decode method_2_code 74 = .ok (.areturn, 1) := by decide +kernel
theorem d1_75 : decode method_2_code 75 = .ok (.iload_n 0, 1) := by decide +kernel
theorem d1_76 : decode method_2_code 76 = .ok (.bipush 9, 2) := by decide +kernel
theorem d1_78 : decode method_2_code 78 = .ok (.if_icmp .ne 7, 3) := by decide +kernel
theorem d1_81 : decode method_2_code 81 = .ok (.getstatic 34, 3) := by decide +kernel
theorem d1_84 : decode method_2_code 84 = .ok (.areturn, 1) := by decide +kernel
theorem d1_85 : decode method_2_code 85 = .ok (.iload_n 0, 1) := by decide +kernel
theorem d1_86 : decode method_2_code 86 = .ok (.bipush 10, 2) := by decide +kernel
theorem d1_88 : decode method_2_code 88 = .ok (.if_icmp .ne 7, 3) := by decide +kernel
theorem d1_91 : decode method_2_code 91 = .ok (.getstatic 37, 3) := by decide +kernel
theorem d1_94 : decode method_2_code 94 = .ok (.areturn, 1) := by decide +kernel
theorem d1_95 : decode method_2_code 95 = .ok (.iload_n 0, 1) := by decide +kernel
theorem d1_96 : decode method_2_code 96 = .ok (.bipush 11, 2) := by decide +kernel
theorem d1_98 : decode method_2_code 98 = .ok (.if_icmp .ne 7, 3) := by decide +kernel
theorem d1_101 : decode method_2_code 101 = .ok (.getstatic 40, 3) := by decide +kernel
theorem d1_104 : decode method_2_code 104 = .ok (.areturn, 1) := by decide +kernel
theorem d1_105 : decode method_2_code 105 = .ok (.iload_n 0, 1) := by decide +kernel
theorem d1_106 : decode method_2_code 106 = .ok (.bipush 12, 2) := by decide +kernel
theorem d1_108 : decode method_2_code 108 = .ok (.if_icmp .ne 7, 3) := by decide +kernel
theorem d1_111 : decode method_2_code 111 = .ok (.getstatic 43, 3) := by decide +kernel
theorem d1_114 : decode method_2_code 114 = .ok (.areturn, 1) := by decide +kernel
theorem d1_115 : decode method_2_code 115 = .ok (.iload_n 0, 1) := by decide +kernel
theorem d1_116 : decode method_2_code 116 = .ok (.bipush 16, 2) := by decide +kernel
theorem d1_118 : decode method_2_code 118 = .ok (.if_icmp .ne 7, 3) := by decide +kernel
theorem d1_121 : decode method_2_code 121 = .ok (.getstatic 46, 3) := by decide +kernel
theorem d1_124 : decode method_2_code 124 = .ok (.areturn, 1) := by decide +kernel
theorem d1_125 : decode method_2_code 125 = .ok (.iload_n 0, 1) := by decide +kernel
theorem d1_126 : decode method_2_code 126 = .ok (.bipush 17, 2) := by decide +kernel
theorem d1_128 : decode method_2_code 128 = .ok (.if_icmp .ne 7, 3) := by decide +kernel
theorem d1_131 : decode method_2_code 131 = .ok (.getstatic 49, 3) := by decide +kernel
theorem d1_134 : decode method_2_code 134 = .ok (.areturn, 1) := by decide +kernel
theorem d1_135 : decode method_2_code 135 = .ok (.iload_n 0, 1) := by decide +kernel
theorem d1_136 : decode method_2_code 136 = .ok (.bipush 18, 2) := by decide +kernel
theorem d1_138 : decode method_2_code 138 = .ok (.if_icmp .ne 7, 3) := by decide +kernel
theorem d1_141 : decode method_2_code 141 = .ok (.getstatic 52, 3) := by decide +kernel
theorem d1_144 : decode method_2_code 144 = .ok (.areturn, 1) := by decide +kernel
theorem d1_145 : decode method_2_code 145 = .ok (.iload_n 0, 1) := by decide +kernel
theorem d1_146 : decode method_2_code 146 = .ok (.bipush 19, 2) := by decide +kernel
theorem d1_148 : decode method_2_code 148 = .ok (.if_icmp .ne 7, 3) := by decide +kernel
theorem d1_151 : decode method_2_code 151 = .ok (.getstatic 55, 3) := by decide +kernel
theorem d1_154 : decode method_2_code 154 = .ok (.areturn, 1) := by decide +kernel
theorem d1_155 : decode method_2_code 155 = .ok (.iload_n 0, 1) := by decide +kernel
theorem d1_156 : decode method_2_code 156 = .ok (.bipush 20, 2) := by decide +kernel
theorem d1_158 : decode method_2_code 158 = .ok (.if_icmp .ne 7, 3) := by decide +kernel
theorem d1_161 : decode method_2_code 161 = .ok (.getstatic 58, 3) := by decide +kernel
theorem d1_164 : decode method_2_code 164 = .ok (.areturn, 1) := by decide +kernel
theorem d1_165 : decode method_2_code 165 = .ok (.iload_n 0, 1) := by decide +kernel
theorem d1_166 : decode method_2_code 166 = .ok (.bipush 21, 2) := by decide +kernel
theorem d1_168 : decode method_2_code 168 = .ok (.if_icmp .ne 7, 3) := by decide +kernel
theorem d1_171 : decode method_2_code 171 = .ok (.getstatic 61, 3) := by decide +kernel
theorem d1_174 : decode method_2_code 174 = .ok (.areturn, 1) := by decide +kernel
theorem d1_175 : decode method_2_code 175 = .ok (.iload_n 0, 1) := by decide +kernel
theorem d1_176 : decode method_2_code 176 = .ok (.bipush 32, 2) := by decide +kernel
theorem d1_178 : decode method_2_code 178 = .ok (.if_icmp .ne 7, 3) := by decide +kernel
theorem d1_181 : decode method_2_code 181 = .ok (.getstatic 64, 3) := by decide +kernel
theorem d1_184 : decode method_2_code 184 = .ok (.areturn, 1) := by decide +kernel
theorem d1_185 : decode method_2_code 185 = .ok (.iload_n 0, 1) := by decide +kernel
theorem d1_186 : decode method_2_code 186 = .ok (.bipush 33, 2) := by decide +kernel
theorem d1_188 : decode method_2_code 188 = .ok (.if_icmp .ne 7, 3) := by decide +kernel
theorem d1_191 : decode method_2_code 191 = .ok (.getstatic 67, 3) := by decide +kernel
theorem d1_194 : decode method_2_code 194 = .ok (.areturn, 1) := by decide +kernel
theorem d1_195 : decode method_2_code 195 = .ok (.iload_n 0, 1) := by decide +kernel
theorem d1_196 : decode method_2_code 196 = .ok (.bipush 34, 2) := by decide +kernel
theorem d1_198 : decode method_2_code 198 = .ok (.if_icmp .ne 7, 3) := by decide +kernel
theorem d1_201 : decode method_2_code 201 = .ok (.getstatic 70, 3) := by decide +kernel
theorem d1_204 : decode method_2_code 204 = .ok (.areturn, 1) := by decide +kernel
theorem d1_205 : decode method_2_code 205 = .ok (.iload_n 0, 1) := by decide +kernel
theorem d1_206 : decode method_2_code 206 = .ok (.bipush 35, 2) := by decide +kernel
theorem d1_208 : decode method_2_code 208 = .ok (.if_icmp .ne 7, 3) := by decide +kernel
theorem d1_211 : decode method_2_code 211 = .ok (.getstatic 73, 3) := by decide +kernel
theorem d1_214 : decode method_2_code 214 = .ok (.areturn, 1) := by decide +kernel
theorem d1_215 : decode method_2_code 215 = .ok (.aconst_null, 1) := by decide +kernel
theorem d1_216 : decode method_2_code 216 = .ok (.areturn, 1) := by decide +kernel
theorem pd_0 : parseMethodDescriptor "(I)Lcom/example/hop1/hop1/protocol/FrameKind;" = some ⟨[.int], some (.object "com/example/hop1/hop1/protocol/FrameKind")⟩ := by decide +kernel
theorem d2_0 : decode prog_113_method_5_code 0 = .ok (.getstatic 93, 3) := by decide +kernel
theorem d2_3 : decode prog_113_method_5_code 3 = .ok (.astore_n 1, 1) := by decide +kernel
theorem d2_4 : decode prog_113_method_5_code 4 = .ok (.aload_n 1, 1) := by decide +kernel
theorem d2_5 : decode prog_113_method_5_code 5 = .ok (.arraylength, 1) := by decide +kernel
theorem d2_6 : decode prog_113_method_5_code 6 = .ok (.istore_n 2, 1) := by decide +kernel
theorem d2_7 : decode prog_113_method_5_code 7 = .ok (.iconst 0, 1) := by decide +kernel
theorem d2_8 : decode prog_113_method_5_code 8 = .ok (.istore_n 3, 1) := by decide +kernel
theorem d2_9 : decode prog_113_method_5_code 9 = .ok (.iload_n 3, 1) := by decide +kernel
theorem d2_10 : decode prog_113_method_5_code 10 = .ok (.iload_n 2, 1) := by decide +kernel
theorem d2_11 : decode prog_113_method_5_code 11 = .ok (.if_icmp .ge 26, 3) := by decide +kernel
theorem d2_14 : decode prog_113_method_5_code 14 = .ok (.aload_n 1, 1) := by decide +kernel
theorem d2_15 : decode prog_113_method_5_code 15 = .ok (.iload_n 3, 1) := by decide +kernel
theorem d2_16 : decode prog_113_method_5_code 16 = .ok (.aaload, 1) := by decide +kernel
theorem d2_17 : decode prog_113_method_5_code 17 = .ok (.astore 4, 2) := by decide +kernel
theorem d2_19 : decode prog_113_method_5_code 19 = .ok (.aload 4, 2) := by decide +kernel
theorem d2_21 : decode prog_113_method_5_code 21 = .ok (.getfield 89, 3) := by decide +kernel
theorem d2_24 : decode prog_113_method_5_code 24 = .ok (.iload_n 0, 1) := by decide +kernel
theorem d2_25 : decode prog_113_method_5_code 25 = .ok (.if_icmp .ne 6, 3) := by decide +kernel
theorem d2_28 : decode prog_113_method_5_code 28 = .ok (.aload 4, 2) := by decide +kernel
theorem d2_30 : decode prog_113_method_5_code 30 = .ok (.areturn, 1) := by decide +kernel
theorem ef_2 (m : MethodId) (x0 : Int32) : entryFrame m #[(.int x0)] 5 = mkF m 0 #[oI x0, oU, oU, oU, oU] [] := by first | (simp [entryFrame, mkF, argsToLocals, Value.category]; done) | rfl
theorem pn_1 : plainName "com/example/hop1/hop1/protocol/FrameKind" = true := by first | (simp [plainName, overriddenIn]; done) | decide +kernel
theorem d2_31 : decode prog_113_method_5_code 31 = .ok (.iinc 3 1, 3) := by decide +kernel
theorem d2_34 : decode prog_113_method_5_code 34 = .ok (.goto (-25), 3) := by decide +kernel
theorem d2_37 : decode prog_113_method_5_code 37 = .ok (.aconst_null, 1) := by decide +kernel
theorem d2_38 : decode prog_113_method_5_code 38 = .ok (.areturn, 1) := by decide +kernel
theorem ef_0 (m : MethodId) (x0 : Int32) (x1 : Int32) : entryFrame m #[(.int x0), (.int x1)] maxLocals = mkF m 0 #[oI x0, oI x1, oU, oU, oU] [] := by first | (simp [entryFrame, mkF, argsToLocals, Value.category, maxLocals]; done) | rfl
set_option maxRecDepth 65536 in
set_option maxHeartbeats 40000000 in
theorem rm1_1 (l : Launch) (Z : State) (a0 : Array Value) (hw : ∀ d ∈ tables_1, d.before a0 Z = true) (ws : List Jvm.Cond) (w_HELLO w_ADD_SERVICE w_GET_SERVICE w_LIST_SERVICES w_TRANSLATE w_RESOLVE w_RELEASE w_STATUS w_WAITING w_WATCH w_ACQUIRE w_RETIRE w_RESULT w_FAILURE w_DEAD w_COUNT_WAITING w_CLOSING w_UNHELD w_OPEN w_TRANSACTION w_REPLY w_KNOCK w_ALL k_ALL : Addr) (W : own_W Z w_HELLO w_ADD_SERVICE w_GET_SERVICE w_LIST_SERVICES w_TRANSLATE w_RESOLVE w_RELEASE w_STATUS w_WAITING w_WATCH w_ACQUIRE w_RETIRE w_RESULT w_FAILURE w_DEAD w_COUNT_WAITING w_CLOSING w_UNHELD w_OPEN w_TRANSACTION w_REPLY w_KNOCK w_ALL k_ALL) (x0 : Int32) (h0 : Heap) (n0 : Nat) (O0 : Old Z n0 h0) (hc2 : x0 = (1 : Int32)) :
    MetFree l (⟨"com/example/hop1/hop1/protocol/FrameKindOfPinLaw", "expected", "(I)Lcom/example/hop1/hop1/protocol/FrameKind;"⟩ : MethodName) (head1 (Jvm.Cond.code (⟨"com/example/hop1/hop1/protocol/FrameKindOfPinLaw", "expected", "(I)Lcom/example/hop1/hop1/protocol/FrameKind;"⟩ : MethodName) method_2_code 1 (some (.object "com/example/hop1/hop1/protocol/FrameKind")) :: ws) ({ frames := 0, cells := 0, slots := 0, locals := 0 } : Room)) (fun a U => a = #[(.int x0)] ∧ Z.Warmed39 U.vm ∧ U.heap = h0) (fun _ _ _ _ _ => True) (fun _ U o U' => ∃ v L, o = .returned v ∧ own_Q (some (.ref w_HELLO)) n0 h0 v U'.heap L ∧ FrameEnd U o U' L ({ frames := 0, cells := 0, slots := 0, locals := 0 } : Room).cells ({ frames := 0, cells := 0, slots := 0, locals := 0 } : Room).slots) := by
  refine MetFree.of_bodySF (plainFor_of_name pn_0) hisR ?_
  intro p e s m args below meth c s₁ Bd hml0 hP hK
  obtain ⟨rfl, hZ, hh⟩ := hP
  have hx := Bd.exec
  have hby := Bd.bytes
  have hml : c.maxLocals = 1 := hml0
  have hlk := BodyLoose.notSynchronized Bd
  have hret := Bd.returns
  have hown : s.vm.findClass "com/example/hop1/hop1/protocol/FrameKindOfPinLaw" = some m.cls := findClass_of_methodNamed Bd.named
  have hnm := (name_of_methodNamed Bd.named Bd.method).1
  have X0 : Stand p l e ({ frames := 0, cells := 0, slots := 0, locals := 0 } : Room) s m #[(.int x0)] below meth c s₁ [] 0 0 := Stand.of_body Bd
  have e0 : s₁.heap = h0 := by rw [← hh, Bd.state]; rfl
  have N0 := Fr.nil n0
  rw [ef_1 m x0]
  show Go p e below _ (s₁.setTop (mkF m 0 #[oI x0] []))
  refine own_iload_n 1 X0 hx hby d1_0 rfl rfl ?_
  refine own_iconst 2 (1 : Int32) X0 hx hby d1_1 rfl (by decide) ?_
  refine own_icN 5 X0 hx hby d1_2 rfl (teq hc2).2 ?_
  refine own_getS 8 X0 hx hby hZ hown (own_w hw 38 rfl) e0 (W.1.ext O0.2) d1_5 rfl ?_
  intro T3 X3 e3
  exact own_ret (Q := own_Q _ n0 h0) X3 hx hby hret hlk d1_8 rfl (Or.inr (Or.inr (Or.inr (Or.inr ⟨rfl, rfl, rfl⟩)))) (by decide) (by decide) ⟨rfl, N0, e3⟩
set_option maxRecDepth 65536 in
set_option maxHeartbeats 40000000 in
theorem rm1_2 (l : Launch) (Z : State) (a0 : Array Value) (hw : ∀ d ∈ tables_1, d.before a0 Z = true) (ws : List Jvm.Cond) (w_HELLO w_ADD_SERVICE w_GET_SERVICE w_LIST_SERVICES w_TRANSLATE w_RESOLVE w_RELEASE w_STATUS w_WAITING w_WATCH w_ACQUIRE w_RETIRE w_RESULT w_FAILURE w_DEAD w_COUNT_WAITING w_CLOSING w_UNHELD w_OPEN w_TRANSACTION w_REPLY w_KNOCK w_ALL k_ALL : Addr) (W : own_W Z w_HELLO w_ADD_SERVICE w_GET_SERVICE w_LIST_SERVICES w_TRANSLATE w_RESOLVE w_RELEASE w_STATUS w_WAITING w_WATCH w_ACQUIRE w_RETIRE w_RESULT w_FAILURE w_DEAD w_COUNT_WAITING w_CLOSING w_UNHELD w_OPEN w_TRANSACTION w_REPLY w_KNOCK w_ALL k_ALL) (x0 : Int32) (h0 : Heap) (n0 : Nat) (O0 : Old Z n0 h0) (hc2 : ¬ (x0 = (1 : Int32))) (hc4 : x0 = (2 : Int32)) :
    MetFree l (⟨"com/example/hop1/hop1/protocol/FrameKindOfPinLaw", "expected", "(I)Lcom/example/hop1/hop1/protocol/FrameKind;"⟩ : MethodName) (head1 (Jvm.Cond.code (⟨"com/example/hop1/hop1/protocol/FrameKindOfPinLaw", "expected", "(I)Lcom/example/hop1/hop1/protocol/FrameKind;"⟩ : MethodName) method_2_code 1 (some (.object "com/example/hop1/hop1/protocol/FrameKind")) :: ws) ({ frames := 0, cells := 0, slots := 0, locals := 0 } : Room)) (fun a U => a = #[(.int x0)] ∧ Z.Warmed39 U.vm ∧ U.heap = h0) (fun _ _ _ _ _ => True) (fun _ U o U' => ∃ v L, o = .returned v ∧ own_Q (some (.ref w_ADD_SERVICE)) n0 h0 v U'.heap L ∧ FrameEnd U o U' L ({ frames := 0, cells := 0, slots := 0, locals := 0 } : Room).cells ({ frames := 0, cells := 0, slots := 0, locals := 0 } : Room).slots) := by
  refine MetFree.of_bodySF (plainFor_of_name pn_0) hisR ?_
  intro p e s m args below meth c s₁ Bd hml0 hP hK
  obtain ⟨rfl, hZ, hh⟩ := hP
  have hx := Bd.exec
  have hby := Bd.bytes
  have hml : c.maxLocals = 1 := hml0
  have hlk := BodyLoose.notSynchronized Bd
  have hret := Bd.returns
  have hown : s.vm.findClass "com/example/hop1/hop1/protocol/FrameKindOfPinLaw" = some m.cls := findClass_of_methodNamed Bd.named
  have hnm := (name_of_methodNamed Bd.named Bd.method).1
  have X0 : Stand p l e ({ frames := 0, cells := 0, slots := 0, locals := 0 } : Room) s m #[(.int x0)] below meth c s₁ [] 0 0 := Stand.of_body Bd
  have e0 : s₁.heap = h0 := by rw [← hh, Bd.state]; rfl
  have N0 := Fr.nil n0
  rw [ef_1 m x0]
  show Go p e below _ (s₁.setTop (mkF m 0 #[oI x0] []))
  refine own_iload_n 1 X0 hx hby d1_0 rfl rfl ?_
  refine own_iconst 2 (1 : Int32) X0 hx hby d1_1 rfl (by decide) ?_
  refine own_icY 9 X0 hx hby d1_2 (by decide) (by decide) (feq hc2).2 ?_
  refine own_iload_n 10 X0 hx hby d1_9 rfl rfl ?_
  refine own_iconst 11 (2 : Int32) X0 hx hby d1_10 rfl (by decide) ?_
  refine own_icN 14 X0 hx hby d1_11 rfl (teq hc4).2 ?_
  refine own_getS 17 X0 hx hby hZ hown (own_w hw 39 rfl) e0 (W.2.2.1.ext O0.2) d1_14 rfl ?_
  intro T5 X5 e5
  exact own_ret (Q := own_Q _ n0 h0) X5 hx hby hret hlk d1_17 rfl (Or.inr (Or.inr (Or.inr (Or.inr ⟨rfl, rfl, rfl⟩)))) (by decide) (by decide) ⟨rfl, N0, e5⟩
set_option maxRecDepth 65536 in
set_option maxHeartbeats 40000000 in
theorem rm1_3 (l : Launch) (Z : State) (a0 : Array Value) (hw : ∀ d ∈ tables_1, d.before a0 Z = true) (ws : List Jvm.Cond) (w_HELLO w_ADD_SERVICE w_GET_SERVICE w_LIST_SERVICES w_TRANSLATE w_RESOLVE w_RELEASE w_STATUS w_WAITING w_WATCH w_ACQUIRE w_RETIRE w_RESULT w_FAILURE w_DEAD w_COUNT_WAITING w_CLOSING w_UNHELD w_OPEN w_TRANSACTION w_REPLY w_KNOCK w_ALL k_ALL : Addr) (W : own_W Z w_HELLO w_ADD_SERVICE w_GET_SERVICE w_LIST_SERVICES w_TRANSLATE w_RESOLVE w_RELEASE w_STATUS w_WAITING w_WATCH w_ACQUIRE w_RETIRE w_RESULT w_FAILURE w_DEAD w_COUNT_WAITING w_CLOSING w_UNHELD w_OPEN w_TRANSACTION w_REPLY w_KNOCK w_ALL k_ALL) (x0 : Int32) (h0 : Heap) (n0 : Nat) (O0 : Old Z n0 h0) (hc2 : ¬ (x0 = (1 : Int32))) (hc4 : ¬ (x0 = (2 : Int32))) (hc6 : x0 = (3 : Int32)) :
    MetFree l (⟨"com/example/hop1/hop1/protocol/FrameKindOfPinLaw", "expected", "(I)Lcom/example/hop1/hop1/protocol/FrameKind;"⟩ : MethodName) (head1 (Jvm.Cond.code (⟨"com/example/hop1/hop1/protocol/FrameKindOfPinLaw", "expected", "(I)Lcom/example/hop1/hop1/protocol/FrameKind;"⟩ : MethodName) method_2_code 1 (some (.object "com/example/hop1/hop1/protocol/FrameKind")) :: ws) ({ frames := 0, cells := 0, slots := 0, locals := 0 } : Room)) (fun a U => a = #[(.int x0)] ∧ Z.Warmed39 U.vm ∧ U.heap = h0) (fun _ _ _ _ _ => True) (fun _ U o U' => ∃ v L, o = .returned v ∧ own_Q (some (.ref w_GET_SERVICE)) n0 h0 v U'.heap L ∧ FrameEnd U o U' L ({ frames := 0, cells := 0, slots := 0, locals := 0 } : Room).cells ({ frames := 0, cells := 0, slots := 0, locals := 0 } : Room).slots) := by
  refine MetFree.of_bodySF (plainFor_of_name pn_0) hisR ?_
  intro p e s m args below meth c s₁ Bd hml0 hP hK
  obtain ⟨rfl, hZ, hh⟩ := hP
  have hx := Bd.exec
  have hby := Bd.bytes
  have hml : c.maxLocals = 1 := hml0
  have hlk := BodyLoose.notSynchronized Bd
  have hret := Bd.returns
  have hown : s.vm.findClass "com/example/hop1/hop1/protocol/FrameKindOfPinLaw" = some m.cls := findClass_of_methodNamed Bd.named
  have hnm := (name_of_methodNamed Bd.named Bd.method).1
  have X0 : Stand p l e ({ frames := 0, cells := 0, slots := 0, locals := 0 } : Room) s m #[(.int x0)] below meth c s₁ [] 0 0 := Stand.of_body Bd
  have e0 : s₁.heap = h0 := by rw [← hh, Bd.state]; rfl
  have N0 := Fr.nil n0
  rw [ef_1 m x0]
  show Go p e below _ (s₁.setTop (mkF m 0 #[oI x0] []))
  refine own_iload_n 1 X0 hx hby d1_0 rfl rfl ?_
  refine own_iconst 2 (1 : Int32) X0 hx hby d1_1 rfl (by decide) ?_
  refine own_icY 9 X0 hx hby d1_2 (by decide) (by decide) (feq hc2).2 ?_
  refine own_iload_n 10 X0 hx hby d1_9 rfl rfl ?_
  refine own_iconst 11 (2 : Int32) X0 hx hby d1_10 rfl (by decide) ?_
  refine own_icY 18 X0 hx hby d1_11 (by decide) (by decide) (feq hc4).2 ?_
  refine own_iload_n 19 X0 hx hby d1_18 rfl rfl ?_
  refine own_iconst 20 (3 : Int32) X0 hx hby d1_19 rfl (by decide) ?_
  refine own_icN 23 X0 hx hby d1_20 rfl (teq hc6).2 ?_
  refine own_getS 26 X0 hx hby hZ hown (own_w hw 37 rfl) e0 (W.2.2.2.2.1.ext O0.2) d1_23 rfl ?_
  intro T7 X7 e7
  exact own_ret (Q := own_Q _ n0 h0) X7 hx hby hret hlk d1_26 rfl (Or.inr (Or.inr (Or.inr (Or.inr ⟨rfl, rfl, rfl⟩)))) (by decide) (by decide) ⟨rfl, N0, e7⟩
set_option maxRecDepth 65536 in
set_option maxHeartbeats 40000000 in
theorem rm1_4 (l : Launch) (Z : State) (a0 : Array Value) (hw : ∀ d ∈ tables_1, d.before a0 Z = true) (ws : List Jvm.Cond) (w_HELLO w_ADD_SERVICE w_GET_SERVICE w_LIST_SERVICES w_TRANSLATE w_RESOLVE w_RELEASE w_STATUS w_WAITING w_WATCH w_ACQUIRE w_RETIRE w_RESULT w_FAILURE w_DEAD w_COUNT_WAITING w_CLOSING w_UNHELD w_OPEN w_TRANSACTION w_REPLY w_KNOCK w_ALL k_ALL : Addr) (W : own_W Z w_HELLO w_ADD_SERVICE w_GET_SERVICE w_LIST_SERVICES w_TRANSLATE w_RESOLVE w_RELEASE w_STATUS w_WAITING w_WATCH w_ACQUIRE w_RETIRE w_RESULT w_FAILURE w_DEAD w_COUNT_WAITING w_CLOSING w_UNHELD w_OPEN w_TRANSACTION w_REPLY w_KNOCK w_ALL k_ALL) (x0 : Int32) (h0 : Heap) (n0 : Nat) (O0 : Old Z n0 h0) (hc2 : ¬ (x0 = (1 : Int32))) (hc4 : ¬ (x0 = (2 : Int32))) (hc6 : ¬ (x0 = (3 : Int32))) (hc8 : x0 = (4 : Int32)) :
    MetFree l (⟨"com/example/hop1/hop1/protocol/FrameKindOfPinLaw", "expected", "(I)Lcom/example/hop1/hop1/protocol/FrameKind;"⟩ : MethodName) (head1 (Jvm.Cond.code (⟨"com/example/hop1/hop1/protocol/FrameKindOfPinLaw", "expected", "(I)Lcom/example/hop1/hop1/protocol/FrameKind;"⟩ : MethodName) method_2_code 1 (some (.object "com/example/hop1/hop1/protocol/FrameKind")) :: ws) ({ frames := 0, cells := 0, slots := 0, locals := 0 } : Room)) (fun a U => a = #[(.int x0)] ∧ Z.Warmed39 U.vm ∧ U.heap = h0) (fun _ _ _ _ _ => True) (fun _ U o U' => ∃ v L, o = .returned v ∧ own_Q (some (.ref w_LIST_SERVICES)) n0 h0 v U'.heap L ∧ FrameEnd U o U' L ({ frames := 0, cells := 0, slots := 0, locals := 0 } : Room).cells ({ frames := 0, cells := 0, slots := 0, locals := 0 } : Room).slots) := by
  refine MetFree.of_bodySF (plainFor_of_name pn_0) hisR ?_
  intro p e s m args below meth c s₁ Bd hml0 hP hK
  obtain ⟨rfl, hZ, hh⟩ := hP
  have hx := Bd.exec
  have hby := Bd.bytes
  have hml : c.maxLocals = 1 := hml0
  have hlk := BodyLoose.notSynchronized Bd
  have hret := Bd.returns
  have hown : s.vm.findClass "com/example/hop1/hop1/protocol/FrameKindOfPinLaw" = some m.cls := findClass_of_methodNamed Bd.named
  have hnm := (name_of_methodNamed Bd.named Bd.method).1
  have X0 : Stand p l e ({ frames := 0, cells := 0, slots := 0, locals := 0 } : Room) s m #[(.int x0)] below meth c s₁ [] 0 0 := Stand.of_body Bd
  have e0 : s₁.heap = h0 := by rw [← hh, Bd.state]; rfl
  have N0 := Fr.nil n0
  rw [ef_1 m x0]
  show Go p e below _ (s₁.setTop (mkF m 0 #[oI x0] []))
  refine own_iload_n 1 X0 hx hby d1_0 rfl rfl ?_
  refine own_iconst 2 (1 : Int32) X0 hx hby d1_1 rfl (by decide) ?_
  refine own_icY 9 X0 hx hby d1_2 (by decide) (by decide) (feq hc2).2 ?_
  refine own_iload_n 10 X0 hx hby d1_9 rfl rfl ?_
  refine own_iconst 11 (2 : Int32) X0 hx hby d1_10 rfl (by decide) ?_
  refine own_icY 18 X0 hx hby d1_11 (by decide) (by decide) (feq hc4).2 ?_
  refine own_iload_n 19 X0 hx hby d1_18 rfl rfl ?_
  refine own_iconst 20 (3 : Int32) X0 hx hby d1_19 rfl (by decide) ?_
  refine own_icY 27 X0 hx hby d1_20 (by decide) (by decide) (feq hc6).2 ?_
  refine own_iload_n 28 X0 hx hby d1_27 rfl rfl ?_
  refine own_iconst 29 (4 : Int32) X0 hx hby d1_28 rfl (by decide) ?_
  refine own_icN 32 X0 hx hby d1_29 rfl (teq hc8).2 ?_
  refine own_getS 35 X0 hx hby hZ hown (own_w hw 47 rfl) e0 (W.2.2.2.2.2.2.1.ext O0.2) d1_32 rfl ?_
  intro T9 X9 e9
  exact own_ret (Q := own_Q _ n0 h0) X9 hx hby hret hlk d1_35 rfl (Or.inr (Or.inr (Or.inr (Or.inr ⟨rfl, rfl, rfl⟩)))) (by decide) (by decide) ⟨rfl, N0, e9⟩
set_option maxRecDepth 65536 in
set_option maxHeartbeats 40000000 in
theorem rm1_5 (l : Launch) (Z : State) (a0 : Array Value) (hw : ∀ d ∈ tables_1, d.before a0 Z = true) (ws : List Jvm.Cond) (w_HELLO w_ADD_SERVICE w_GET_SERVICE w_LIST_SERVICES w_TRANSLATE w_RESOLVE w_RELEASE w_STATUS w_WAITING w_WATCH w_ACQUIRE w_RETIRE w_RESULT w_FAILURE w_DEAD w_COUNT_WAITING w_CLOSING w_UNHELD w_OPEN w_TRANSACTION w_REPLY w_KNOCK w_ALL k_ALL : Addr) (W : own_W Z w_HELLO w_ADD_SERVICE w_GET_SERVICE w_LIST_SERVICES w_TRANSLATE w_RESOLVE w_RELEASE w_STATUS w_WAITING w_WATCH w_ACQUIRE w_RETIRE w_RESULT w_FAILURE w_DEAD w_COUNT_WAITING w_CLOSING w_UNHELD w_OPEN w_TRANSACTION w_REPLY w_KNOCK w_ALL k_ALL) (x0 : Int32) (h0 : Heap) (n0 : Nat) (O0 : Old Z n0 h0) (hc2 : ¬ (x0 = (1 : Int32))) (hc4 : ¬ (x0 = (2 : Int32))) (hc6 : ¬ (x0 = (3 : Int32))) (hc8 : ¬ (x0 = (4 : Int32))) (hc10 : x0 = (5 : Int32)) :
    MetFree l (⟨"com/example/hop1/hop1/protocol/FrameKindOfPinLaw", "expected", "(I)Lcom/example/hop1/hop1/protocol/FrameKind;"⟩ : MethodName) (head1 (Jvm.Cond.code (⟨"com/example/hop1/hop1/protocol/FrameKindOfPinLaw", "expected", "(I)Lcom/example/hop1/hop1/protocol/FrameKind;"⟩ : MethodName) method_2_code 1 (some (.object "com/example/hop1/hop1/protocol/FrameKind")) :: ws) ({ frames := 0, cells := 0, slots := 0, locals := 0 } : Room)) (fun a U => a = #[(.int x0)] ∧ Z.Warmed39 U.vm ∧ U.heap = h0) (fun _ _ _ _ _ => True) (fun _ U o U' => ∃ v L, o = .returned v ∧ own_Q (some (.ref w_TRANSLATE)) n0 h0 v U'.heap L ∧ FrameEnd U o U' L ({ frames := 0, cells := 0, slots := 0, locals := 0 } : Room).cells ({ frames := 0, cells := 0, slots := 0, locals := 0 } : Room).slots) := by
  refine MetFree.of_bodySF (plainFor_of_name pn_0) hisR ?_
  intro p e s m args below meth c s₁ Bd hml0 hP hK
  obtain ⟨rfl, hZ, hh⟩ := hP
  have hx := Bd.exec
  have hby := Bd.bytes
  have hml : c.maxLocals = 1 := hml0
  have hlk := BodyLoose.notSynchronized Bd
  have hret := Bd.returns
  have hown : s.vm.findClass "com/example/hop1/hop1/protocol/FrameKindOfPinLaw" = some m.cls := findClass_of_methodNamed Bd.named
  have hnm := (name_of_methodNamed Bd.named Bd.method).1
  have X0 : Stand p l e ({ frames := 0, cells := 0, slots := 0, locals := 0 } : Room) s m #[(.int x0)] below meth c s₁ [] 0 0 := Stand.of_body Bd
  have e0 : s₁.heap = h0 := by rw [← hh, Bd.state]; rfl
  have N0 := Fr.nil n0
  rw [ef_1 m x0]
  show Go p e below _ (s₁.setTop (mkF m 0 #[oI x0] []))
  refine own_iload_n 1 X0 hx hby d1_0 rfl rfl ?_
  refine own_iconst 2 (1 : Int32) X0 hx hby d1_1 rfl (by decide) ?_
  refine own_icY 9 X0 hx hby d1_2 (by decide) (by decide) (feq hc2).2 ?_
  refine own_iload_n 10 X0 hx hby d1_9 rfl rfl ?_
  refine own_iconst 11 (2 : Int32) X0 hx hby d1_10 rfl (by decide) ?_
  refine own_icY 18 X0 hx hby d1_11 (by decide) (by decide) (feq hc4).2 ?_
  refine own_iload_n 19 X0 hx hby d1_18 rfl rfl ?_
  refine own_iconst 20 (3 : Int32) X0 hx hby d1_19 rfl (by decide) ?_
  refine own_icY 27 X0 hx hby d1_20 (by decide) (by decide) (feq hc6).2 ?_
  refine own_iload_n 28 X0 hx hby d1_27 rfl rfl ?_
  refine own_iconst 29 (4 : Int32) X0 hx hby d1_28 rfl (by decide) ?_
  refine own_icY 36 X0 hx hby d1_29 (by decide) (by decide) (feq hc8).2 ?_
  refine own_iload_n 37 X0 hx hby d1_36 rfl rfl ?_
  refine own_iconst 38 (5 : Int32) X0 hx hby d1_37 rfl (by decide) ?_
  refine own_icN 41 X0 hx hby d1_38 rfl (teq hc10).2 ?_
  refine own_getS 44 X0 hx hby hZ hown (own_w hw 40 rfl) e0 (W.2.2.2.2.2.2.2.2.1.ext O0.2) d1_41 rfl ?_
  intro T11 X11 e11
  exact own_ret (Q := own_Q _ n0 h0) X11 hx hby hret hlk d1_44 rfl (Or.inr (Or.inr (Or.inr (Or.inr ⟨rfl, rfl, rfl⟩)))) (by decide) (by decide) ⟨rfl, N0, e11⟩
set_option maxRecDepth 65536 in
set_option maxHeartbeats 40000000 in
theorem rm1_6 (l : Launch) (Z : State) (a0 : Array Value) (hw : ∀ d ∈ tables_1, d.before a0 Z = true) (ws : List Jvm.Cond) (w_HELLO w_ADD_SERVICE w_GET_SERVICE w_LIST_SERVICES w_TRANSLATE w_RESOLVE w_RELEASE w_STATUS w_WAITING w_WATCH w_ACQUIRE w_RETIRE w_RESULT w_FAILURE w_DEAD w_COUNT_WAITING w_CLOSING w_UNHELD w_OPEN w_TRANSACTION w_REPLY w_KNOCK w_ALL k_ALL : Addr) (W : own_W Z w_HELLO w_ADD_SERVICE w_GET_SERVICE w_LIST_SERVICES w_TRANSLATE w_RESOLVE w_RELEASE w_STATUS w_WAITING w_WATCH w_ACQUIRE w_RETIRE w_RESULT w_FAILURE w_DEAD w_COUNT_WAITING w_CLOSING w_UNHELD w_OPEN w_TRANSACTION w_REPLY w_KNOCK w_ALL k_ALL) (x0 : Int32) (h0 : Heap) (n0 : Nat) (O0 : Old Z n0 h0) (hc2 : ¬ (x0 = (1 : Int32))) (hc4 : ¬ (x0 = (2 : Int32))) (hc6 : ¬ (x0 = (3 : Int32))) (hc8 : ¬ (x0 = (4 : Int32))) (hc10 : ¬ (x0 = (5 : Int32))) (hc12 : x0 = (6 : Int32)) :
    MetFree l (⟨"com/example/hop1/hop1/protocol/FrameKindOfPinLaw", "expected", "(I)Lcom/example/hop1/hop1/protocol/FrameKind;"⟩ : MethodName) (head1 (Jvm.Cond.code (⟨"com/example/hop1/hop1/protocol/FrameKindOfPinLaw", "expected", "(I)Lcom/example/hop1/hop1/protocol/FrameKind;"⟩ : MethodName) method_2_code 1 (some (.object "com/example/hop1/hop1/protocol/FrameKind")) :: ws) ({ frames := 0, cells := 0, slots := 0, locals := 0 } : Room)) (fun a U => a = #[(.int x0)] ∧ Z.Warmed39 U.vm ∧ U.heap = h0) (fun _ _ _ _ _ => True) (fun _ U o U' => ∃ v L, o = .returned v ∧ own_Q (some (.ref w_RESOLVE)) n0 h0 v U'.heap L ∧ FrameEnd U o U' L ({ frames := 0, cells := 0, slots := 0, locals := 0 } : Room).cells ({ frames := 0, cells := 0, slots := 0, locals := 0 } : Room).slots) := by
  refine MetFree.of_bodySF (plainFor_of_name pn_0) hisR ?_
  intro p e s m args below meth c s₁ Bd hml0 hP hK
  obtain ⟨rfl, hZ, hh⟩ := hP
  have hx := Bd.exec
  have hby := Bd.bytes
  have hml : c.maxLocals = 1 := hml0
  have hlk := BodyLoose.notSynchronized Bd
  have hret := Bd.returns
  have hown : s.vm.findClass "com/example/hop1/hop1/protocol/FrameKindOfPinLaw" = some m.cls := findClass_of_methodNamed Bd.named
  have hnm := (name_of_methodNamed Bd.named Bd.method).1
  have X0 : Stand p l e ({ frames := 0, cells := 0, slots := 0, locals := 0 } : Room) s m #[(.int x0)] below meth c s₁ [] 0 0 := Stand.of_body Bd
  have e0 : s₁.heap = h0 := by rw [← hh, Bd.state]; rfl
  have N0 := Fr.nil n0
  rw [ef_1 m x0]
  show Go p e below _ (s₁.setTop (mkF m 0 #[oI x0] []))
  refine own_iload_n 1 X0 hx hby d1_0 rfl rfl ?_
  refine own_iconst 2 (1 : Int32) X0 hx hby d1_1 rfl (by decide) ?_
  refine own_icY 9 X0 hx hby d1_2 (by decide) (by decide) (feq hc2).2 ?_
  refine own_iload_n 10 X0 hx hby d1_9 rfl rfl ?_
  refine own_iconst 11 (2 : Int32) X0 hx hby d1_10 rfl (by decide) ?_
  refine own_icY 18 X0 hx hby d1_11 (by decide) (by decide) (feq hc4).2 ?_
  refine own_iload_n 19 X0 hx hby d1_18 rfl rfl ?_
  refine own_iconst 20 (3 : Int32) X0 hx hby d1_19 rfl (by decide) ?_
  refine own_icY 27 X0 hx hby d1_20 (by decide) (by decide) (feq hc6).2 ?_
  refine own_iload_n 28 X0 hx hby d1_27 rfl rfl ?_
  refine own_iconst 29 (4 : Int32) X0 hx hby d1_28 rfl (by decide) ?_
  refine own_icY 36 X0 hx hby d1_29 (by decide) (by decide) (feq hc8).2 ?_
  refine own_iload_n 37 X0 hx hby d1_36 rfl rfl ?_
  refine own_iconst 38 (5 : Int32) X0 hx hby d1_37 rfl (by decide) ?_
  refine own_icY 45 X0 hx hby d1_38 (by decide) (by decide) (feq hc10).2 ?_
  refine own_iload_n 46 X0 hx hby d1_45 rfl rfl ?_
  refine own_bipush 48 (6 : Int32) X0 hx hby d1_46 rfl (by decide) ?_
  refine own_icN 51 X0 hx hby d1_48 rfl (teq hc12).2 ?_
  refine own_getS 54 X0 hx hby hZ hown (own_w hw 35 rfl) e0 (W.2.2.2.2.2.2.2.2.2.2.1.ext O0.2) d1_51 rfl ?_
  intro T13 X13 e13
  exact own_ret (Q := own_Q _ n0 h0) X13 hx hby hret hlk d1_54 rfl (Or.inr (Or.inr (Or.inr (Or.inr ⟨rfl, rfl, rfl⟩)))) (by decide) (by decide) ⟨rfl, N0, e13⟩
set_option maxRecDepth 65536 in
set_option maxHeartbeats 40000000 in
theorem rm1_7 (l : Launch) (Z : State) (a0 : Array Value) (hw : ∀ d ∈ tables_1, d.before a0 Z = true) (ws : List Jvm.Cond) (w_HELLO w_ADD_SERVICE w_GET_SERVICE w_LIST_SERVICES w_TRANSLATE w_RESOLVE w_RELEASE w_STATUS w_WAITING w_WATCH w_ACQUIRE w_RETIRE w_RESULT w_FAILURE w_DEAD w_COUNT_WAITING w_CLOSING w_UNHELD w_OPEN w_TRANSACTION w_REPLY w_KNOCK w_ALL k_ALL : Addr) (W : own_W Z w_HELLO w_ADD_SERVICE w_GET_SERVICE w_LIST_SERVICES w_TRANSLATE w_RESOLVE w_RELEASE w_STATUS w_WAITING w_WATCH w_ACQUIRE w_RETIRE w_RESULT w_FAILURE w_DEAD w_COUNT_WAITING w_CLOSING w_UNHELD w_OPEN w_TRANSACTION w_REPLY w_KNOCK w_ALL k_ALL) (x0 : Int32) (h0 : Heap) (n0 : Nat) (O0 : Old Z n0 h0) (hc2 : ¬ (x0 = (1 : Int32))) (hc4 : ¬ (x0 = (2 : Int32))) (hc6 : ¬ (x0 = (3 : Int32))) (hc8 : ¬ (x0 = (4 : Int32))) (hc10 : ¬ (x0 = (5 : Int32))) (hc12 : ¬ (x0 = (6 : Int32))) (hc14 : x0 = (7 : Int32)) :
    MetFree l (⟨"com/example/hop1/hop1/protocol/FrameKindOfPinLaw", "expected", "(I)Lcom/example/hop1/hop1/protocol/FrameKind;"⟩ : MethodName) (head1 (Jvm.Cond.code (⟨"com/example/hop1/hop1/protocol/FrameKindOfPinLaw", "expected", "(I)Lcom/example/hop1/hop1/protocol/FrameKind;"⟩ : MethodName) method_2_code 1 (some (.object "com/example/hop1/hop1/protocol/FrameKind")) :: ws) ({ frames := 0, cells := 0, slots := 0, locals := 0 } : Room)) (fun a U => a = #[(.int x0)] ∧ Z.Warmed39 U.vm ∧ U.heap = h0) (fun _ _ _ _ _ => True) (fun _ U o U' => ∃ v L, o = .returned v ∧ own_Q (some (.ref w_RELEASE)) n0 h0 v U'.heap L ∧ FrameEnd U o U' L ({ frames := 0, cells := 0, slots := 0, locals := 0 } : Room).cells ({ frames := 0, cells := 0, slots := 0, locals := 0 } : Room).slots) := by
  refine MetFree.of_bodySF (plainFor_of_name pn_0) hisR ?_
  intro p e s m args below meth c s₁ Bd hml0 hP hK
  obtain ⟨rfl, hZ, hh⟩ := hP
  have hx := Bd.exec
  have hby := Bd.bytes
  have hml : c.maxLocals = 1 := hml0
  have hlk := BodyLoose.notSynchronized Bd
  have hret := Bd.returns
  have hown : s.vm.findClass "com/example/hop1/hop1/protocol/FrameKindOfPinLaw" = some m.cls := findClass_of_methodNamed Bd.named
  have hnm := (name_of_methodNamed Bd.named Bd.method).1
  have X0 : Stand p l e ({ frames := 0, cells := 0, slots := 0, locals := 0 } : Room) s m #[(.int x0)] below meth c s₁ [] 0 0 := Stand.of_body Bd
  have e0 : s₁.heap = h0 := by rw [← hh, Bd.state]; rfl
  have N0 := Fr.nil n0
  rw [ef_1 m x0]
  show Go p e below _ (s₁.setTop (mkF m 0 #[oI x0] []))
  refine own_iload_n 1 X0 hx hby d1_0 rfl rfl ?_
  refine own_iconst 2 (1 : Int32) X0 hx hby d1_1 rfl (by decide) ?_
  refine own_icY 9 X0 hx hby d1_2 (by decide) (by decide) (feq hc2).2 ?_
  refine own_iload_n 10 X0 hx hby d1_9 rfl rfl ?_
  refine own_iconst 11 (2 : Int32) X0 hx hby d1_10 rfl (by decide) ?_
  refine own_icY 18 X0 hx hby d1_11 (by decide) (by decide) (feq hc4).2 ?_
  refine own_iload_n 19 X0 hx hby d1_18 rfl rfl ?_
  refine own_iconst 20 (3 : Int32) X0 hx hby d1_19 rfl (by decide) ?_
  refine own_icY 27 X0 hx hby d1_20 (by decide) (by decide) (feq hc6).2 ?_
  refine own_iload_n 28 X0 hx hby d1_27 rfl rfl ?_
  refine own_iconst 29 (4 : Int32) X0 hx hby d1_28 rfl (by decide) ?_
  refine own_icY 36 X0 hx hby d1_29 (by decide) (by decide) (feq hc8).2 ?_
  refine own_iload_n 37 X0 hx hby d1_36 rfl rfl ?_
  refine own_iconst 38 (5 : Int32) X0 hx hby d1_37 rfl (by decide) ?_
  refine own_icY 45 X0 hx hby d1_38 (by decide) (by decide) (feq hc10).2 ?_
  refine own_iload_n 46 X0 hx hby d1_45 rfl rfl ?_
  refine own_bipush 48 (6 : Int32) X0 hx hby d1_46 rfl (by decide) ?_
  refine own_icY 55 X0 hx hby d1_48 (by decide) (by decide) (feq hc12).2 ?_
  refine own_iload_n 56 X0 hx hby d1_55 rfl rfl ?_
  refine own_bipush 58 (7 : Int32) X0 hx hby d1_56 rfl (by decide) ?_
  refine own_icN 61 X0 hx hby d1_58 rfl (teq hc14).2 ?_
  refine own_getS 64 X0 hx hby hZ hown (own_w hw 42 rfl) e0 (W.2.2.2.2.2.2.2.2.2.2.2.2.1.ext O0.2) d1_61 rfl ?_
  intro T15 X15 e15
  exact own_ret (Q := own_Q _ n0 h0) X15 hx hby hret hlk d1_64 rfl (Or.inr (Or.inr (Or.inr (Or.inr ⟨rfl, rfl, rfl⟩)))) (by decide) (by decide) ⟨rfl, N0, e15⟩
set_option maxRecDepth 65536 in
set_option maxHeartbeats 40000000 in
theorem rm1_8 (l : Launch) (Z : State) (a0 : Array Value) (hw : ∀ d ∈ tables_1, d.before a0 Z = true) (ws : List Jvm.Cond) (w_HELLO w_ADD_SERVICE w_GET_SERVICE w_LIST_SERVICES w_TRANSLATE w_RESOLVE w_RELEASE w_STATUS w_WAITING w_WATCH w_ACQUIRE w_RETIRE w_RESULT w_FAILURE w_DEAD w_COUNT_WAITING w_CLOSING w_UNHELD w_OPEN w_TRANSACTION w_REPLY w_KNOCK w_ALL k_ALL : Addr) (W : own_W Z w_HELLO w_ADD_SERVICE w_GET_SERVICE w_LIST_SERVICES w_TRANSLATE w_RESOLVE w_RELEASE w_STATUS w_WAITING w_WATCH w_ACQUIRE w_RETIRE w_RESULT w_FAILURE w_DEAD w_COUNT_WAITING w_CLOSING w_UNHELD w_OPEN w_TRANSACTION w_REPLY w_KNOCK w_ALL k_ALL) (x0 : Int32) (h0 : Heap) (n0 : Nat) (O0 : Old Z n0 h0) (hc2 : ¬ (x0 = (1 : Int32))) (hc4 : ¬ (x0 = (2 : Int32))) (hc6 : ¬ (x0 = (3 : Int32))) (hc8 : ¬ (x0 = (4 : Int32))) (hc10 : ¬ (x0 = (5 : Int32))) (hc12 : ¬ (x0 = (6 : Int32))) (hc14 : ¬ (x0 = (7 : Int32))) (hc16 : x0 = (8 : Int32)) :
    MetFree l (⟨"com/example/hop1/hop1/protocol/FrameKindOfPinLaw", "expected", "(I)Lcom/example/hop1/hop1/protocol/FrameKind;"⟩ : MethodName) (head1 (Jvm.Cond.code (⟨"com/example/hop1/hop1/protocol/FrameKindOfPinLaw", "expected", "(I)Lcom/example/hop1/hop1/protocol/FrameKind;"⟩ : MethodName) method_2_code 1 (some (.object "com/example/hop1/hop1/protocol/FrameKind")) :: ws) ({ frames := 0, cells := 0, slots := 0, locals := 0 } : Room)) (fun a U => a = #[(.int x0)] ∧ Z.Warmed39 U.vm ∧ U.heap = h0) (fun _ _ _ _ _ => True) (fun _ U o U' => ∃ v L, o = .returned v ∧ own_Q (some (.ref w_STATUS)) n0 h0 v U'.heap L ∧ FrameEnd U o U' L ({ frames := 0, cells := 0, slots := 0, locals := 0 } : Room).cells ({ frames := 0, cells := 0, slots := 0, locals := 0 } : Room).slots) := by
  refine MetFree.of_bodySF (plainFor_of_name pn_0) hisR ?_
  intro p e s m args below meth c s₁ Bd hml0 hP hK
  obtain ⟨rfl, hZ, hh⟩ := hP
  have hx := Bd.exec
  have hby := Bd.bytes
  have hml : c.maxLocals = 1 := hml0
  have hlk := BodyLoose.notSynchronized Bd
  have hret := Bd.returns
  have hown : s.vm.findClass "com/example/hop1/hop1/protocol/FrameKindOfPinLaw" = some m.cls := findClass_of_methodNamed Bd.named
  have hnm := (name_of_methodNamed Bd.named Bd.method).1
  have X0 : Stand p l e ({ frames := 0, cells := 0, slots := 0, locals := 0 } : Room) s m #[(.int x0)] below meth c s₁ [] 0 0 := Stand.of_body Bd
  have e0 : s₁.heap = h0 := by rw [← hh, Bd.state]; rfl
  have N0 := Fr.nil n0
  rw [ef_1 m x0]
  show Go p e below _ (s₁.setTop (mkF m 0 #[oI x0] []))
  refine own_iload_n 1 X0 hx hby d1_0 rfl rfl ?_
  refine own_iconst 2 (1 : Int32) X0 hx hby d1_1 rfl (by decide) ?_
  refine own_icY 9 X0 hx hby d1_2 (by decide) (by decide) (feq hc2).2 ?_
  refine own_iload_n 10 X0 hx hby d1_9 rfl rfl ?_
  refine own_iconst 11 (2 : Int32) X0 hx hby d1_10 rfl (by decide) ?_
  refine own_icY 18 X0 hx hby d1_11 (by decide) (by decide) (feq hc4).2 ?_
  refine own_iload_n 19 X0 hx hby d1_18 rfl rfl ?_
  refine own_iconst 20 (3 : Int32) X0 hx hby d1_19 rfl (by decide) ?_
  refine own_icY 27 X0 hx hby d1_20 (by decide) (by decide) (feq hc6).2 ?_
  refine own_iload_n 28 X0 hx hby d1_27 rfl rfl ?_
  refine own_iconst 29 (4 : Int32) X0 hx hby d1_28 rfl (by decide) ?_
  refine own_icY 36 X0 hx hby d1_29 (by decide) (by decide) (feq hc8).2 ?_
  refine own_iload_n 37 X0 hx hby d1_36 rfl rfl ?_
  refine own_iconst 38 (5 : Int32) X0 hx hby d1_37 rfl (by decide) ?_
  refine own_icY 45 X0 hx hby d1_38 (by decide) (by decide) (feq hc10).2 ?_
  refine own_iload_n 46 X0 hx hby d1_45 rfl rfl ?_
  refine own_bipush 48 (6 : Int32) X0 hx hby d1_46 rfl (by decide) ?_
  refine own_icY 55 X0 hx hby d1_48 (by decide) (by decide) (feq hc12).2 ?_
  refine own_iload_n 56 X0 hx hby d1_55 rfl rfl ?_
  refine own_bipush 58 (7 : Int32) X0 hx hby d1_56 rfl (by decide) ?_
  refine own_icY 65 X0 hx hby d1_58 (by decide) (by decide) (feq hc14).2 ?_
  refine own_iload_n 66 X0 hx hby d1_65 rfl rfl ?_
  refine own_bipush 68 (8 : Int32) X0 hx hby d1_66 rfl (by decide) ?_
  refine own_icN 71 X0 hx hby d1_68 rfl (teq hc16).2 ?_
  refine own_getS 74 X0 hx hby hZ hown (own_w hw 34 rfl) e0 (W.2.2.2.2.2.2.2.2.2.2.2.2.2.2.1.ext O0.2) d1_71 rfl ?_
  intro T17 X17 e17
  exact own_ret (Q := own_Q _ n0 h0) X17 hx hby hret hlk d1_74 rfl (Or.inr (Or.inr (Or.inr (Or.inr ⟨rfl, rfl, rfl⟩)))) (by decide) (by decide) ⟨rfl, N0, e17⟩
set_option maxRecDepth 65536 in
set_option maxHeartbeats 40000000 in
theorem rm1_9 (l : Launch) (Z : State) (a0 : Array Value) (hw : ∀ d ∈ tables_1, d.before a0 Z = true) (ws : List Jvm.Cond) (w_HELLO w_ADD_SERVICE w_GET_SERVICE w_LIST_SERVICES w_TRANSLATE w_RESOLVE w_RELEASE w_STATUS w_WAITING w_WATCH w_ACQUIRE w_RETIRE w_RESULT w_FAILURE w_DEAD w_COUNT_WAITING w_CLOSING w_UNHELD w_OPEN w_TRANSACTION w_REPLY w_KNOCK w_ALL k_ALL : Addr) (W : own_W Z w_HELLO w_ADD_SERVICE w_GET_SERVICE w_LIST_SERVICES w_TRANSLATE w_RESOLVE w_RELEASE w_STATUS w_WAITING w_WATCH w_ACQUIRE w_RETIRE w_RESULT w_FAILURE w_DEAD w_COUNT_WAITING w_CLOSING w_UNHELD w_OPEN w_TRANSACTION w_REPLY w_KNOCK w_ALL k_ALL) (x0 : Int32) (h0 : Heap) (n0 : Nat) (O0 : Old Z n0 h0) (hc2 : ¬ (x0 = (1 : Int32))) (hc4 : ¬ (x0 = (2 : Int32))) (hc6 : ¬ (x0 = (3 : Int32))) (hc8 : ¬ (x0 = (4 : Int32))) (hc10 : ¬ (x0 = (5 : Int32))) (hc12 : ¬ (x0 = (6 : Int32))) (hc14 : ¬ (x0 = (7 : Int32))) (hc16 : ¬ (x0 = (8 : Int32))) (hc18 : x0 = (9 : Int32)) :
    MetFree l (⟨"com/example/hop1/hop1/protocol/FrameKindOfPinLaw", "expected", "(I)Lcom/example/hop1/hop1/protocol/FrameKind;"⟩ : MethodName) (head1 (Jvm.Cond.code (⟨"com/example/hop1/hop1/protocol/FrameKindOfPinLaw", "expected", "(I)Lcom/example/hop1/hop1/protocol/FrameKind;"⟩ : MethodName) method_2_code 1 (some (.object "com/example/hop1/hop1/protocol/FrameKind")) :: ws) ({ frames := 0, cells := 0, slots := 0, locals := 0 } : Room)) (fun a U => a = #[(.int x0)] ∧ Z.Warmed39 U.vm ∧ U.heap = h0) (fun _ _ _ _ _ => True) (fun _ U o U' => ∃ v L, o = .returned v ∧ own_Q (some (.ref w_WAITING)) n0 h0 v U'.heap L ∧ FrameEnd U o U' L ({ frames := 0, cells := 0, slots := 0, locals := 0 } : Room).cells ({ frames := 0, cells := 0, slots := 0, locals := 0 } : Room).slots) := by
  refine MetFree.of_bodySF (plainFor_of_name pn_0) hisR ?_
  intro p e s m args below meth c s₁ Bd hml0 hP hK
  obtain ⟨rfl, hZ, hh⟩ := hP
  have hx := Bd.exec
  have hby := Bd.bytes
  have hml : c.maxLocals = 1 := hml0
  have hlk := BodyLoose.notSynchronized Bd
  have hret := Bd.returns
  have hown : s.vm.findClass "com/example/hop1/hop1/protocol/FrameKindOfPinLaw" = some m.cls := findClass_of_methodNamed Bd.named
  have hnm := (name_of_methodNamed Bd.named Bd.method).1
  have X0 : Stand p l e ({ frames := 0, cells := 0, slots := 0, locals := 0 } : Room) s m #[(.int x0)] below meth c s₁ [] 0 0 := Stand.of_body Bd
  have e0 : s₁.heap = h0 := by rw [← hh, Bd.state]; rfl
  have N0 := Fr.nil n0
  rw [ef_1 m x0]
  show Go p e below _ (s₁.setTop (mkF m 0 #[oI x0] []))
  refine own_iload_n 1 X0 hx hby d1_0 rfl rfl ?_
  refine own_iconst 2 (1 : Int32) X0 hx hby d1_1 rfl (by decide) ?_
  refine own_icY 9 X0 hx hby d1_2 (by decide) (by decide) (feq hc2).2 ?_
  refine own_iload_n 10 X0 hx hby d1_9 rfl rfl ?_
  refine own_iconst 11 (2 : Int32) X0 hx hby d1_10 rfl (by decide) ?_
  refine own_icY 18 X0 hx hby d1_11 (by decide) (by decide) (feq hc4).2 ?_
  refine own_iload_n 19 X0 hx hby d1_18 rfl rfl ?_
  refine own_iconst 20 (3 : Int32) X0 hx hby d1_19 rfl (by decide) ?_
  refine own_icY 27 X0 hx hby d1_20 (by decide) (by decide) (feq hc6).2 ?_
  refine own_iload_n 28 X0 hx hby d1_27 rfl rfl ?_
  refine own_iconst 29 (4 : Int32) X0 hx hby d1_28 rfl (by decide) ?_
  refine own_icY 36 X0 hx hby d1_29 (by decide) (by decide) (feq hc8).2 ?_
  refine own_iload_n 37 X0 hx hby d1_36 rfl rfl ?_
  refine own_iconst 38 (5 : Int32) X0 hx hby d1_37 rfl (by decide) ?_
  refine own_icY 45 X0 hx hby d1_38 (by decide) (by decide) (feq hc10).2 ?_
  refine own_iload_n 46 X0 hx hby d1_45 rfl rfl ?_
  refine own_bipush 48 (6 : Int32) X0 hx hby d1_46 rfl (by decide) ?_
  refine own_icY 55 X0 hx hby d1_48 (by decide) (by decide) (feq hc12).2 ?_
  refine own_iload_n 56 X0 hx hby d1_55 rfl rfl ?_
  refine own_bipush 58 (7 : Int32) X0 hx hby d1_56 rfl (by decide) ?_
  refine own_icY 65 X0 hx hby d1_58 (by decide) (by decide) (feq hc14).2 ?_
  refine own_iload_n 66 X0 hx hby d1_65 rfl rfl ?_
  refine own_bipush 68 (8 : Int32) X0 hx hby d1_66 rfl (by decide) ?_
  refine own_icY 75 X0 hx hby d1_68 (by decide) (by decide) (feq hc16).2 ?_
  refine own_iload_n 76 X0 hx hby d1_75 rfl rfl ?_
  refine own_bipush 78 (9 : Int32) X0 hx hby d1_76 rfl (by decide) ?_
  refine own_icN 81 X0 hx hby d1_78 rfl (teq hc18).2 ?_
  refine own_getS 84 X0 hx hby hZ hown (own_w hw 46 rfl) e0 (W.2.2.2.2.2.2.2.2.2.2.2.2.2.2.2.2.1.ext O0.2) d1_81 rfl ?_
  intro T19 X19 e19
  exact own_ret (Q := own_Q _ n0 h0) X19 hx hby hret hlk d1_84 rfl (Or.inr (Or.inr (Or.inr (Or.inr ⟨rfl, rfl, rfl⟩)))) (by decide) (by decide) ⟨rfl, N0, e19⟩
set_option maxRecDepth 65536 in
set_option maxHeartbeats 40000000 in
theorem rm1_10 (l : Launch) (Z : State) (a0 : Array Value) (hw : ∀ d ∈ tables_1, d.before a0 Z = true) (ws : List Jvm.Cond) (w_HELLO w_ADD_SERVICE w_GET_SERVICE w_LIST_SERVICES w_TRANSLATE w_RESOLVE w_RELEASE w_STATUS w_WAITING w_WATCH w_ACQUIRE w_RETIRE w_RESULT w_FAILURE w_DEAD w_COUNT_WAITING w_CLOSING w_UNHELD w_OPEN w_TRANSACTION w_REPLY w_KNOCK w_ALL k_ALL : Addr) (W : own_W Z w_HELLO w_ADD_SERVICE w_GET_SERVICE w_LIST_SERVICES w_TRANSLATE w_RESOLVE w_RELEASE w_STATUS w_WAITING w_WATCH w_ACQUIRE w_RETIRE w_RESULT w_FAILURE w_DEAD w_COUNT_WAITING w_CLOSING w_UNHELD w_OPEN w_TRANSACTION w_REPLY w_KNOCK w_ALL k_ALL) (x0 : Int32) (h0 : Heap) (n0 : Nat) (O0 : Old Z n0 h0) (hc2 : ¬ (x0 = (1 : Int32))) (hc4 : ¬ (x0 = (2 : Int32))) (hc6 : ¬ (x0 = (3 : Int32))) (hc8 : ¬ (x0 = (4 : Int32))) (hc10 : ¬ (x0 = (5 : Int32))) (hc12 : ¬ (x0 = (6 : Int32))) (hc14 : ¬ (x0 = (7 : Int32))) (hc16 : ¬ (x0 = (8 : Int32))) (hc18 : ¬ (x0 = (9 : Int32))) (hc20 : x0 = (10 : Int32)) :
    MetFree l (⟨"com/example/hop1/hop1/protocol/FrameKindOfPinLaw", "expected", "(I)Lcom/example/hop1/hop1/protocol/FrameKind;"⟩ : MethodName) (head1 (Jvm.Cond.code (⟨"com/example/hop1/hop1/protocol/FrameKindOfPinLaw", "expected", "(I)Lcom/example/hop1/hop1/protocol/FrameKind;"⟩ : MethodName) method_2_code 1 (some (.object "com/example/hop1/hop1/protocol/FrameKind")) :: ws) ({ frames := 0, cells := 0, slots := 0, locals := 0 } : Room)) (fun a U => a = #[(.int x0)] ∧ Z.Warmed39 U.vm ∧ U.heap = h0) (fun _ _ _ _ _ => True) (fun _ U o U' => ∃ v L, o = .returned v ∧ own_Q (some (.ref w_WATCH)) n0 h0 v U'.heap L ∧ FrameEnd U o U' L ({ frames := 0, cells := 0, slots := 0, locals := 0 } : Room).cells ({ frames := 0, cells := 0, slots := 0, locals := 0 } : Room).slots) := by
  refine MetFree.of_bodySF (plainFor_of_name pn_0) hisR ?_
  intro p e s m args below meth c s₁ Bd hml0 hP hK
  obtain ⟨rfl, hZ, hh⟩ := hP
  have hx := Bd.exec
  have hby := Bd.bytes
  have hml : c.maxLocals = 1 := hml0
  have hlk := BodyLoose.notSynchronized Bd
  have hret := Bd.returns
  have hown : s.vm.findClass "com/example/hop1/hop1/protocol/FrameKindOfPinLaw" = some m.cls := findClass_of_methodNamed Bd.named
  have hnm := (name_of_methodNamed Bd.named Bd.method).1
  have X0 : Stand p l e ({ frames := 0, cells := 0, slots := 0, locals := 0 } : Room) s m #[(.int x0)] below meth c s₁ [] 0 0 := Stand.of_body Bd
  have e0 : s₁.heap = h0 := by rw [← hh, Bd.state]; rfl
  have N0 := Fr.nil n0
  rw [ef_1 m x0]
  show Go p e below _ (s₁.setTop (mkF m 0 #[oI x0] []))
  refine own_iload_n 1 X0 hx hby d1_0 rfl rfl ?_
  refine own_iconst 2 (1 : Int32) X0 hx hby d1_1 rfl (by decide) ?_
  refine own_icY 9 X0 hx hby d1_2 (by decide) (by decide) (feq hc2).2 ?_
  refine own_iload_n 10 X0 hx hby d1_9 rfl rfl ?_
  refine own_iconst 11 (2 : Int32) X0 hx hby d1_10 rfl (by decide) ?_
  refine own_icY 18 X0 hx hby d1_11 (by decide) (by decide) (feq hc4).2 ?_
  refine own_iload_n 19 X0 hx hby d1_18 rfl rfl ?_
  refine own_iconst 20 (3 : Int32) X0 hx hby d1_19 rfl (by decide) ?_
  refine own_icY 27 X0 hx hby d1_20 (by decide) (by decide) (feq hc6).2 ?_
  refine own_iload_n 28 X0 hx hby d1_27 rfl rfl ?_
  refine own_iconst 29 (4 : Int32) X0 hx hby d1_28 rfl (by decide) ?_
  refine own_icY 36 X0 hx hby d1_29 (by decide) (by decide) (feq hc8).2 ?_
  refine own_iload_n 37 X0 hx hby d1_36 rfl rfl ?_
  refine own_iconst 38 (5 : Int32) X0 hx hby d1_37 rfl (by decide) ?_
  refine own_icY 45 X0 hx hby d1_38 (by decide) (by decide) (feq hc10).2 ?_
  refine own_iload_n 46 X0 hx hby d1_45 rfl rfl ?_
  refine own_bipush 48 (6 : Int32) X0 hx hby d1_46 rfl (by decide) ?_
  refine own_icY 55 X0 hx hby d1_48 (by decide) (by decide) (feq hc12).2 ?_
  refine own_iload_n 56 X0 hx hby d1_55 rfl rfl ?_
  refine own_bipush 58 (7 : Int32) X0 hx hby d1_56 rfl (by decide) ?_
  refine own_icY 65 X0 hx hby d1_58 (by decide) (by decide) (feq hc14).2 ?_
  refine own_iload_n 66 X0 hx hby d1_65 rfl rfl ?_
  refine own_bipush 68 (8 : Int32) X0 hx hby d1_66 rfl (by decide) ?_
  refine own_icY 75 X0 hx hby d1_68 (by decide) (by decide) (feq hc16).2 ?_
  refine own_iload_n 76 X0 hx hby d1_75 rfl rfl ?_
  refine own_bipush 78 (9 : Int32) X0 hx hby d1_76 rfl (by decide) ?_
  refine own_icY 85 X0 hx hby d1_78 (by decide) (by decide) (feq hc18).2 ?_
  refine own_iload_n 86 X0 hx hby d1_85 rfl rfl ?_
  refine own_bipush 88 (10 : Int32) X0 hx hby d1_86 rfl (by decide) ?_
  refine own_icN 91 X0 hx hby d1_88 rfl (teq hc20).2 ?_
  refine own_getS 94 X0 hx hby hZ hown (own_w hw 43 rfl) e0 (W.2.2.2.2.2.2.2.2.2.2.2.2.2.2.2.2.2.2.1.ext O0.2) d1_91 rfl ?_
  intro T21 X21 e21
  exact own_ret (Q := own_Q _ n0 h0) X21 hx hby hret hlk d1_94 rfl (Or.inr (Or.inr (Or.inr (Or.inr ⟨rfl, rfl, rfl⟩)))) (by decide) (by decide) ⟨rfl, N0, e21⟩
set_option maxRecDepth 65536 in
set_option maxHeartbeats 40000000 in
theorem rm1_11 (l : Launch) (Z : State) (a0 : Array Value) (hw : ∀ d ∈ tables_1, d.before a0 Z = true) (ws : List Jvm.Cond) (w_HELLO w_ADD_SERVICE w_GET_SERVICE w_LIST_SERVICES w_TRANSLATE w_RESOLVE w_RELEASE w_STATUS w_WAITING w_WATCH w_ACQUIRE w_RETIRE w_RESULT w_FAILURE w_DEAD w_COUNT_WAITING w_CLOSING w_UNHELD w_OPEN w_TRANSACTION w_REPLY w_KNOCK w_ALL k_ALL : Addr) (W : own_W Z w_HELLO w_ADD_SERVICE w_GET_SERVICE w_LIST_SERVICES w_TRANSLATE w_RESOLVE w_RELEASE w_STATUS w_WAITING w_WATCH w_ACQUIRE w_RETIRE w_RESULT w_FAILURE w_DEAD w_COUNT_WAITING w_CLOSING w_UNHELD w_OPEN w_TRANSACTION w_REPLY w_KNOCK w_ALL k_ALL) (x0 : Int32) (h0 : Heap) (n0 : Nat) (O0 : Old Z n0 h0) (hc2 : ¬ (x0 = (1 : Int32))) (hc4 : ¬ (x0 = (2 : Int32))) (hc6 : ¬ (x0 = (3 : Int32))) (hc8 : ¬ (x0 = (4 : Int32))) (hc10 : ¬ (x0 = (5 : Int32))) (hc12 : ¬ (x0 = (6 : Int32))) (hc14 : ¬ (x0 = (7 : Int32))) (hc16 : ¬ (x0 = (8 : Int32))) (hc18 : ¬ (x0 = (9 : Int32))) (hc20 : ¬ (x0 = (10 : Int32))) (hc22 : x0 = (11 : Int32)) :
    MetFree l (⟨"com/example/hop1/hop1/protocol/FrameKindOfPinLaw", "expected", "(I)Lcom/example/hop1/hop1/protocol/FrameKind;"⟩ : MethodName) (head1 (Jvm.Cond.code (⟨"com/example/hop1/hop1/protocol/FrameKindOfPinLaw", "expected", "(I)Lcom/example/hop1/hop1/protocol/FrameKind;"⟩ : MethodName) method_2_code 1 (some (.object "com/example/hop1/hop1/protocol/FrameKind")) :: ws) ({ frames := 0, cells := 0, slots := 0, locals := 0 } : Room)) (fun a U => a = #[(.int x0)] ∧ Z.Warmed39 U.vm ∧ U.heap = h0) (fun _ _ _ _ _ => True) (fun _ U o U' => ∃ v L, o = .returned v ∧ own_Q (some (.ref w_ACQUIRE)) n0 h0 v U'.heap L ∧ FrameEnd U o U' L ({ frames := 0, cells := 0, slots := 0, locals := 0 } : Room).cells ({ frames := 0, cells := 0, slots := 0, locals := 0 } : Room).slots) := by
  refine MetFree.of_bodySF (plainFor_of_name pn_0) hisR ?_
  intro p e s m args below meth c s₁ Bd hml0 hP hK
  obtain ⟨rfl, hZ, hh⟩ := hP
  have hx := Bd.exec
  have hby := Bd.bytes
  have hml : c.maxLocals = 1 := hml0
  have hlk := BodyLoose.notSynchronized Bd
  have hret := Bd.returns
  have hown : s.vm.findClass "com/example/hop1/hop1/protocol/FrameKindOfPinLaw" = some m.cls := findClass_of_methodNamed Bd.named
  have hnm := (name_of_methodNamed Bd.named Bd.method).1
  have X0 : Stand p l e ({ frames := 0, cells := 0, slots := 0, locals := 0 } : Room) s m #[(.int x0)] below meth c s₁ [] 0 0 := Stand.of_body Bd
  have e0 : s₁.heap = h0 := by rw [← hh, Bd.state]; rfl
  have N0 := Fr.nil n0
  rw [ef_1 m x0]
  show Go p e below _ (s₁.setTop (mkF m 0 #[oI x0] []))
  refine own_iload_n 1 X0 hx hby d1_0 rfl rfl ?_
  refine own_iconst 2 (1 : Int32) X0 hx hby d1_1 rfl (by decide) ?_
  refine own_icY 9 X0 hx hby d1_2 (by decide) (by decide) (feq hc2).2 ?_
  refine own_iload_n 10 X0 hx hby d1_9 rfl rfl ?_
  refine own_iconst 11 (2 : Int32) X0 hx hby d1_10 rfl (by decide) ?_
  refine own_icY 18 X0 hx hby d1_11 (by decide) (by decide) (feq hc4).2 ?_
  refine own_iload_n 19 X0 hx hby d1_18 rfl rfl ?_
  refine own_iconst 20 (3 : Int32) X0 hx hby d1_19 rfl (by decide) ?_
  refine own_icY 27 X0 hx hby d1_20 (by decide) (by decide) (feq hc6).2 ?_
  refine own_iload_n 28 X0 hx hby d1_27 rfl rfl ?_
  refine own_iconst 29 (4 : Int32) X0 hx hby d1_28 rfl (by decide) ?_
  refine own_icY 36 X0 hx hby d1_29 (by decide) (by decide) (feq hc8).2 ?_
  refine own_iload_n 37 X0 hx hby d1_36 rfl rfl ?_
  refine own_iconst 38 (5 : Int32) X0 hx hby d1_37 rfl (by decide) ?_
  refine own_icY 45 X0 hx hby d1_38 (by decide) (by decide) (feq hc10).2 ?_
  refine own_iload_n 46 X0 hx hby d1_45 rfl rfl ?_
  refine own_bipush 48 (6 : Int32) X0 hx hby d1_46 rfl (by decide) ?_
  refine own_icY 55 X0 hx hby d1_48 (by decide) (by decide) (feq hc12).2 ?_
  refine own_iload_n 56 X0 hx hby d1_55 rfl rfl ?_
  refine own_bipush 58 (7 : Int32) X0 hx hby d1_56 rfl (by decide) ?_
  refine own_icY 65 X0 hx hby d1_58 (by decide) (by decide) (feq hc14).2 ?_
  refine own_iload_n 66 X0 hx hby d1_65 rfl rfl ?_
  refine own_bipush 68 (8 : Int32) X0 hx hby d1_66 rfl (by decide) ?_
  refine own_icY 75 X0 hx hby d1_68 (by decide) (by decide) (feq hc16).2 ?_
  refine own_iload_n 76 X0 hx hby d1_75 rfl rfl ?_
  refine own_bipush 78 (9 : Int32) X0 hx hby d1_76 rfl (by decide) ?_
  refine own_icY 85 X0 hx hby d1_78 (by decide) (by decide) (feq hc18).2 ?_
  refine own_iload_n 86 X0 hx hby d1_85 rfl rfl ?_
  refine own_bipush 88 (10 : Int32) X0 hx hby d1_86 rfl (by decide) ?_
  refine own_icY 95 X0 hx hby d1_88 (by decide) (by decide) (feq hc20).2 ?_
  refine own_iload_n 96 X0 hx hby d1_95 rfl rfl ?_
  refine own_bipush 98 (11 : Int32) X0 hx hby d1_96 rfl (by decide) ?_
  refine own_icN 101 X0 hx hby d1_98 rfl (teq hc22).2 ?_
  refine own_getS 104 X0 hx hby hZ hown (own_w hw 44 rfl) e0 (W.2.2.2.2.2.2.2.2.2.2.2.2.2.2.2.2.2.2.2.2.1.ext O0.2) d1_101 rfl ?_
  intro T23 X23 e23
  exact own_ret (Q := own_Q _ n0 h0) X23 hx hby hret hlk d1_104 rfl (Or.inr (Or.inr (Or.inr (Or.inr ⟨rfl, rfl, rfl⟩)))) (by decide) (by decide) ⟨rfl, N0, e23⟩
set_option maxRecDepth 65536 in
set_option maxHeartbeats 40000000 in
theorem rm1_12 (l : Launch) (Z : State) (a0 : Array Value) (hw : ∀ d ∈ tables_1, d.before a0 Z = true) (ws : List Jvm.Cond) (w_HELLO w_ADD_SERVICE w_GET_SERVICE w_LIST_SERVICES w_TRANSLATE w_RESOLVE w_RELEASE w_STATUS w_WAITING w_WATCH w_ACQUIRE w_RETIRE w_RESULT w_FAILURE w_DEAD w_COUNT_WAITING w_CLOSING w_UNHELD w_OPEN w_TRANSACTION w_REPLY w_KNOCK w_ALL k_ALL : Addr) (W : own_W Z w_HELLO w_ADD_SERVICE w_GET_SERVICE w_LIST_SERVICES w_TRANSLATE w_RESOLVE w_RELEASE w_STATUS w_WAITING w_WATCH w_ACQUIRE w_RETIRE w_RESULT w_FAILURE w_DEAD w_COUNT_WAITING w_CLOSING w_UNHELD w_OPEN w_TRANSACTION w_REPLY w_KNOCK w_ALL k_ALL) (x0 : Int32) (h0 : Heap) (n0 : Nat) (O0 : Old Z n0 h0) (hc2 : ¬ (x0 = (1 : Int32))) (hc4 : ¬ (x0 = (2 : Int32))) (hc6 : ¬ (x0 = (3 : Int32))) (hc8 : ¬ (x0 = (4 : Int32))) (hc10 : ¬ (x0 = (5 : Int32))) (hc12 : ¬ (x0 = (6 : Int32))) (hc14 : ¬ (x0 = (7 : Int32))) (hc16 : ¬ (x0 = (8 : Int32))) (hc18 : ¬ (x0 = (9 : Int32))) (hc20 : ¬ (x0 = (10 : Int32))) (hc22 : ¬ (x0 = (11 : Int32))) (hc24 : x0 = (12 : Int32)) :
    MetFree l (⟨"com/example/hop1/hop1/protocol/FrameKindOfPinLaw", "expected", "(I)Lcom/example/hop1/hop1/protocol/FrameKind;"⟩ : MethodName) (head1 (Jvm.Cond.code (⟨"com/example/hop1/hop1/protocol/FrameKindOfPinLaw", "expected", "(I)Lcom/example/hop1/hop1/protocol/FrameKind;"⟩ : MethodName) method_2_code 1 (some (.object "com/example/hop1/hop1/protocol/FrameKind")) :: ws) ({ frames := 0, cells := 0, slots := 0, locals := 0 } : Room)) (fun a U => a = #[(.int x0)] ∧ Z.Warmed39 U.vm ∧ U.heap = h0) (fun _ _ _ _ _ => True) (fun _ U o U' => ∃ v L, o = .returned v ∧ own_Q (some (.ref w_RETIRE)) n0 h0 v U'.heap L ∧ FrameEnd U o U' L ({ frames := 0, cells := 0, slots := 0, locals := 0 } : Room).cells ({ frames := 0, cells := 0, slots := 0, locals := 0 } : Room).slots) := by
  refine MetFree.of_bodySF (plainFor_of_name pn_0) hisR ?_
  intro p e s m args below meth c s₁ Bd hml0 hP hK
  obtain ⟨rfl, hZ, hh⟩ := hP
  have hx := Bd.exec
  have hby := Bd.bytes
  have hml : c.maxLocals = 1 := hml0
  have hlk := BodyLoose.notSynchronized Bd
  have hret := Bd.returns
  have hown : s.vm.findClass "com/example/hop1/hop1/protocol/FrameKindOfPinLaw" = some m.cls := findClass_of_methodNamed Bd.named
  have hnm := (name_of_methodNamed Bd.named Bd.method).1
  have X0 : Stand p l e ({ frames := 0, cells := 0, slots := 0, locals := 0 } : Room) s m #[(.int x0)] below meth c s₁ [] 0 0 := Stand.of_body Bd
  have e0 : s₁.heap = h0 := by rw [← hh, Bd.state]; rfl
  have N0 := Fr.nil n0
  rw [ef_1 m x0]
  show Go p e below _ (s₁.setTop (mkF m 0 #[oI x0] []))
  refine own_iload_n 1 X0 hx hby d1_0 rfl rfl ?_
  refine own_iconst 2 (1 : Int32) X0 hx hby d1_1 rfl (by decide) ?_
  refine own_icY 9 X0 hx hby d1_2 (by decide) (by decide) (feq hc2).2 ?_
  refine own_iload_n 10 X0 hx hby d1_9 rfl rfl ?_
  refine own_iconst 11 (2 : Int32) X0 hx hby d1_10 rfl (by decide) ?_
  refine own_icY 18 X0 hx hby d1_11 (by decide) (by decide) (feq hc4).2 ?_
  refine own_iload_n 19 X0 hx hby d1_18 rfl rfl ?_
  refine own_iconst 20 (3 : Int32) X0 hx hby d1_19 rfl (by decide) ?_
  refine own_icY 27 X0 hx hby d1_20 (by decide) (by decide) (feq hc6).2 ?_
  refine own_iload_n 28 X0 hx hby d1_27 rfl rfl ?_
  refine own_iconst 29 (4 : Int32) X0 hx hby d1_28 rfl (by decide) ?_
  refine own_icY 36 X0 hx hby d1_29 (by decide) (by decide) (feq hc8).2 ?_
  refine own_iload_n 37 X0 hx hby d1_36 rfl rfl ?_
  refine own_iconst 38 (5 : Int32) X0 hx hby d1_37 rfl (by decide) ?_
  refine own_icY 45 X0 hx hby d1_38 (by decide) (by decide) (feq hc10).2 ?_
  refine own_iload_n 46 X0 hx hby d1_45 rfl rfl ?_
  refine own_bipush 48 (6 : Int32) X0 hx hby d1_46 rfl (by decide) ?_
  refine own_icY 55 X0 hx hby d1_48 (by decide) (by decide) (feq hc12).2 ?_
  refine own_iload_n 56 X0 hx hby d1_55 rfl rfl ?_
  refine own_bipush 58 (7 : Int32) X0 hx hby d1_56 rfl (by decide) ?_
  refine own_icY 65 X0 hx hby d1_58 (by decide) (by decide) (feq hc14).2 ?_
  refine own_iload_n 66 X0 hx hby d1_65 rfl rfl ?_
  refine own_bipush 68 (8 : Int32) X0 hx hby d1_66 rfl (by decide) ?_
  refine own_icY 75 X0 hx hby d1_68 (by decide) (by decide) (feq hc16).2 ?_
  refine own_iload_n 76 X0 hx hby d1_75 rfl rfl ?_
  refine own_bipush 78 (9 : Int32) X0 hx hby d1_76 rfl (by decide) ?_
  refine own_icY 85 X0 hx hby d1_78 (by decide) (by decide) (feq hc18).2 ?_
  refine own_iload_n 86 X0 hx hby d1_85 rfl rfl ?_
  refine own_bipush 88 (10 : Int32) X0 hx hby d1_86 rfl (by decide) ?_
  refine own_icY 95 X0 hx hby d1_88 (by decide) (by decide) (feq hc20).2 ?_
  refine own_iload_n 96 X0 hx hby d1_95 rfl rfl ?_
  refine own_bipush 98 (11 : Int32) X0 hx hby d1_96 rfl (by decide) ?_
  refine own_icY 105 X0 hx hby d1_98 (by decide) (by decide) (feq hc22).2 ?_
  refine own_iload_n 106 X0 hx hby d1_105 rfl rfl ?_
  refine own_bipush 108 (12 : Int32) X0 hx hby d1_106 rfl (by decide) ?_
  refine own_icN 111 X0 hx hby d1_108 rfl (teq hc24).2 ?_
  refine own_getS 114 X0 hx hby hZ hown (own_w hw 36 rfl) e0 (W.2.2.2.2.2.2.2.2.2.2.2.2.2.2.2.2.2.2.2.2.2.2.1.ext O0.2) d1_111 rfl ?_
  intro T25 X25 e25
  exact own_ret (Q := own_Q _ n0 h0) X25 hx hby hret hlk d1_114 rfl (Or.inr (Or.inr (Or.inr (Or.inr ⟨rfl, rfl, rfl⟩)))) (by decide) (by decide) ⟨rfl, N0, e25⟩
set_option maxRecDepth 65536 in
set_option maxHeartbeats 40000000 in
theorem rm1_13 (l : Launch) (Z : State) (a0 : Array Value) (hw : ∀ d ∈ tables_1, d.before a0 Z = true) (ws : List Jvm.Cond) (w_HELLO w_ADD_SERVICE w_GET_SERVICE w_LIST_SERVICES w_TRANSLATE w_RESOLVE w_RELEASE w_STATUS w_WAITING w_WATCH w_ACQUIRE w_RETIRE w_RESULT w_FAILURE w_DEAD w_COUNT_WAITING w_CLOSING w_UNHELD w_OPEN w_TRANSACTION w_REPLY w_KNOCK w_ALL k_ALL : Addr) (W : own_W Z w_HELLO w_ADD_SERVICE w_GET_SERVICE w_LIST_SERVICES w_TRANSLATE w_RESOLVE w_RELEASE w_STATUS w_WAITING w_WATCH w_ACQUIRE w_RETIRE w_RESULT w_FAILURE w_DEAD w_COUNT_WAITING w_CLOSING w_UNHELD w_OPEN w_TRANSACTION w_REPLY w_KNOCK w_ALL k_ALL) (x0 : Int32) (h0 : Heap) (n0 : Nat) (O0 : Old Z n0 h0) (hc2 : ¬ (x0 = (1 : Int32))) (hc4 : ¬ (x0 = (2 : Int32))) (hc6 : ¬ (x0 = (3 : Int32))) (hc8 : ¬ (x0 = (4 : Int32))) (hc10 : ¬ (x0 = (5 : Int32))) (hc12 : ¬ (x0 = (6 : Int32))) (hc14 : ¬ (x0 = (7 : Int32))) (hc16 : ¬ (x0 = (8 : Int32))) (hc18 : ¬ (x0 = (9 : Int32))) (hc20 : ¬ (x0 = (10 : Int32))) (hc22 : ¬ (x0 = (11 : Int32))) (hc24 : ¬ (x0 = (12 : Int32))) (hc26 : x0 = (16 : Int32)) :
    MetFree l (⟨"com/example/hop1/hop1/protocol/FrameKindOfPinLaw", "expected", "(I)Lcom/example/hop1/hop1/protocol/FrameKind;"⟩ : MethodName) (head1 (Jvm.Cond.code (⟨"com/example/hop1/hop1/protocol/FrameKindOfPinLaw", "expected", "(I)Lcom/example/hop1/hop1/protocol/FrameKind;"⟩ : MethodName) method_2_code 1 (some (.object "com/example/hop1/hop1/protocol/FrameKind")) :: ws) ({ frames := 0, cells := 0, slots := 0, locals := 0 } : Room)) (fun a U => a = #[(.int x0)] ∧ Z.Warmed39 U.vm ∧ U.heap = h0) (fun _ _ _ _ _ => True) (fun _ U o U' => ∃ v L, o = .returned v ∧ own_Q (some (.ref w_RESULT)) n0 h0 v U'.heap L ∧ FrameEnd U o U' L ({ frames := 0, cells := 0, slots := 0, locals := 0 } : Room).cells ({ frames := 0, cells := 0, slots := 0, locals := 0 } : Room).slots) := by
  refine MetFree.of_bodySF (plainFor_of_name pn_0) hisR ?_
  intro p e s m args below meth c s₁ Bd hml0 hP hK
  obtain ⟨rfl, hZ, hh⟩ := hP
  have hx := Bd.exec
  have hby := Bd.bytes
  have hml : c.maxLocals = 1 := hml0
  have hlk := BodyLoose.notSynchronized Bd
  have hret := Bd.returns
  have hown : s.vm.findClass "com/example/hop1/hop1/protocol/FrameKindOfPinLaw" = some m.cls := findClass_of_methodNamed Bd.named
  have hnm := (name_of_methodNamed Bd.named Bd.method).1
  have X0 : Stand p l e ({ frames := 0, cells := 0, slots := 0, locals := 0 } : Room) s m #[(.int x0)] below meth c s₁ [] 0 0 := Stand.of_body Bd
  have e0 : s₁.heap = h0 := by rw [← hh, Bd.state]; rfl
  have N0 := Fr.nil n0
  rw [ef_1 m x0]
  show Go p e below _ (s₁.setTop (mkF m 0 #[oI x0] []))
  refine own_iload_n 1 X0 hx hby d1_0 rfl rfl ?_
  refine own_iconst 2 (1 : Int32) X0 hx hby d1_1 rfl (by decide) ?_
  refine own_icY 9 X0 hx hby d1_2 (by decide) (by decide) (feq hc2).2 ?_
  refine own_iload_n 10 X0 hx hby d1_9 rfl rfl ?_
  refine own_iconst 11 (2 : Int32) X0 hx hby d1_10 rfl (by decide) ?_
  refine own_icY 18 X0 hx hby d1_11 (by decide) (by decide) (feq hc4).2 ?_
  refine own_iload_n 19 X0 hx hby d1_18 rfl rfl ?_
  refine own_iconst 20 (3 : Int32) X0 hx hby d1_19 rfl (by decide) ?_
  refine own_icY 27 X0 hx hby d1_20 (by decide) (by decide) (feq hc6).2 ?_
  refine own_iload_n 28 X0 hx hby d1_27 rfl rfl ?_
  refine own_iconst 29 (4 : Int32) X0 hx hby d1_28 rfl (by decide) ?_
  refine own_icY 36 X0 hx hby d1_29 (by decide) (by decide) (feq hc8).2 ?_
  refine own_iload_n 37 X0 hx hby d1_36 rfl rfl ?_
  refine own_iconst 38 (5 : Int32) X0 hx hby d1_37 rfl (by decide) ?_
  refine own_icY 45 X0 hx hby d1_38 (by decide) (by decide) (feq hc10).2 ?_
  refine own_iload_n 46 X0 hx hby d1_45 rfl rfl ?_
  refine own_bipush 48 (6 : Int32) X0 hx hby d1_46 rfl (by decide) ?_
  refine own_icY 55 X0 hx hby d1_48 (by decide) (by decide) (feq hc12).2 ?_
  refine own_iload_n 56 X0 hx hby d1_55 rfl rfl ?_
  refine own_bipush 58 (7 : Int32) X0 hx hby d1_56 rfl (by decide) ?_
  refine own_icY 65 X0 hx hby d1_58 (by decide) (by decide) (feq hc14).2 ?_
  refine own_iload_n 66 X0 hx hby d1_65 rfl rfl ?_
  refine own_bipush 68 (8 : Int32) X0 hx hby d1_66 rfl (by decide) ?_
  refine own_icY 75 X0 hx hby d1_68 (by decide) (by decide) (feq hc16).2 ?_
  refine own_iload_n 76 X0 hx hby d1_75 rfl rfl ?_
  refine own_bipush 78 (9 : Int32) X0 hx hby d1_76 rfl (by decide) ?_
  refine own_icY 85 X0 hx hby d1_78 (by decide) (by decide) (feq hc18).2 ?_
  refine own_iload_n 86 X0 hx hby d1_85 rfl rfl ?_
  refine own_bipush 88 (10 : Int32) X0 hx hby d1_86 rfl (by decide) ?_
  refine own_icY 95 X0 hx hby d1_88 (by decide) (by decide) (feq hc20).2 ?_
  refine own_iload_n 96 X0 hx hby d1_95 rfl rfl ?_
  refine own_bipush 98 (11 : Int32) X0 hx hby d1_96 rfl (by decide) ?_
  refine own_icY 105 X0 hx hby d1_98 (by decide) (by decide) (feq hc22).2 ?_
  refine own_iload_n 106 X0 hx hby d1_105 rfl rfl ?_
  refine own_bipush 108 (12 : Int32) X0 hx hby d1_106 rfl (by decide) ?_
  refine own_icY 115 X0 hx hby d1_108 (by decide) (by decide) (feq hc24).2 ?_
  refine own_iload_n 116 X0 hx hby d1_115 rfl rfl ?_
  refine own_bipush 118 (16 : Int32) X0 hx hby d1_116 rfl (by decide) ?_
  refine own_icN 121 X0 hx hby d1_118 rfl (teq hc26).2 ?_
  refine own_getS 124 X0 hx hby hZ hown (own_w hw 51 rfl) e0 (W.2.2.2.2.2.2.2.2.2.2.2.2.2.2.2.2.2.2.2.2.2.2.2.2.1.ext O0.2) d1_121 rfl ?_
  intro T27 X27 e27
  exact own_ret (Q := own_Q _ n0 h0) X27 hx hby hret hlk d1_124 rfl (Or.inr (Or.inr (Or.inr (Or.inr ⟨rfl, rfl, rfl⟩)))) (by decide) (by decide) ⟨rfl, N0, e27⟩
set_option maxRecDepth 65536 in
set_option maxHeartbeats 40000000 in
theorem rm1_14 (l : Launch) (Z : State) (a0 : Array Value) (hw : ∀ d ∈ tables_1, d.before a0 Z = true) (ws : List Jvm.Cond) (w_HELLO w_ADD_SERVICE w_GET_SERVICE w_LIST_SERVICES w_TRANSLATE w_RESOLVE w_RELEASE w_STATUS w_WAITING w_WATCH w_ACQUIRE w_RETIRE w_RESULT w_FAILURE w_DEAD w_COUNT_WAITING w_CLOSING w_UNHELD w_OPEN w_TRANSACTION w_REPLY w_KNOCK w_ALL k_ALL : Addr) (W : own_W Z w_HELLO w_ADD_SERVICE w_GET_SERVICE w_LIST_SERVICES w_TRANSLATE w_RESOLVE w_RELEASE w_STATUS w_WAITING w_WATCH w_ACQUIRE w_RETIRE w_RESULT w_FAILURE w_DEAD w_COUNT_WAITING w_CLOSING w_UNHELD w_OPEN w_TRANSACTION w_REPLY w_KNOCK w_ALL k_ALL) (x0 : Int32) (h0 : Heap) (n0 : Nat) (O0 : Old Z n0 h0) (hc2 : ¬ (x0 = (1 : Int32))) (hc4 : ¬ (x0 = (2 : Int32))) (hc6 : ¬ (x0 = (3 : Int32))) (hc8 : ¬ (x0 = (4 : Int32))) (hc10 : ¬ (x0 = (5 : Int32))) (hc12 : ¬ (x0 = (6 : Int32))) (hc14 : ¬ (x0 = (7 : Int32))) (hc16 : ¬ (x0 = (8 : Int32))) (hc18 : ¬ (x0 = (9 : Int32))) (hc20 : ¬ (x0 = (10 : Int32))) (hc22 : ¬ (x0 = (11 : Int32))) (hc24 : ¬ (x0 = (12 : Int32))) (hc26 : ¬ (x0 = (16 : Int32))) (hc28 : x0 = (17 : Int32)) :
    MetFree l (⟨"com/example/hop1/hop1/protocol/FrameKindOfPinLaw", "expected", "(I)Lcom/example/hop1/hop1/protocol/FrameKind;"⟩ : MethodName) (head1 (Jvm.Cond.code (⟨"com/example/hop1/hop1/protocol/FrameKindOfPinLaw", "expected", "(I)Lcom/example/hop1/hop1/protocol/FrameKind;"⟩ : MethodName) method_2_code 1 (some (.object "com/example/hop1/hop1/protocol/FrameKind")) :: ws) ({ frames := 0, cells := 0, slots := 0, locals := 0 } : Room)) (fun a U => a = #[(.int x0)] ∧ Z.Warmed39 U.vm ∧ U.heap = h0) (fun _ _ _ _ _ => True) (fun _ U o U' => ∃ v L, o = .returned v ∧ own_Q (some (.ref w_FAILURE)) n0 h0 v U'.heap L ∧ FrameEnd U o U' L ({ frames := 0, cells := 0, slots := 0, locals := 0 } : Room).cells ({ frames := 0, cells := 0, slots := 0, locals := 0 } : Room).slots) := by
  refine MetFree.of_bodySF (plainFor_of_name pn_0) hisR ?_
  intro p e s m args below meth c s₁ Bd hml0 hP hK
  obtain ⟨rfl, hZ, hh⟩ := hP
  have hx := Bd.exec
  have hby := Bd.bytes
  have hml : c.maxLocals = 1 := hml0
  have hlk := BodyLoose.notSynchronized Bd
  have hret := Bd.returns
  have hown : s.vm.findClass "com/example/hop1/hop1/protocol/FrameKindOfPinLaw" = some m.cls := findClass_of_methodNamed Bd.named
  have hnm := (name_of_methodNamed Bd.named Bd.method).1
  have X0 : Stand p l e ({ frames := 0, cells := 0, slots := 0, locals := 0 } : Room) s m #[(.int x0)] below meth c s₁ [] 0 0 := Stand.of_body Bd
  have e0 : s₁.heap = h0 := by rw [← hh, Bd.state]; rfl
  have N0 := Fr.nil n0
  rw [ef_1 m x0]
  show Go p e below _ (s₁.setTop (mkF m 0 #[oI x0] []))
  refine own_iload_n 1 X0 hx hby d1_0 rfl rfl ?_
  refine own_iconst 2 (1 : Int32) X0 hx hby d1_1 rfl (by decide) ?_
  refine own_icY 9 X0 hx hby d1_2 (by decide) (by decide) (feq hc2).2 ?_
  refine own_iload_n 10 X0 hx hby d1_9 rfl rfl ?_
  refine own_iconst 11 (2 : Int32) X0 hx hby d1_10 rfl (by decide) ?_
  refine own_icY 18 X0 hx hby d1_11 (by decide) (by decide) (feq hc4).2 ?_
  refine own_iload_n 19 X0 hx hby d1_18 rfl rfl ?_
  refine own_iconst 20 (3 : Int32) X0 hx hby d1_19 rfl (by decide) ?_
  refine own_icY 27 X0 hx hby d1_20 (by decide) (by decide) (feq hc6).2 ?_
  refine own_iload_n 28 X0 hx hby d1_27 rfl rfl ?_
  refine own_iconst 29 (4 : Int32) X0 hx hby d1_28 rfl (by decide) ?_
  refine own_icY 36 X0 hx hby d1_29 (by decide) (by decide) (feq hc8).2 ?_
  refine own_iload_n 37 X0 hx hby d1_36 rfl rfl ?_
  refine own_iconst 38 (5 : Int32) X0 hx hby d1_37 rfl (by decide) ?_
  refine own_icY 45 X0 hx hby d1_38 (by decide) (by decide) (feq hc10).2 ?_
  refine own_iload_n 46 X0 hx hby d1_45 rfl rfl ?_
  refine own_bipush 48 (6 : Int32) X0 hx hby d1_46 rfl (by decide) ?_
  refine own_icY 55 X0 hx hby d1_48 (by decide) (by decide) (feq hc12).2 ?_
  refine own_iload_n 56 X0 hx hby d1_55 rfl rfl ?_
  refine own_bipush 58 (7 : Int32) X0 hx hby d1_56 rfl (by decide) ?_
  refine own_icY 65 X0 hx hby d1_58 (by decide) (by decide) (feq hc14).2 ?_
  refine own_iload_n 66 X0 hx hby d1_65 rfl rfl ?_
  refine own_bipush 68 (8 : Int32) X0 hx hby d1_66 rfl (by decide) ?_
  refine own_icY 75 X0 hx hby d1_68 (by decide) (by decide) (feq hc16).2 ?_
  refine own_iload_n 76 X0 hx hby d1_75 rfl rfl ?_
  refine own_bipush 78 (9 : Int32) X0 hx hby d1_76 rfl (by decide) ?_
  refine own_icY 85 X0 hx hby d1_78 (by decide) (by decide) (feq hc18).2 ?_
  refine own_iload_n 86 X0 hx hby d1_85 rfl rfl ?_
  refine own_bipush 88 (10 : Int32) X0 hx hby d1_86 rfl (by decide) ?_
  refine own_icY 95 X0 hx hby d1_88 (by decide) (by decide) (feq hc20).2 ?_
  refine own_iload_n 96 X0 hx hby d1_95 rfl rfl ?_
  refine own_bipush 98 (11 : Int32) X0 hx hby d1_96 rfl (by decide) ?_
  refine own_icY 105 X0 hx hby d1_98 (by decide) (by decide) (feq hc22).2 ?_
  refine own_iload_n 106 X0 hx hby d1_105 rfl rfl ?_
  refine own_bipush 108 (12 : Int32) X0 hx hby d1_106 rfl (by decide) ?_
  refine own_icY 115 X0 hx hby d1_108 (by decide) (by decide) (feq hc24).2 ?_
  refine own_iload_n 116 X0 hx hby d1_115 rfl rfl ?_
  refine own_bipush 118 (16 : Int32) X0 hx hby d1_116 rfl (by decide) ?_
  refine own_icY 125 X0 hx hby d1_118 (by decide) (by decide) (feq hc26).2 ?_
  refine own_iload_n 126 X0 hx hby d1_125 rfl rfl ?_
  refine own_bipush 128 (17 : Int32) X0 hx hby d1_126 rfl (by decide) ?_
  refine own_icN 131 X0 hx hby d1_128 rfl (teq hc28).2 ?_
  refine own_getS 134 X0 hx hby hZ hown (own_w hw 52 rfl) e0 (W.2.2.2.2.2.2.2.2.2.2.2.2.2.2.2.2.2.2.2.2.2.2.2.2.2.2.1.ext O0.2) d1_131 rfl ?_
  intro T29 X29 e29
  exact own_ret (Q := own_Q _ n0 h0) X29 hx hby hret hlk d1_134 rfl (Or.inr (Or.inr (Or.inr (Or.inr ⟨rfl, rfl, rfl⟩)))) (by decide) (by decide) ⟨rfl, N0, e29⟩
set_option maxRecDepth 65536 in
set_option maxHeartbeats 40000000 in
theorem rm1_15 (l : Launch) (Z : State) (a0 : Array Value) (hw : ∀ d ∈ tables_1, d.before a0 Z = true) (ws : List Jvm.Cond) (w_HELLO w_ADD_SERVICE w_GET_SERVICE w_LIST_SERVICES w_TRANSLATE w_RESOLVE w_RELEASE w_STATUS w_WAITING w_WATCH w_ACQUIRE w_RETIRE w_RESULT w_FAILURE w_DEAD w_COUNT_WAITING w_CLOSING w_UNHELD w_OPEN w_TRANSACTION w_REPLY w_KNOCK w_ALL k_ALL : Addr) (W : own_W Z w_HELLO w_ADD_SERVICE w_GET_SERVICE w_LIST_SERVICES w_TRANSLATE w_RESOLVE w_RELEASE w_STATUS w_WAITING w_WATCH w_ACQUIRE w_RETIRE w_RESULT w_FAILURE w_DEAD w_COUNT_WAITING w_CLOSING w_UNHELD w_OPEN w_TRANSACTION w_REPLY w_KNOCK w_ALL k_ALL) (x0 : Int32) (h0 : Heap) (n0 : Nat) (O0 : Old Z n0 h0) (hc2 : ¬ (x0 = (1 : Int32))) (hc4 : ¬ (x0 = (2 : Int32))) (hc6 : ¬ (x0 = (3 : Int32))) (hc8 : ¬ (x0 = (4 : Int32))) (hc10 : ¬ (x0 = (5 : Int32))) (hc12 : ¬ (x0 = (6 : Int32))) (hc14 : ¬ (x0 = (7 : Int32))) (hc16 : ¬ (x0 = (8 : Int32))) (hc18 : ¬ (x0 = (9 : Int32))) (hc20 : ¬ (x0 = (10 : Int32))) (hc22 : ¬ (x0 = (11 : Int32))) (hc24 : ¬ (x0 = (12 : Int32))) (hc26 : ¬ (x0 = (16 : Int32))) (hc28 : ¬ (x0 = (17 : Int32))) (hc30 : x0 = (18 : Int32)) :
    MetFree l (⟨"com/example/hop1/hop1/protocol/FrameKindOfPinLaw", "expected", "(I)Lcom/example/hop1/hop1/protocol/FrameKind;"⟩ : MethodName) (head1 (Jvm.Cond.code (⟨"com/example/hop1/hop1/protocol/FrameKindOfPinLaw", "expected", "(I)Lcom/example/hop1/hop1/protocol/FrameKind;"⟩ : MethodName) method_2_code 1 (some (.object "com/example/hop1/hop1/protocol/FrameKind")) :: ws) ({ frames := 0, cells := 0, slots := 0, locals := 0 } : Room)) (fun a U => a = #[(.int x0)] ∧ Z.Warmed39 U.vm ∧ U.heap = h0) (fun _ _ _ _ _ => True) (fun _ U o U' => ∃ v L, o = .returned v ∧ own_Q (some (.ref w_DEAD)) n0 h0 v U'.heap L ∧ FrameEnd U o U' L ({ frames := 0, cells := 0, slots := 0, locals := 0 } : Room).cells ({ frames := 0, cells := 0, slots := 0, locals := 0 } : Room).slots) := by
  refine MetFree.of_bodySF (plainFor_of_name pn_0) hisR ?_
  intro p e s m args below meth c s₁ Bd hml0 hP hK
  obtain ⟨rfl, hZ, hh⟩ := hP
  have hx := Bd.exec
  have hby := Bd.bytes
  have hml : c.maxLocals = 1 := hml0
  have hlk := BodyLoose.notSynchronized Bd
  have hret := Bd.returns
  have hown : s.vm.findClass "com/example/hop1/hop1/protocol/FrameKindOfPinLaw" = some m.cls := findClass_of_methodNamed Bd.named
  have hnm := (name_of_methodNamed Bd.named Bd.method).1
  have X0 : Stand p l e ({ frames := 0, cells := 0, slots := 0, locals := 0 } : Room) s m #[(.int x0)] below meth c s₁ [] 0 0 := Stand.of_body Bd
  have e0 : s₁.heap = h0 := by rw [← hh, Bd.state]; rfl
  have N0 := Fr.nil n0
  rw [ef_1 m x0]
  show Go p e below _ (s₁.setTop (mkF m 0 #[oI x0] []))
  refine own_iload_n 1 X0 hx hby d1_0 rfl rfl ?_
  refine own_iconst 2 (1 : Int32) X0 hx hby d1_1 rfl (by decide) ?_
  refine own_icY 9 X0 hx hby d1_2 (by decide) (by decide) (feq hc2).2 ?_
  refine own_iload_n 10 X0 hx hby d1_9 rfl rfl ?_
  refine own_iconst 11 (2 : Int32) X0 hx hby d1_10 rfl (by decide) ?_
  refine own_icY 18 X0 hx hby d1_11 (by decide) (by decide) (feq hc4).2 ?_
  refine own_iload_n 19 X0 hx hby d1_18 rfl rfl ?_
  refine own_iconst 20 (3 : Int32) X0 hx hby d1_19 rfl (by decide) ?_
  refine own_icY 27 X0 hx hby d1_20 (by decide) (by decide) (feq hc6).2 ?_
  refine own_iload_n 28 X0 hx hby d1_27 rfl rfl ?_
  refine own_iconst 29 (4 : Int32) X0 hx hby d1_28 rfl (by decide) ?_
  refine own_icY 36 X0 hx hby d1_29 (by decide) (by decide) (feq hc8).2 ?_
  refine own_iload_n 37 X0 hx hby d1_36 rfl rfl ?_
  refine own_iconst 38 (5 : Int32) X0 hx hby d1_37 rfl (by decide) ?_
  refine own_icY 45 X0 hx hby d1_38 (by decide) (by decide) (feq hc10).2 ?_
  refine own_iload_n 46 X0 hx hby d1_45 rfl rfl ?_
  refine own_bipush 48 (6 : Int32) X0 hx hby d1_46 rfl (by decide) ?_
  refine own_icY 55 X0 hx hby d1_48 (by decide) (by decide) (feq hc12).2 ?_
  refine own_iload_n 56 X0 hx hby d1_55 rfl rfl ?_
  refine own_bipush 58 (7 : Int32) X0 hx hby d1_56 rfl (by decide) ?_
  refine own_icY 65 X0 hx hby d1_58 (by decide) (by decide) (feq hc14).2 ?_
  refine own_iload_n 66 X0 hx hby d1_65 rfl rfl ?_
  refine own_bipush 68 (8 : Int32) X0 hx hby d1_66 rfl (by decide) ?_
  refine own_icY 75 X0 hx hby d1_68 (by decide) (by decide) (feq hc16).2 ?_
  refine own_iload_n 76 X0 hx hby d1_75 rfl rfl ?_
  refine own_bipush 78 (9 : Int32) X0 hx hby d1_76 rfl (by decide) ?_
  refine own_icY 85 X0 hx hby d1_78 (by decide) (by decide) (feq hc18).2 ?_
  refine own_iload_n 86 X0 hx hby d1_85 rfl rfl ?_
  refine own_bipush 88 (10 : Int32) X0 hx hby d1_86 rfl (by decide) ?_
  refine own_icY 95 X0 hx hby d1_88 (by decide) (by decide) (feq hc20).2 ?_
  refine own_iload_n 96 X0 hx hby d1_95 rfl rfl ?_
  refine own_bipush 98 (11 : Int32) X0 hx hby d1_96 rfl (by decide) ?_
  refine own_icY 105 X0 hx hby d1_98 (by decide) (by decide) (feq hc22).2 ?_
  refine own_iload_n 106 X0 hx hby d1_105 rfl rfl ?_
  refine own_bipush 108 (12 : Int32) X0 hx hby d1_106 rfl (by decide) ?_
  refine own_icY 115 X0 hx hby d1_108 (by decide) (by decide) (feq hc24).2 ?_
  refine own_iload_n 116 X0 hx hby d1_115 rfl rfl ?_
  refine own_bipush 118 (16 : Int32) X0 hx hby d1_116 rfl (by decide) ?_
  refine own_icY 125 X0 hx hby d1_118 (by decide) (by decide) (feq hc26).2 ?_
  refine own_iload_n 126 X0 hx hby d1_125 rfl rfl ?_
  refine own_bipush 128 (17 : Int32) X0 hx hby d1_126 rfl (by decide) ?_
  refine own_icY 135 X0 hx hby d1_128 (by decide) (by decide) (feq hc28).2 ?_
  refine own_iload_n 136 X0 hx hby d1_135 rfl rfl ?_
  refine own_bipush 138 (18 : Int32) X0 hx hby d1_136 rfl (by decide) ?_
  refine own_icN 141 X0 hx hby d1_138 rfl (teq hc30).2 ?_
  refine own_getS 144 X0 hx hby hZ hown (own_w hw 41 rfl) e0 (W.2.2.2.2.2.2.2.2.2.2.2.2.2.2.2.2.2.2.2.2.2.2.2.2.2.2.2.2.1.ext O0.2) d1_141 rfl ?_
  intro T31 X31 e31
  exact own_ret (Q := own_Q _ n0 h0) X31 hx hby hret hlk d1_144 rfl (Or.inr (Or.inr (Or.inr (Or.inr ⟨rfl, rfl, rfl⟩)))) (by decide) (by decide) ⟨rfl, N0, e31⟩
set_option maxRecDepth 65536 in
set_option maxHeartbeats 40000000 in
theorem rm1_16 (l : Launch) (Z : State) (a0 : Array Value) (hw : ∀ d ∈ tables_1, d.before a0 Z = true) (ws : List Jvm.Cond) (w_HELLO w_ADD_SERVICE w_GET_SERVICE w_LIST_SERVICES w_TRANSLATE w_RESOLVE w_RELEASE w_STATUS w_WAITING w_WATCH w_ACQUIRE w_RETIRE w_RESULT w_FAILURE w_DEAD w_COUNT_WAITING w_CLOSING w_UNHELD w_OPEN w_TRANSACTION w_REPLY w_KNOCK w_ALL k_ALL : Addr) (W : own_W Z w_HELLO w_ADD_SERVICE w_GET_SERVICE w_LIST_SERVICES w_TRANSLATE w_RESOLVE w_RELEASE w_STATUS w_WAITING w_WATCH w_ACQUIRE w_RETIRE w_RESULT w_FAILURE w_DEAD w_COUNT_WAITING w_CLOSING w_UNHELD w_OPEN w_TRANSACTION w_REPLY w_KNOCK w_ALL k_ALL) (x0 : Int32) (h0 : Heap) (n0 : Nat) (O0 : Old Z n0 h0) (hc2 : ¬ (x0 = (1 : Int32))) (hc4 : ¬ (x0 = (2 : Int32))) (hc6 : ¬ (x0 = (3 : Int32))) (hc8 : ¬ (x0 = (4 : Int32))) (hc10 : ¬ (x0 = (5 : Int32))) (hc12 : ¬ (x0 = (6 : Int32))) (hc14 : ¬ (x0 = (7 : Int32))) (hc16 : ¬ (x0 = (8 : Int32))) (hc18 : ¬ (x0 = (9 : Int32))) (hc20 : ¬ (x0 = (10 : Int32))) (hc22 : ¬ (x0 = (11 : Int32))) (hc24 : ¬ (x0 = (12 : Int32))) (hc26 : ¬ (x0 = (16 : Int32))) (hc28 : ¬ (x0 = (17 : Int32))) (hc30 : ¬ (x0 = (18 : Int32))) (hc32 : x0 = (19 : Int32)) :
    MetFree l (⟨"com/example/hop1/hop1/protocol/FrameKindOfPinLaw", "expected", "(I)Lcom/example/hop1/hop1/protocol/FrameKind;"⟩ : MethodName) (head1 (Jvm.Cond.code (⟨"com/example/hop1/hop1/protocol/FrameKindOfPinLaw", "expected", "(I)Lcom/example/hop1/hop1/protocol/FrameKind;"⟩ : MethodName) method_2_code 1 (some (.object "com/example/hop1/hop1/protocol/FrameKind")) :: ws) ({ frames := 0, cells := 0, slots := 0, locals := 0 } : Room)) (fun a U => a = #[(.int x0)] ∧ Z.Warmed39 U.vm ∧ U.heap = h0) (fun _ _ _ _ _ => True) (fun _ U o U' => ∃ v L, o = .returned v ∧ own_Q (some (.ref w_COUNT_WAITING)) n0 h0 v U'.heap L ∧ FrameEnd U o U' L ({ frames := 0, cells := 0, slots := 0, locals := 0 } : Room).cells ({ frames := 0, cells := 0, slots := 0, locals := 0 } : Room).slots) := by
  refine MetFree.of_bodySF (plainFor_of_name pn_0) hisR ?_
  intro p e s m args below meth c s₁ Bd hml0 hP hK
  obtain ⟨rfl, hZ, hh⟩ := hP
  have hx := Bd.exec
  have hby := Bd.bytes
  have hml : c.maxLocals = 1 := hml0
  have hlk := BodyLoose.notSynchronized Bd
  have hret := Bd.returns
  have hown : s.vm.findClass "com/example/hop1/hop1/protocol/FrameKindOfPinLaw" = some m.cls := findClass_of_methodNamed Bd.named
  have hnm := (name_of_methodNamed Bd.named Bd.method).1
  have X0 : Stand p l e ({ frames := 0, cells := 0, slots := 0, locals := 0 } : Room) s m #[(.int x0)] below meth c s₁ [] 0 0 := Stand.of_body Bd
  have e0 : s₁.heap = h0 := by rw [← hh, Bd.state]; rfl
  have N0 := Fr.nil n0
  rw [ef_1 m x0]
  show Go p e below _ (s₁.setTop (mkF m 0 #[oI x0] []))
  refine own_iload_n 1 X0 hx hby d1_0 rfl rfl ?_
  refine own_iconst 2 (1 : Int32) X0 hx hby d1_1 rfl (by decide) ?_
  refine own_icY 9 X0 hx hby d1_2 (by decide) (by decide) (feq hc2).2 ?_
  refine own_iload_n 10 X0 hx hby d1_9 rfl rfl ?_
  refine own_iconst 11 (2 : Int32) X0 hx hby d1_10 rfl (by decide) ?_
  refine own_icY 18 X0 hx hby d1_11 (by decide) (by decide) (feq hc4).2 ?_
  refine own_iload_n 19 X0 hx hby d1_18 rfl rfl ?_
  refine own_iconst 20 (3 : Int32) X0 hx hby d1_19 rfl (by decide) ?_
  refine own_icY 27 X0 hx hby d1_20 (by decide) (by decide) (feq hc6).2 ?_
  refine own_iload_n 28 X0 hx hby d1_27 rfl rfl ?_
  refine own_iconst 29 (4 : Int32) X0 hx hby d1_28 rfl (by decide) ?_
  refine own_icY 36 X0 hx hby d1_29 (by decide) (by decide) (feq hc8).2 ?_
  refine own_iload_n 37 X0 hx hby d1_36 rfl rfl ?_
  refine own_iconst 38 (5 : Int32) X0 hx hby d1_37 rfl (by decide) ?_
  refine own_icY 45 X0 hx hby d1_38 (by decide) (by decide) (feq hc10).2 ?_
  refine own_iload_n 46 X0 hx hby d1_45 rfl rfl ?_
  refine own_bipush 48 (6 : Int32) X0 hx hby d1_46 rfl (by decide) ?_
  refine own_icY 55 X0 hx hby d1_48 (by decide) (by decide) (feq hc12).2 ?_
  refine own_iload_n 56 X0 hx hby d1_55 rfl rfl ?_
  refine own_bipush 58 (7 : Int32) X0 hx hby d1_56 rfl (by decide) ?_
  refine own_icY 65 X0 hx hby d1_58 (by decide) (by decide) (feq hc14).2 ?_
  refine own_iload_n 66 X0 hx hby d1_65 rfl rfl ?_
  refine own_bipush 68 (8 : Int32) X0 hx hby d1_66 rfl (by decide) ?_
  refine own_icY 75 X0 hx hby d1_68 (by decide) (by decide) (feq hc16).2 ?_
  refine own_iload_n 76 X0 hx hby d1_75 rfl rfl ?_
  refine own_bipush 78 (9 : Int32) X0 hx hby d1_76 rfl (by decide) ?_
  refine own_icY 85 X0 hx hby d1_78 (by decide) (by decide) (feq hc18).2 ?_
  refine own_iload_n 86 X0 hx hby d1_85 rfl rfl ?_
  refine own_bipush 88 (10 : Int32) X0 hx hby d1_86 rfl (by decide) ?_
  refine own_icY 95 X0 hx hby d1_88 (by decide) (by decide) (feq hc20).2 ?_
  refine own_iload_n 96 X0 hx hby d1_95 rfl rfl ?_
  refine own_bipush 98 (11 : Int32) X0 hx hby d1_96 rfl (by decide) ?_
  refine own_icY 105 X0 hx hby d1_98 (by decide) (by decide) (feq hc22).2 ?_
  refine own_iload_n 106 X0 hx hby d1_105 rfl rfl ?_
  refine own_bipush 108 (12 : Int32) X0 hx hby d1_106 rfl (by decide) ?_
  refine own_icY 115 X0 hx hby d1_108 (by decide) (by decide) (feq hc24).2 ?_
  refine own_iload_n 116 X0 hx hby d1_115 rfl rfl ?_
  refine own_bipush 118 (16 : Int32) X0 hx hby d1_116 rfl (by decide) ?_
  refine own_icY 125 X0 hx hby d1_118 (by decide) (by decide) (feq hc26).2 ?_
  refine own_iload_n 126 X0 hx hby d1_125 rfl rfl ?_
  refine own_bipush 128 (17 : Int32) X0 hx hby d1_126 rfl (by decide) ?_
  refine own_icY 135 X0 hx hby d1_128 (by decide) (by decide) (feq hc28).2 ?_
  refine own_iload_n 136 X0 hx hby d1_135 rfl rfl ?_
  refine own_bipush 138 (18 : Int32) X0 hx hby d1_136 rfl (by decide) ?_
  refine own_icY 145 X0 hx hby d1_138 (by decide) (by decide) (feq hc30).2 ?_
  refine own_iload_n 146 X0 hx hby d1_145 rfl rfl ?_
  refine own_bipush 148 (19 : Int32) X0 hx hby d1_146 rfl (by decide) ?_
  refine own_icN 151 X0 hx hby d1_148 rfl (teq hc32).2 ?_
  refine own_getS 154 X0 hx hby hZ hown (own_w hw 49 rfl) e0 (W.2.2.2.2.2.2.2.2.2.2.2.2.2.2.2.2.2.2.2.2.2.2.2.2.2.2.2.2.2.2.1.ext O0.2) d1_151 rfl ?_
  intro T33 X33 e33
  exact own_ret (Q := own_Q _ n0 h0) X33 hx hby hret hlk d1_154 rfl (Or.inr (Or.inr (Or.inr (Or.inr ⟨rfl, rfl, rfl⟩)))) (by decide) (by decide) ⟨rfl, N0, e33⟩
set_option maxRecDepth 65536 in
set_option maxHeartbeats 40000000 in
theorem rm1_17 (l : Launch) (Z : State) (a0 : Array Value) (hw : ∀ d ∈ tables_1, d.before a0 Z = true) (ws : List Jvm.Cond) (w_HELLO w_ADD_SERVICE w_GET_SERVICE w_LIST_SERVICES w_TRANSLATE w_RESOLVE w_RELEASE w_STATUS w_WAITING w_WATCH w_ACQUIRE w_RETIRE w_RESULT w_FAILURE w_DEAD w_COUNT_WAITING w_CLOSING w_UNHELD w_OPEN w_TRANSACTION w_REPLY w_KNOCK w_ALL k_ALL : Addr) (W : own_W Z w_HELLO w_ADD_SERVICE w_GET_SERVICE w_LIST_SERVICES w_TRANSLATE w_RESOLVE w_RELEASE w_STATUS w_WAITING w_WATCH w_ACQUIRE w_RETIRE w_RESULT w_FAILURE w_DEAD w_COUNT_WAITING w_CLOSING w_UNHELD w_OPEN w_TRANSACTION w_REPLY w_KNOCK w_ALL k_ALL) (x0 : Int32) (h0 : Heap) (n0 : Nat) (O0 : Old Z n0 h0) (hc2 : ¬ (x0 = (1 : Int32))) (hc4 : ¬ (x0 = (2 : Int32))) (hc6 : ¬ (x0 = (3 : Int32))) (hc8 : ¬ (x0 = (4 : Int32))) (hc10 : ¬ (x0 = (5 : Int32))) (hc12 : ¬ (x0 = (6 : Int32))) (hc14 : ¬ (x0 = (7 : Int32))) (hc16 : ¬ (x0 = (8 : Int32))) (hc18 : ¬ (x0 = (9 : Int32))) (hc20 : ¬ (x0 = (10 : Int32))) (hc22 : ¬ (x0 = (11 : Int32))) (hc24 : ¬ (x0 = (12 : Int32))) (hc26 : ¬ (x0 = (16 : Int32))) (hc28 : ¬ (x0 = (17 : Int32))) (hc30 : ¬ (x0 = (18 : Int32))) (hc32 : ¬ (x0 = (19 : Int32))) (hc34 : x0 = (20 : Int32)) :
    MetFree l (⟨"com/example/hop1/hop1/protocol/FrameKindOfPinLaw", "expected", "(I)Lcom/example/hop1/hop1/protocol/FrameKind;"⟩ : MethodName) (head1 (Jvm.Cond.code (⟨"com/example/hop1/hop1/protocol/FrameKindOfPinLaw", "expected", "(I)Lcom/example/hop1/hop1/protocol/FrameKind;"⟩ : MethodName) method_2_code 1 (some (.object "com/example/hop1/hop1/protocol/FrameKind")) :: ws) ({ frames := 0, cells := 0, slots := 0, locals := 0 } : Room)) (fun a U => a = #[(.int x0)] ∧ Z.Warmed39 U.vm ∧ U.heap = h0) (fun _ _ _ _ _ => True) (fun _ U o U' => ∃ v L, o = .returned v ∧ own_Q (some (.ref w_CLOSING)) n0 h0 v U'.heap L ∧ FrameEnd U o U' L ({ frames := 0, cells := 0, slots := 0, locals := 0 } : Room).cells ({ frames := 0, cells := 0, slots := 0, locals := 0 } : Room).slots) := by
  refine MetFree.of_bodySF (plainFor_of_name pn_0) hisR ?_
  intro p e s m args below meth c s₁ Bd hml0 hP hK
  obtain ⟨rfl, hZ, hh⟩ := hP
  have hx := Bd.exec
  have hby := Bd.bytes
  have hml : c.maxLocals = 1 := hml0
  have hlk := BodyLoose.notSynchronized Bd
  have hret := Bd.returns
  have hown : s.vm.findClass "com/example/hop1/hop1/protocol/FrameKindOfPinLaw" = some m.cls := findClass_of_methodNamed Bd.named
  have hnm := (name_of_methodNamed Bd.named Bd.method).1
  have X0 : Stand p l e ({ frames := 0, cells := 0, slots := 0, locals := 0 } : Room) s m #[(.int x0)] below meth c s₁ [] 0 0 := Stand.of_body Bd
  have e0 : s₁.heap = h0 := by rw [← hh, Bd.state]; rfl
  have N0 := Fr.nil n0
  rw [ef_1 m x0]
  show Go p e below _ (s₁.setTop (mkF m 0 #[oI x0] []))
  refine own_iload_n 1 X0 hx hby d1_0 rfl rfl ?_
  refine own_iconst 2 (1 : Int32) X0 hx hby d1_1 rfl (by decide) ?_
  refine own_icY 9 X0 hx hby d1_2 (by decide) (by decide) (feq hc2).2 ?_
  refine own_iload_n 10 X0 hx hby d1_9 rfl rfl ?_
  refine own_iconst 11 (2 : Int32) X0 hx hby d1_10 rfl (by decide) ?_
  refine own_icY 18 X0 hx hby d1_11 (by decide) (by decide) (feq hc4).2 ?_
  refine own_iload_n 19 X0 hx hby d1_18 rfl rfl ?_
  refine own_iconst 20 (3 : Int32) X0 hx hby d1_19 rfl (by decide) ?_
  refine own_icY 27 X0 hx hby d1_20 (by decide) (by decide) (feq hc6).2 ?_
  refine own_iload_n 28 X0 hx hby d1_27 rfl rfl ?_
  refine own_iconst 29 (4 : Int32) X0 hx hby d1_28 rfl (by decide) ?_
  refine own_icY 36 X0 hx hby d1_29 (by decide) (by decide) (feq hc8).2 ?_
  refine own_iload_n 37 X0 hx hby d1_36 rfl rfl ?_
  refine own_iconst 38 (5 : Int32) X0 hx hby d1_37 rfl (by decide) ?_
  refine own_icY 45 X0 hx hby d1_38 (by decide) (by decide) (feq hc10).2 ?_
  refine own_iload_n 46 X0 hx hby d1_45 rfl rfl ?_
  refine own_bipush 48 (6 : Int32) X0 hx hby d1_46 rfl (by decide) ?_
  refine own_icY 55 X0 hx hby d1_48 (by decide) (by decide) (feq hc12).2 ?_
  refine own_iload_n 56 X0 hx hby d1_55 rfl rfl ?_
  refine own_bipush 58 (7 : Int32) X0 hx hby d1_56 rfl (by decide) ?_
  refine own_icY 65 X0 hx hby d1_58 (by decide) (by decide) (feq hc14).2 ?_
  refine own_iload_n 66 X0 hx hby d1_65 rfl rfl ?_
  refine own_bipush 68 (8 : Int32) X0 hx hby d1_66 rfl (by decide) ?_
  refine own_icY 75 X0 hx hby d1_68 (by decide) (by decide) (feq hc16).2 ?_
  refine own_iload_n 76 X0 hx hby d1_75 rfl rfl ?_
  refine own_bipush 78 (9 : Int32) X0 hx hby d1_76 rfl (by decide) ?_
  refine own_icY 85 X0 hx hby d1_78 (by decide) (by decide) (feq hc18).2 ?_
  refine own_iload_n 86 X0 hx hby d1_85 rfl rfl ?_
  refine own_bipush 88 (10 : Int32) X0 hx hby d1_86 rfl (by decide) ?_
  refine own_icY 95 X0 hx hby d1_88 (by decide) (by decide) (feq hc20).2 ?_
  refine own_iload_n 96 X0 hx hby d1_95 rfl rfl ?_
  refine own_bipush 98 (11 : Int32) X0 hx hby d1_96 rfl (by decide) ?_
  refine own_icY 105 X0 hx hby d1_98 (by decide) (by decide) (feq hc22).2 ?_
  refine own_iload_n 106 X0 hx hby d1_105 rfl rfl ?_
  refine own_bipush 108 (12 : Int32) X0 hx hby d1_106 rfl (by decide) ?_
  refine own_icY 115 X0 hx hby d1_108 (by decide) (by decide) (feq hc24).2 ?_
  refine own_iload_n 116 X0 hx hby d1_115 rfl rfl ?_
  refine own_bipush 118 (16 : Int32) X0 hx hby d1_116 rfl (by decide) ?_
  refine own_icY 125 X0 hx hby d1_118 (by decide) (by decide) (feq hc26).2 ?_
  refine own_iload_n 126 X0 hx hby d1_125 rfl rfl ?_
  refine own_bipush 128 (17 : Int32) X0 hx hby d1_126 rfl (by decide) ?_
  refine own_icY 135 X0 hx hby d1_128 (by decide) (by decide) (feq hc28).2 ?_
  refine own_iload_n 136 X0 hx hby d1_135 rfl rfl ?_
  refine own_bipush 138 (18 : Int32) X0 hx hby d1_136 rfl (by decide) ?_
  refine own_icY 145 X0 hx hby d1_138 (by decide) (by decide) (feq hc30).2 ?_
  refine own_iload_n 146 X0 hx hby d1_145 rfl rfl ?_
  refine own_bipush 148 (19 : Int32) X0 hx hby d1_146 rfl (by decide) ?_
  refine own_icY 155 X0 hx hby d1_148 (by decide) (by decide) (feq hc32).2 ?_
  refine own_iload_n 156 X0 hx hby d1_155 rfl rfl ?_
  refine own_bipush 158 (20 : Int32) X0 hx hby d1_156 rfl (by decide) ?_
  refine own_icN 161 X0 hx hby d1_158 rfl (teq hc34).2 ?_
  refine own_getS 164 X0 hx hby hZ hown (own_w hw 48 rfl) e0 (W.2.2.2.2.2.2.2.2.2.2.2.2.2.2.2.2.2.2.2.2.2.2.2.2.2.2.2.2.2.2.2.2.1.ext O0.2) d1_161 rfl ?_
  intro T35 X35 e35
  exact own_ret (Q := own_Q _ n0 h0) X35 hx hby hret hlk d1_164 rfl (Or.inr (Or.inr (Or.inr (Or.inr ⟨rfl, rfl, rfl⟩)))) (by decide) (by decide) ⟨rfl, N0, e35⟩
set_option maxRecDepth 65536 in
set_option maxHeartbeats 40000000 in
theorem rm1_18 (l : Launch) (Z : State) (a0 : Array Value) (hw : ∀ d ∈ tables_1, d.before a0 Z = true) (ws : List Jvm.Cond) (w_HELLO w_ADD_SERVICE w_GET_SERVICE w_LIST_SERVICES w_TRANSLATE w_RESOLVE w_RELEASE w_STATUS w_WAITING w_WATCH w_ACQUIRE w_RETIRE w_RESULT w_FAILURE w_DEAD w_COUNT_WAITING w_CLOSING w_UNHELD w_OPEN w_TRANSACTION w_REPLY w_KNOCK w_ALL k_ALL : Addr) (W : own_W Z w_HELLO w_ADD_SERVICE w_GET_SERVICE w_LIST_SERVICES w_TRANSLATE w_RESOLVE w_RELEASE w_STATUS w_WAITING w_WATCH w_ACQUIRE w_RETIRE w_RESULT w_FAILURE w_DEAD w_COUNT_WAITING w_CLOSING w_UNHELD w_OPEN w_TRANSACTION w_REPLY w_KNOCK w_ALL k_ALL) (x0 : Int32) (h0 : Heap) (n0 : Nat) (O0 : Old Z n0 h0) (hc2 : ¬ (x0 = (1 : Int32))) (hc4 : ¬ (x0 = (2 : Int32))) (hc6 : ¬ (x0 = (3 : Int32))) (hc8 : ¬ (x0 = (4 : Int32))) (hc10 : ¬ (x0 = (5 : Int32))) (hc12 : ¬ (x0 = (6 : Int32))) (hc14 : ¬ (x0 = (7 : Int32))) (hc16 : ¬ (x0 = (8 : Int32))) (hc18 : ¬ (x0 = (9 : Int32))) (hc20 : ¬ (x0 = (10 : Int32))) (hc22 : ¬ (x0 = (11 : Int32))) (hc24 : ¬ (x0 = (12 : Int32))) (hc26 : ¬ (x0 = (16 : Int32))) (hc28 : ¬ (x0 = (17 : Int32))) (hc30 : ¬ (x0 = (18 : Int32))) (hc32 : ¬ (x0 = (19 : Int32))) (hc34 : ¬ (x0 = (20 : Int32))) (hc36 : x0 = (21 : Int32)) :
    MetFree l (⟨"com/example/hop1/hop1/protocol/FrameKindOfPinLaw", "expected", "(I)Lcom/example/hop1/hop1/protocol/FrameKind;"⟩ : MethodName) (head1 (Jvm.Cond.code (⟨"com/example/hop1/hop1/protocol/FrameKindOfPinLaw", "expected", "(I)Lcom/example/hop1/hop1/protocol/FrameKind;"⟩ : MethodName) method_2_code 1 (some (.object "com/example/hop1/hop1/protocol/FrameKind")) :: ws) ({ frames := 0, cells := 0, slots := 0, locals := 0 } : Room)) (fun a U => a = #[(.int x0)] ∧ Z.Warmed39 U.vm ∧ U.heap = h0) (fun _ _ _ _ _ => True) (fun _ U o U' => ∃ v L, o = .returned v ∧ own_Q (some (.ref w_UNHELD)) n0 h0 v U'.heap L ∧ FrameEnd U o U' L ({ frames := 0, cells := 0, slots := 0, locals := 0 } : Room).cells ({ frames := 0, cells := 0, slots := 0, locals := 0 } : Room).slots) := by
  refine MetFree.of_bodySF (plainFor_of_name pn_0) hisR ?_
  intro p e s m args below meth c s₁ Bd hml0 hP hK
  obtain ⟨rfl, hZ, hh⟩ := hP
  have hx := Bd.exec
  have hby := Bd.bytes
  have hml : c.maxLocals = 1 := hml0
  have hlk := BodyLoose.notSynchronized Bd
  have hret := Bd.returns
  have hown : s.vm.findClass "com/example/hop1/hop1/protocol/FrameKindOfPinLaw" = some m.cls := findClass_of_methodNamed Bd.named
  have hnm := (name_of_methodNamed Bd.named Bd.method).1
  have X0 : Stand p l e ({ frames := 0, cells := 0, slots := 0, locals := 0 } : Room) s m #[(.int x0)] below meth c s₁ [] 0 0 := Stand.of_body Bd
  have e0 : s₁.heap = h0 := by rw [← hh, Bd.state]; rfl
  have N0 := Fr.nil n0
  rw [ef_1 m x0]
  show Go p e below _ (s₁.setTop (mkF m 0 #[oI x0] []))
  refine own_iload_n 1 X0 hx hby d1_0 rfl rfl ?_
  refine own_iconst 2 (1 : Int32) X0 hx hby d1_1 rfl (by decide) ?_
  refine own_icY 9 X0 hx hby d1_2 (by decide) (by decide) (feq hc2).2 ?_
  refine own_iload_n 10 X0 hx hby d1_9 rfl rfl ?_
  refine own_iconst 11 (2 : Int32) X0 hx hby d1_10 rfl (by decide) ?_
  refine own_icY 18 X0 hx hby d1_11 (by decide) (by decide) (feq hc4).2 ?_
  refine own_iload_n 19 X0 hx hby d1_18 rfl rfl ?_
  refine own_iconst 20 (3 : Int32) X0 hx hby d1_19 rfl (by decide) ?_
  refine own_icY 27 X0 hx hby d1_20 (by decide) (by decide) (feq hc6).2 ?_
  refine own_iload_n 28 X0 hx hby d1_27 rfl rfl ?_
  refine own_iconst 29 (4 : Int32) X0 hx hby d1_28 rfl (by decide) ?_
  refine own_icY 36 X0 hx hby d1_29 (by decide) (by decide) (feq hc8).2 ?_
  refine own_iload_n 37 X0 hx hby d1_36 rfl rfl ?_
  refine own_iconst 38 (5 : Int32) X0 hx hby d1_37 rfl (by decide) ?_
  refine own_icY 45 X0 hx hby d1_38 (by decide) (by decide) (feq hc10).2 ?_
  refine own_iload_n 46 X0 hx hby d1_45 rfl rfl ?_
  refine own_bipush 48 (6 : Int32) X0 hx hby d1_46 rfl (by decide) ?_
  refine own_icY 55 X0 hx hby d1_48 (by decide) (by decide) (feq hc12).2 ?_
  refine own_iload_n 56 X0 hx hby d1_55 rfl rfl ?_
  refine own_bipush 58 (7 : Int32) X0 hx hby d1_56 rfl (by decide) ?_
  refine own_icY 65 X0 hx hby d1_58 (by decide) (by decide) (feq hc14).2 ?_
  refine own_iload_n 66 X0 hx hby d1_65 rfl rfl ?_
  refine own_bipush 68 (8 : Int32) X0 hx hby d1_66 rfl (by decide) ?_
  refine own_icY 75 X0 hx hby d1_68 (by decide) (by decide) (feq hc16).2 ?_
  refine own_iload_n 76 X0 hx hby d1_75 rfl rfl ?_
  refine own_bipush 78 (9 : Int32) X0 hx hby d1_76 rfl (by decide) ?_
  refine own_icY 85 X0 hx hby d1_78 (by decide) (by decide) (feq hc18).2 ?_
  refine own_iload_n 86 X0 hx hby d1_85 rfl rfl ?_
  refine own_bipush 88 (10 : Int32) X0 hx hby d1_86 rfl (by decide) ?_
  refine own_icY 95 X0 hx hby d1_88 (by decide) (by decide) (feq hc20).2 ?_
  refine own_iload_n 96 X0 hx hby d1_95 rfl rfl ?_
  refine own_bipush 98 (11 : Int32) X0 hx hby d1_96 rfl (by decide) ?_
  refine own_icY 105 X0 hx hby d1_98 (by decide) (by decide) (feq hc22).2 ?_
  refine own_iload_n 106 X0 hx hby d1_105 rfl rfl ?_
  refine own_bipush 108 (12 : Int32) X0 hx hby d1_106 rfl (by decide) ?_
  refine own_icY 115 X0 hx hby d1_108 (by decide) (by decide) (feq hc24).2 ?_
  refine own_iload_n 116 X0 hx hby d1_115 rfl rfl ?_
  refine own_bipush 118 (16 : Int32) X0 hx hby d1_116 rfl (by decide) ?_
  refine own_icY 125 X0 hx hby d1_118 (by decide) (by decide) (feq hc26).2 ?_
  refine own_iload_n 126 X0 hx hby d1_125 rfl rfl ?_
  refine own_bipush 128 (17 : Int32) X0 hx hby d1_126 rfl (by decide) ?_
  refine own_icY 135 X0 hx hby d1_128 (by decide) (by decide) (feq hc28).2 ?_
  refine own_iload_n 136 X0 hx hby d1_135 rfl rfl ?_
  refine own_bipush 138 (18 : Int32) X0 hx hby d1_136 rfl (by decide) ?_
  refine own_icY 145 X0 hx hby d1_138 (by decide) (by decide) (feq hc30).2 ?_
  refine own_iload_n 146 X0 hx hby d1_145 rfl rfl ?_
  refine own_bipush 148 (19 : Int32) X0 hx hby d1_146 rfl (by decide) ?_
  refine own_icY 155 X0 hx hby d1_148 (by decide) (by decide) (feq hc32).2 ?_
  refine own_iload_n 156 X0 hx hby d1_155 rfl rfl ?_
  refine own_bipush 158 (20 : Int32) X0 hx hby d1_156 rfl (by decide) ?_
  refine own_icY 165 X0 hx hby d1_158 (by decide) (by decide) (feq hc34).2 ?_
  refine own_iload_n 166 X0 hx hby d1_165 rfl rfl ?_
  refine own_bipush 168 (21 : Int32) X0 hx hby d1_166 rfl (by decide) ?_
  refine own_icN 171 X0 hx hby d1_168 rfl (teq hc36).2 ?_
  refine own_getS 174 X0 hx hby hZ hown (own_w hw 54 rfl) e0 (W.2.2.2.2.2.2.2.2.2.2.2.2.2.2.2.2.2.2.2.2.2.2.2.2.2.2.2.2.2.2.2.2.2.2.1.ext O0.2) d1_171 rfl ?_
  intro T37 X37 e37
  exact own_ret (Q := own_Q _ n0 h0) X37 hx hby hret hlk d1_174 rfl (Or.inr (Or.inr (Or.inr (Or.inr ⟨rfl, rfl, rfl⟩)))) (by decide) (by decide) ⟨rfl, N0, e37⟩
set_option maxRecDepth 65536 in
set_option maxHeartbeats 40000000 in
theorem rm1_19 (l : Launch) (Z : State) (a0 : Array Value) (hw : ∀ d ∈ tables_1, d.before a0 Z = true) (ws : List Jvm.Cond) (w_HELLO w_ADD_SERVICE w_GET_SERVICE w_LIST_SERVICES w_TRANSLATE w_RESOLVE w_RELEASE w_STATUS w_WAITING w_WATCH w_ACQUIRE w_RETIRE w_RESULT w_FAILURE w_DEAD w_COUNT_WAITING w_CLOSING w_UNHELD w_OPEN w_TRANSACTION w_REPLY w_KNOCK w_ALL k_ALL : Addr) (W : own_W Z w_HELLO w_ADD_SERVICE w_GET_SERVICE w_LIST_SERVICES w_TRANSLATE w_RESOLVE w_RELEASE w_STATUS w_WAITING w_WATCH w_ACQUIRE w_RETIRE w_RESULT w_FAILURE w_DEAD w_COUNT_WAITING w_CLOSING w_UNHELD w_OPEN w_TRANSACTION w_REPLY w_KNOCK w_ALL k_ALL) (x0 : Int32) (h0 : Heap) (n0 : Nat) (O0 : Old Z n0 h0) (hc2 : ¬ (x0 = (1 : Int32))) (hc4 : ¬ (x0 = (2 : Int32))) (hc6 : ¬ (x0 = (3 : Int32))) (hc8 : ¬ (x0 = (4 : Int32))) (hc10 : ¬ (x0 = (5 : Int32))) (hc12 : ¬ (x0 = (6 : Int32))) (hc14 : ¬ (x0 = (7 : Int32))) (hc16 : ¬ (x0 = (8 : Int32))) (hc18 : ¬ (x0 = (9 : Int32))) (hc20 : ¬ (x0 = (10 : Int32))) (hc22 : ¬ (x0 = (11 : Int32))) (hc24 : ¬ (x0 = (12 : Int32))) (hc26 : ¬ (x0 = (16 : Int32))) (hc28 : ¬ (x0 = (17 : Int32))) (hc30 : ¬ (x0 = (18 : Int32))) (hc32 : ¬ (x0 = (19 : Int32))) (hc34 : ¬ (x0 = (20 : Int32))) (hc36 : ¬ (x0 = (21 : Int32))) (hc38 : x0 = (32 : Int32)) :
    MetFree l (⟨"com/example/hop1/hop1/protocol/FrameKindOfPinLaw", "expected", "(I)Lcom/example/hop1/hop1/protocol/FrameKind;"⟩ : MethodName) (head1 (Jvm.Cond.code (⟨"com/example/hop1/hop1/protocol/FrameKindOfPinLaw", "expected", "(I)Lcom/example/hop1/hop1/protocol/FrameKind;"⟩ : MethodName) method_2_code 1 (some (.object "com/example/hop1/hop1/protocol/FrameKind")) :: ws) ({ frames := 0, cells := 0, slots := 0, locals := 0 } : Room)) (fun a U => a = #[(.int x0)] ∧ Z.Warmed39 U.vm ∧ U.heap = h0) (fun _ _ _ _ _ => True) (fun _ U o U' => ∃ v L, o = .returned v ∧ own_Q (some (.ref w_OPEN)) n0 h0 v U'.heap L ∧ FrameEnd U o U' L ({ frames := 0, cells := 0, slots := 0, locals := 0 } : Room).cells ({ frames := 0, cells := 0, slots := 0, locals := 0 } : Room).slots) := by
  refine MetFree.of_bodySF (plainFor_of_name pn_0) hisR ?_
  intro p e s m args below meth c s₁ Bd hml0 hP hK
  obtain ⟨rfl, hZ, hh⟩ := hP
  have hx := Bd.exec
  have hby := Bd.bytes
  have hml : c.maxLocals = 1 := hml0
  have hlk := BodyLoose.notSynchronized Bd
  have hret := Bd.returns
  have hown : s.vm.findClass "com/example/hop1/hop1/protocol/FrameKindOfPinLaw" = some m.cls := findClass_of_methodNamed Bd.named
  have hnm := (name_of_methodNamed Bd.named Bd.method).1
  have X0 : Stand p l e ({ frames := 0, cells := 0, slots := 0, locals := 0 } : Room) s m #[(.int x0)] below meth c s₁ [] 0 0 := Stand.of_body Bd
  have e0 : s₁.heap = h0 := by rw [← hh, Bd.state]; rfl
  have N0 := Fr.nil n0
  rw [ef_1 m x0]
  show Go p e below _ (s₁.setTop (mkF m 0 #[oI x0] []))
  refine own_iload_n 1 X0 hx hby d1_0 rfl rfl ?_
  refine own_iconst 2 (1 : Int32) X0 hx hby d1_1 rfl (by decide) ?_
  refine own_icY 9 X0 hx hby d1_2 (by decide) (by decide) (feq hc2).2 ?_
  refine own_iload_n 10 X0 hx hby d1_9 rfl rfl ?_
  refine own_iconst 11 (2 : Int32) X0 hx hby d1_10 rfl (by decide) ?_
  refine own_icY 18 X0 hx hby d1_11 (by decide) (by decide) (feq hc4).2 ?_
  refine own_iload_n 19 X0 hx hby d1_18 rfl rfl ?_
  refine own_iconst 20 (3 : Int32) X0 hx hby d1_19 rfl (by decide) ?_
  refine own_icY 27 X0 hx hby d1_20 (by decide) (by decide) (feq hc6).2 ?_
  refine own_iload_n 28 X0 hx hby d1_27 rfl rfl ?_
  refine own_iconst 29 (4 : Int32) X0 hx hby d1_28 rfl (by decide) ?_
  refine own_icY 36 X0 hx hby d1_29 (by decide) (by decide) (feq hc8).2 ?_
  refine own_iload_n 37 X0 hx hby d1_36 rfl rfl ?_
  refine own_iconst 38 (5 : Int32) X0 hx hby d1_37 rfl (by decide) ?_
  refine own_icY 45 X0 hx hby d1_38 (by decide) (by decide) (feq hc10).2 ?_
  refine own_iload_n 46 X0 hx hby d1_45 rfl rfl ?_
  refine own_bipush 48 (6 : Int32) X0 hx hby d1_46 rfl (by decide) ?_
  refine own_icY 55 X0 hx hby d1_48 (by decide) (by decide) (feq hc12).2 ?_
  refine own_iload_n 56 X0 hx hby d1_55 rfl rfl ?_
  refine own_bipush 58 (7 : Int32) X0 hx hby d1_56 rfl (by decide) ?_
  refine own_icY 65 X0 hx hby d1_58 (by decide) (by decide) (feq hc14).2 ?_
  refine own_iload_n 66 X0 hx hby d1_65 rfl rfl ?_
  refine own_bipush 68 (8 : Int32) X0 hx hby d1_66 rfl (by decide) ?_
  refine own_icY 75 X0 hx hby d1_68 (by decide) (by decide) (feq hc16).2 ?_
  refine own_iload_n 76 X0 hx hby d1_75 rfl rfl ?_
  refine own_bipush 78 (9 : Int32) X0 hx hby d1_76 rfl (by decide) ?_
  refine own_icY 85 X0 hx hby d1_78 (by decide) (by decide) (feq hc18).2 ?_
  refine own_iload_n 86 X0 hx hby d1_85 rfl rfl ?_
  refine own_bipush 88 (10 : Int32) X0 hx hby d1_86 rfl (by decide) ?_
  refine own_icY 95 X0 hx hby d1_88 (by decide) (by decide) (feq hc20).2 ?_
  refine own_iload_n 96 X0 hx hby d1_95 rfl rfl ?_
  refine own_bipush 98 (11 : Int32) X0 hx hby d1_96 rfl (by decide) ?_
  refine own_icY 105 X0 hx hby d1_98 (by decide) (by decide) (feq hc22).2 ?_
  refine own_iload_n 106 X0 hx hby d1_105 rfl rfl ?_
  refine own_bipush 108 (12 : Int32) X0 hx hby d1_106 rfl (by decide) ?_
  refine own_icY 115 X0 hx hby d1_108 (by decide) (by decide) (feq hc24).2 ?_
  refine own_iload_n 116 X0 hx hby d1_115 rfl rfl ?_
  refine own_bipush 118 (16 : Int32) X0 hx hby d1_116 rfl (by decide) ?_
  refine own_icY 125 X0 hx hby d1_118 (by decide) (by decide) (feq hc26).2 ?_
  refine own_iload_n 126 X0 hx hby d1_125 rfl rfl ?_
  refine own_bipush 128 (17 : Int32) X0 hx hby d1_126 rfl (by decide) ?_
  refine own_icY 135 X0 hx hby d1_128 (by decide) (by decide) (feq hc28).2 ?_
  refine own_iload_n 136 X0 hx hby d1_135 rfl rfl ?_
  refine own_bipush 138 (18 : Int32) X0 hx hby d1_136 rfl (by decide) ?_
  refine own_icY 145 X0 hx hby d1_138 (by decide) (by decide) (feq hc30).2 ?_
  refine own_iload_n 146 X0 hx hby d1_145 rfl rfl ?_
  refine own_bipush 148 (19 : Int32) X0 hx hby d1_146 rfl (by decide) ?_
  refine own_icY 155 X0 hx hby d1_148 (by decide) (by decide) (feq hc32).2 ?_
  refine own_iload_n 156 X0 hx hby d1_155 rfl rfl ?_
  refine own_bipush 158 (20 : Int32) X0 hx hby d1_156 rfl (by decide) ?_
  refine own_icY 165 X0 hx hby d1_158 (by decide) (by decide) (feq hc34).2 ?_
  refine own_iload_n 166 X0 hx hby d1_165 rfl rfl ?_
  refine own_bipush 168 (21 : Int32) X0 hx hby d1_166 rfl (by decide) ?_
  refine own_icY 175 X0 hx hby d1_168 (by decide) (by decide) (feq hc36).2 ?_
  refine own_iload_n 176 X0 hx hby d1_175 rfl rfl ?_
  refine own_bipush 178 (32 : Int32) X0 hx hby d1_176 rfl (by decide) ?_
  refine own_icN 181 X0 hx hby d1_178 rfl (teq hc38).2 ?_
  refine own_getS 184 X0 hx hby hZ hown (own_w hw 45 rfl) e0 (W.2.2.2.2.2.2.2.2.2.2.2.2.2.2.2.2.2.2.2.2.2.2.2.2.2.2.2.2.2.2.2.2.2.2.2.2.1.ext O0.2) d1_181 rfl ?_
  intro T39 X39 e39
  exact own_ret (Q := own_Q _ n0 h0) X39 hx hby hret hlk d1_184 rfl (Or.inr (Or.inr (Or.inr (Or.inr ⟨rfl, rfl, rfl⟩)))) (by decide) (by decide) ⟨rfl, N0, e39⟩
set_option maxRecDepth 65536 in
set_option maxHeartbeats 40000000 in
theorem rm1_20 (l : Launch) (Z : State) (a0 : Array Value) (hw : ∀ d ∈ tables_1, d.before a0 Z = true) (ws : List Jvm.Cond) (w_HELLO w_ADD_SERVICE w_GET_SERVICE w_LIST_SERVICES w_TRANSLATE w_RESOLVE w_RELEASE w_STATUS w_WAITING w_WATCH w_ACQUIRE w_RETIRE w_RESULT w_FAILURE w_DEAD w_COUNT_WAITING w_CLOSING w_UNHELD w_OPEN w_TRANSACTION w_REPLY w_KNOCK w_ALL k_ALL : Addr) (W : own_W Z w_HELLO w_ADD_SERVICE w_GET_SERVICE w_LIST_SERVICES w_TRANSLATE w_RESOLVE w_RELEASE w_STATUS w_WAITING w_WATCH w_ACQUIRE w_RETIRE w_RESULT w_FAILURE w_DEAD w_COUNT_WAITING w_CLOSING w_UNHELD w_OPEN w_TRANSACTION w_REPLY w_KNOCK w_ALL k_ALL) (x0 : Int32) (h0 : Heap) (n0 : Nat) (O0 : Old Z n0 h0) (hc2 : ¬ (x0 = (1 : Int32))) (hc4 : ¬ (x0 = (2 : Int32))) (hc6 : ¬ (x0 = (3 : Int32))) (hc8 : ¬ (x0 = (4 : Int32))) (hc10 : ¬ (x0 = (5 : Int32))) (hc12 : ¬ (x0 = (6 : Int32))) (hc14 : ¬ (x0 = (7 : Int32))) (hc16 : ¬ (x0 = (8 : Int32))) (hc18 : ¬ (x0 = (9 : Int32))) (hc20 : ¬ (x0 = (10 : Int32))) (hc22 : ¬ (x0 = (11 : Int32))) (hc24 : ¬ (x0 = (12 : Int32))) (hc26 : ¬ (x0 = (16 : Int32))) (hc28 : ¬ (x0 = (17 : Int32))) (hc30 : ¬ (x0 = (18 : Int32))) (hc32 : ¬ (x0 = (19 : Int32))) (hc34 : ¬ (x0 = (20 : Int32))) (hc36 : ¬ (x0 = (21 : Int32))) (hc38 : ¬ (x0 = (32 : Int32))) (hc40 : x0 = (33 : Int32)) :
    MetFree l (⟨"com/example/hop1/hop1/protocol/FrameKindOfPinLaw", "expected", "(I)Lcom/example/hop1/hop1/protocol/FrameKind;"⟩ : MethodName) (head1 (Jvm.Cond.code (⟨"com/example/hop1/hop1/protocol/FrameKindOfPinLaw", "expected", "(I)Lcom/example/hop1/hop1/protocol/FrameKind;"⟩ : MethodName) method_2_code 1 (some (.object "com/example/hop1/hop1/protocol/FrameKind")) :: ws) ({ frames := 0, cells := 0, slots := 0, locals := 0 } : Room)) (fun a U => a = #[(.int x0)] ∧ Z.Warmed39 U.vm ∧ U.heap = h0) (fun _ _ _ _ _ => True) (fun _ U o U' => ∃ v L, o = .returned v ∧ own_Q (some (.ref w_TRANSACTION)) n0 h0 v U'.heap L ∧ FrameEnd U o U' L ({ frames := 0, cells := 0, slots := 0, locals := 0 } : Room).cells ({ frames := 0, cells := 0, slots := 0, locals := 0 } : Room).slots) := by
  refine MetFree.of_bodySF (plainFor_of_name pn_0) hisR ?_
  intro p e s m args below meth c s₁ Bd hml0 hP hK
  obtain ⟨rfl, hZ, hh⟩ := hP
  have hx := Bd.exec
  have hby := Bd.bytes
  have hml : c.maxLocals = 1 := hml0
  have hlk := BodyLoose.notSynchronized Bd
  have hret := Bd.returns
  have hown : s.vm.findClass "com/example/hop1/hop1/protocol/FrameKindOfPinLaw" = some m.cls := findClass_of_methodNamed Bd.named
  have hnm := (name_of_methodNamed Bd.named Bd.method).1
  have X0 : Stand p l e ({ frames := 0, cells := 0, slots := 0, locals := 0 } : Room) s m #[(.int x0)] below meth c s₁ [] 0 0 := Stand.of_body Bd
  have e0 : s₁.heap = h0 := by rw [← hh, Bd.state]; rfl
  have N0 := Fr.nil n0
  rw [ef_1 m x0]
  show Go p e below _ (s₁.setTop (mkF m 0 #[oI x0] []))
  refine own_iload_n 1 X0 hx hby d1_0 rfl rfl ?_
  refine own_iconst 2 (1 : Int32) X0 hx hby d1_1 rfl (by decide) ?_
  refine own_icY 9 X0 hx hby d1_2 (by decide) (by decide) (feq hc2).2 ?_
  refine own_iload_n 10 X0 hx hby d1_9 rfl rfl ?_
  refine own_iconst 11 (2 : Int32) X0 hx hby d1_10 rfl (by decide) ?_
  refine own_icY 18 X0 hx hby d1_11 (by decide) (by decide) (feq hc4).2 ?_
  refine own_iload_n 19 X0 hx hby d1_18 rfl rfl ?_
  refine own_iconst 20 (3 : Int32) X0 hx hby d1_19 rfl (by decide) ?_
  refine own_icY 27 X0 hx hby d1_20 (by decide) (by decide) (feq hc6).2 ?_
  refine own_iload_n 28 X0 hx hby d1_27 rfl rfl ?_
  refine own_iconst 29 (4 : Int32) X0 hx hby d1_28 rfl (by decide) ?_
  refine own_icY 36 X0 hx hby d1_29 (by decide) (by decide) (feq hc8).2 ?_
  refine own_iload_n 37 X0 hx hby d1_36 rfl rfl ?_
  refine own_iconst 38 (5 : Int32) X0 hx hby d1_37 rfl (by decide) ?_
  refine own_icY 45 X0 hx hby d1_38 (by decide) (by decide) (feq hc10).2 ?_
  refine own_iload_n 46 X0 hx hby d1_45 rfl rfl ?_
  refine own_bipush 48 (6 : Int32) X0 hx hby d1_46 rfl (by decide) ?_
  refine own_icY 55 X0 hx hby d1_48 (by decide) (by decide) (feq hc12).2 ?_
  refine own_iload_n 56 X0 hx hby d1_55 rfl rfl ?_
  refine own_bipush 58 (7 : Int32) X0 hx hby d1_56 rfl (by decide) ?_
  refine own_icY 65 X0 hx hby d1_58 (by decide) (by decide) (feq hc14).2 ?_
  refine own_iload_n 66 X0 hx hby d1_65 rfl rfl ?_
  refine own_bipush 68 (8 : Int32) X0 hx hby d1_66 rfl (by decide) ?_
  refine own_icY 75 X0 hx hby d1_68 (by decide) (by decide) (feq hc16).2 ?_
  refine own_iload_n 76 X0 hx hby d1_75 rfl rfl ?_
  refine own_bipush 78 (9 : Int32) X0 hx hby d1_76 rfl (by decide) ?_
  refine own_icY 85 X0 hx hby d1_78 (by decide) (by decide) (feq hc18).2 ?_
  refine own_iload_n 86 X0 hx hby d1_85 rfl rfl ?_
  refine own_bipush 88 (10 : Int32) X0 hx hby d1_86 rfl (by decide) ?_
  refine own_icY 95 X0 hx hby d1_88 (by decide) (by decide) (feq hc20).2 ?_
  refine own_iload_n 96 X0 hx hby d1_95 rfl rfl ?_
  refine own_bipush 98 (11 : Int32) X0 hx hby d1_96 rfl (by decide) ?_
  refine own_icY 105 X0 hx hby d1_98 (by decide) (by decide) (feq hc22).2 ?_
  refine own_iload_n 106 X0 hx hby d1_105 rfl rfl ?_
  refine own_bipush 108 (12 : Int32) X0 hx hby d1_106 rfl (by decide) ?_
  refine own_icY 115 X0 hx hby d1_108 (by decide) (by decide) (feq hc24).2 ?_
  refine own_iload_n 116 X0 hx hby d1_115 rfl rfl ?_
  refine own_bipush 118 (16 : Int32) X0 hx hby d1_116 rfl (by decide) ?_
  refine own_icY 125 X0 hx hby d1_118 (by decide) (by decide) (feq hc26).2 ?_
  refine own_iload_n 126 X0 hx hby d1_125 rfl rfl ?_
  refine own_bipush 128 (17 : Int32) X0 hx hby d1_126 rfl (by decide) ?_
  refine own_icY 135 X0 hx hby d1_128 (by decide) (by decide) (feq hc28).2 ?_
  refine own_iload_n 136 X0 hx hby d1_135 rfl rfl ?_
  refine own_bipush 138 (18 : Int32) X0 hx hby d1_136 rfl (by decide) ?_
  refine own_icY 145 X0 hx hby d1_138 (by decide) (by decide) (feq hc30).2 ?_
  refine own_iload_n 146 X0 hx hby d1_145 rfl rfl ?_
  refine own_bipush 148 (19 : Int32) X0 hx hby d1_146 rfl (by decide) ?_
  refine own_icY 155 X0 hx hby d1_148 (by decide) (by decide) (feq hc32).2 ?_
  refine own_iload_n 156 X0 hx hby d1_155 rfl rfl ?_
  refine own_bipush 158 (20 : Int32) X0 hx hby d1_156 rfl (by decide) ?_
  refine own_icY 165 X0 hx hby d1_158 (by decide) (by decide) (feq hc34).2 ?_
  refine own_iload_n 166 X0 hx hby d1_165 rfl rfl ?_
  refine own_bipush 168 (21 : Int32) X0 hx hby d1_166 rfl (by decide) ?_
  refine own_icY 175 X0 hx hby d1_168 (by decide) (by decide) (feq hc36).2 ?_
  refine own_iload_n 176 X0 hx hby d1_175 rfl rfl ?_
  refine own_bipush 178 (32 : Int32) X0 hx hby d1_176 rfl (by decide) ?_
  refine own_icY 185 X0 hx hby d1_178 (by decide) (by decide) (feq hc38).2 ?_
  refine own_iload_n 186 X0 hx hby d1_185 rfl rfl ?_
  refine own_bipush 188 (33 : Int32) X0 hx hby d1_186 rfl (by decide) ?_
  refine own_icN 191 X0 hx hby d1_188 rfl (teq hc40).2 ?_
  refine own_getS 194 X0 hx hby hZ hown (own_w hw 55 rfl) e0 (W.2.2.2.2.2.2.2.2.2.2.2.2.2.2.2.2.2.2.2.2.2.2.2.2.2.2.2.2.2.2.2.2.2.2.2.2.2.2.1.ext O0.2) d1_191 rfl ?_
  intro T41 X41 e41
  exact own_ret (Q := own_Q _ n0 h0) X41 hx hby hret hlk d1_194 rfl (Or.inr (Or.inr (Or.inr (Or.inr ⟨rfl, rfl, rfl⟩)))) (by decide) (by decide) ⟨rfl, N0, e41⟩
set_option maxRecDepth 65536 in
set_option maxHeartbeats 40000000 in
theorem rm1_21 (l : Launch) (Z : State) (a0 : Array Value) (hw : ∀ d ∈ tables_1, d.before a0 Z = true) (ws : List Jvm.Cond) (w_HELLO w_ADD_SERVICE w_GET_SERVICE w_LIST_SERVICES w_TRANSLATE w_RESOLVE w_RELEASE w_STATUS w_WAITING w_WATCH w_ACQUIRE w_RETIRE w_RESULT w_FAILURE w_DEAD w_COUNT_WAITING w_CLOSING w_UNHELD w_OPEN w_TRANSACTION w_REPLY w_KNOCK w_ALL k_ALL : Addr) (W : own_W Z w_HELLO w_ADD_SERVICE w_GET_SERVICE w_LIST_SERVICES w_TRANSLATE w_RESOLVE w_RELEASE w_STATUS w_WAITING w_WATCH w_ACQUIRE w_RETIRE w_RESULT w_FAILURE w_DEAD w_COUNT_WAITING w_CLOSING w_UNHELD w_OPEN w_TRANSACTION w_REPLY w_KNOCK w_ALL k_ALL) (x0 : Int32) (h0 : Heap) (n0 : Nat) (O0 : Old Z n0 h0) (hc2 : ¬ (x0 = (1 : Int32))) (hc4 : ¬ (x0 = (2 : Int32))) (hc6 : ¬ (x0 = (3 : Int32))) (hc8 : ¬ (x0 = (4 : Int32))) (hc10 : ¬ (x0 = (5 : Int32))) (hc12 : ¬ (x0 = (6 : Int32))) (hc14 : ¬ (x0 = (7 : Int32))) (hc16 : ¬ (x0 = (8 : Int32))) (hc18 : ¬ (x0 = (9 : Int32))) (hc20 : ¬ (x0 = (10 : Int32))) (hc22 : ¬ (x0 = (11 : Int32))) (hc24 : ¬ (x0 = (12 : Int32))) (hc26 : ¬ (x0 = (16 : Int32))) (hc28 : ¬ (x0 = (17 : Int32))) (hc30 : ¬ (x0 = (18 : Int32))) (hc32 : ¬ (x0 = (19 : Int32))) (hc34 : ¬ (x0 = (20 : Int32))) (hc36 : ¬ (x0 = (21 : Int32))) (hc38 : ¬ (x0 = (32 : Int32))) (hc40 : ¬ (x0 = (33 : Int32))) (hc42 : x0 = (34 : Int32)) :
    MetFree l (⟨"com/example/hop1/hop1/protocol/FrameKindOfPinLaw", "expected", "(I)Lcom/example/hop1/hop1/protocol/FrameKind;"⟩ : MethodName) (head1 (Jvm.Cond.code (⟨"com/example/hop1/hop1/protocol/FrameKindOfPinLaw", "expected", "(I)Lcom/example/hop1/hop1/protocol/FrameKind;"⟩ : MethodName) method_2_code 1 (some (.object "com/example/hop1/hop1/protocol/FrameKind")) :: ws) ({ frames := 0, cells := 0, slots := 0, locals := 0 } : Room)) (fun a U => a = #[(.int x0)] ∧ Z.Warmed39 U.vm ∧ U.heap = h0) (fun _ _ _ _ _ => True) (fun _ U o U' => ∃ v L, o = .returned v ∧ own_Q (some (.ref w_REPLY)) n0 h0 v U'.heap L ∧ FrameEnd U o U' L ({ frames := 0, cells := 0, slots := 0, locals := 0 } : Room).cells ({ frames := 0, cells := 0, slots := 0, locals := 0 } : Room).slots) := by
  refine MetFree.of_bodySF (plainFor_of_name pn_0) hisR ?_
  intro p e s m args below meth c s₁ Bd hml0 hP hK
  obtain ⟨rfl, hZ, hh⟩ := hP
  have hx := Bd.exec
  have hby := Bd.bytes
  have hml : c.maxLocals = 1 := hml0
  have hlk := BodyLoose.notSynchronized Bd
  have hret := Bd.returns
  have hown : s.vm.findClass "com/example/hop1/hop1/protocol/FrameKindOfPinLaw" = some m.cls := findClass_of_methodNamed Bd.named
  have hnm := (name_of_methodNamed Bd.named Bd.method).1
  have X0 : Stand p l e ({ frames := 0, cells := 0, slots := 0, locals := 0 } : Room) s m #[(.int x0)] below meth c s₁ [] 0 0 := Stand.of_body Bd
  have e0 : s₁.heap = h0 := by rw [← hh, Bd.state]; rfl
  have N0 := Fr.nil n0
  rw [ef_1 m x0]
  show Go p e below _ (s₁.setTop (mkF m 0 #[oI x0] []))
  refine own_iload_n 1 X0 hx hby d1_0 rfl rfl ?_
  refine own_iconst 2 (1 : Int32) X0 hx hby d1_1 rfl (by decide) ?_
  refine own_icY 9 X0 hx hby d1_2 (by decide) (by decide) (feq hc2).2 ?_
  refine own_iload_n 10 X0 hx hby d1_9 rfl rfl ?_
  refine own_iconst 11 (2 : Int32) X0 hx hby d1_10 rfl (by decide) ?_
  refine own_icY 18 X0 hx hby d1_11 (by decide) (by decide) (feq hc4).2 ?_
  refine own_iload_n 19 X0 hx hby d1_18 rfl rfl ?_
  refine own_iconst 20 (3 : Int32) X0 hx hby d1_19 rfl (by decide) ?_
  refine own_icY 27 X0 hx hby d1_20 (by decide) (by decide) (feq hc6).2 ?_
  refine own_iload_n 28 X0 hx hby d1_27 rfl rfl ?_
  refine own_iconst 29 (4 : Int32) X0 hx hby d1_28 rfl (by decide) ?_
  refine own_icY 36 X0 hx hby d1_29 (by decide) (by decide) (feq hc8).2 ?_
  refine own_iload_n 37 X0 hx hby d1_36 rfl rfl ?_
  refine own_iconst 38 (5 : Int32) X0 hx hby d1_37 rfl (by decide) ?_
  refine own_icY 45 X0 hx hby d1_38 (by decide) (by decide) (feq hc10).2 ?_
  refine own_iload_n 46 X0 hx hby d1_45 rfl rfl ?_
  refine own_bipush 48 (6 : Int32) X0 hx hby d1_46 rfl (by decide) ?_
  refine own_icY 55 X0 hx hby d1_48 (by decide) (by decide) (feq hc12).2 ?_
  refine own_iload_n 56 X0 hx hby d1_55 rfl rfl ?_
  refine own_bipush 58 (7 : Int32) X0 hx hby d1_56 rfl (by decide) ?_
  refine own_icY 65 X0 hx hby d1_58 (by decide) (by decide) (feq hc14).2 ?_
  refine own_iload_n 66 X0 hx hby d1_65 rfl rfl ?_
  refine own_bipush 68 (8 : Int32) X0 hx hby d1_66 rfl (by decide) ?_
  refine own_icY 75 X0 hx hby d1_68 (by decide) (by decide) (feq hc16).2 ?_
  refine own_iload_n 76 X0 hx hby d1_75 rfl rfl ?_
  refine own_bipush 78 (9 : Int32) X0 hx hby d1_76 rfl (by decide) ?_
  refine own_icY 85 X0 hx hby d1_78 (by decide) (by decide) (feq hc18).2 ?_
  refine own_iload_n 86 X0 hx hby d1_85 rfl rfl ?_
  refine own_bipush 88 (10 : Int32) X0 hx hby d1_86 rfl (by decide) ?_
  refine own_icY 95 X0 hx hby d1_88 (by decide) (by decide) (feq hc20).2 ?_
  refine own_iload_n 96 X0 hx hby d1_95 rfl rfl ?_
  refine own_bipush 98 (11 : Int32) X0 hx hby d1_96 rfl (by decide) ?_
  refine own_icY 105 X0 hx hby d1_98 (by decide) (by decide) (feq hc22).2 ?_
  refine own_iload_n 106 X0 hx hby d1_105 rfl rfl ?_
  refine own_bipush 108 (12 : Int32) X0 hx hby d1_106 rfl (by decide) ?_
  refine own_icY 115 X0 hx hby d1_108 (by decide) (by decide) (feq hc24).2 ?_
  refine own_iload_n 116 X0 hx hby d1_115 rfl rfl ?_
  refine own_bipush 118 (16 : Int32) X0 hx hby d1_116 rfl (by decide) ?_
  refine own_icY 125 X0 hx hby d1_118 (by decide) (by decide) (feq hc26).2 ?_
  refine own_iload_n 126 X0 hx hby d1_125 rfl rfl ?_
  refine own_bipush 128 (17 : Int32) X0 hx hby d1_126 rfl (by decide) ?_
  refine own_icY 135 X0 hx hby d1_128 (by decide) (by decide) (feq hc28).2 ?_
  refine own_iload_n 136 X0 hx hby d1_135 rfl rfl ?_
  refine own_bipush 138 (18 : Int32) X0 hx hby d1_136 rfl (by decide) ?_
  refine own_icY 145 X0 hx hby d1_138 (by decide) (by decide) (feq hc30).2 ?_
  refine own_iload_n 146 X0 hx hby d1_145 rfl rfl ?_
  refine own_bipush 148 (19 : Int32) X0 hx hby d1_146 rfl (by decide) ?_
  refine own_icY 155 X0 hx hby d1_148 (by decide) (by decide) (feq hc32).2 ?_
  refine own_iload_n 156 X0 hx hby d1_155 rfl rfl ?_
  refine own_bipush 158 (20 : Int32) X0 hx hby d1_156 rfl (by decide) ?_
  refine own_icY 165 X0 hx hby d1_158 (by decide) (by decide) (feq hc34).2 ?_
  refine own_iload_n 166 X0 hx hby d1_165 rfl rfl ?_
  refine own_bipush 168 (21 : Int32) X0 hx hby d1_166 rfl (by decide) ?_
  refine own_icY 175 X0 hx hby d1_168 (by decide) (by decide) (feq hc36).2 ?_
  refine own_iload_n 176 X0 hx hby d1_175 rfl rfl ?_
  refine own_bipush 178 (32 : Int32) X0 hx hby d1_176 rfl (by decide) ?_
  refine own_icY 185 X0 hx hby d1_178 (by decide) (by decide) (feq hc38).2 ?_
  refine own_iload_n 186 X0 hx hby d1_185 rfl rfl ?_
  refine own_bipush 188 (33 : Int32) X0 hx hby d1_186 rfl (by decide) ?_
  refine own_icY 195 X0 hx hby d1_188 (by decide) (by decide) (feq hc40).2 ?_
  refine own_iload_n 196 X0 hx hby d1_195 rfl rfl ?_
  refine own_bipush 198 (34 : Int32) X0 hx hby d1_196 rfl (by decide) ?_
  refine own_icN 201 X0 hx hby d1_198 rfl (teq hc42).2 ?_
  refine own_getS 204 X0 hx hby hZ hown (own_w hw 50 rfl) e0 (W.2.2.2.2.2.2.2.2.2.2.2.2.2.2.2.2.2.2.2.2.2.2.2.2.2.2.2.2.2.2.2.2.2.2.2.2.2.2.2.2.1.ext O0.2) d1_201 rfl ?_
  intro T43 X43 e43
  exact own_ret (Q := own_Q _ n0 h0) X43 hx hby hret hlk d1_204 rfl (Or.inr (Or.inr (Or.inr (Or.inr ⟨rfl, rfl, rfl⟩)))) (by decide) (by decide) ⟨rfl, N0, e43⟩
set_option maxRecDepth 65536 in
set_option maxHeartbeats 40000000 in
theorem rm1_22 (l : Launch) (Z : State) (a0 : Array Value) (hw : ∀ d ∈ tables_1, d.before a0 Z = true) (ws : List Jvm.Cond) (w_HELLO w_ADD_SERVICE w_GET_SERVICE w_LIST_SERVICES w_TRANSLATE w_RESOLVE w_RELEASE w_STATUS w_WAITING w_WATCH w_ACQUIRE w_RETIRE w_RESULT w_FAILURE w_DEAD w_COUNT_WAITING w_CLOSING w_UNHELD w_OPEN w_TRANSACTION w_REPLY w_KNOCK w_ALL k_ALL : Addr) (W : own_W Z w_HELLO w_ADD_SERVICE w_GET_SERVICE w_LIST_SERVICES w_TRANSLATE w_RESOLVE w_RELEASE w_STATUS w_WAITING w_WATCH w_ACQUIRE w_RETIRE w_RESULT w_FAILURE w_DEAD w_COUNT_WAITING w_CLOSING w_UNHELD w_OPEN w_TRANSACTION w_REPLY w_KNOCK w_ALL k_ALL) (x0 : Int32) (h0 : Heap) (n0 : Nat) (O0 : Old Z n0 h0) (hc2 : ¬ (x0 = (1 : Int32))) (hc4 : ¬ (x0 = (2 : Int32))) (hc6 : ¬ (x0 = (3 : Int32))) (hc8 : ¬ (x0 = (4 : Int32))) (hc10 : ¬ (x0 = (5 : Int32))) (hc12 : ¬ (x0 = (6 : Int32))) (hc14 : ¬ (x0 = (7 : Int32))) (hc16 : ¬ (x0 = (8 : Int32))) (hc18 : ¬ (x0 = (9 : Int32))) (hc20 : ¬ (x0 = (10 : Int32))) (hc22 : ¬ (x0 = (11 : Int32))) (hc24 : ¬ (x0 = (12 : Int32))) (hc26 : ¬ (x0 = (16 : Int32))) (hc28 : ¬ (x0 = (17 : Int32))) (hc30 : ¬ (x0 = (18 : Int32))) (hc32 : ¬ (x0 = (19 : Int32))) (hc34 : ¬ (x0 = (20 : Int32))) (hc36 : ¬ (x0 = (21 : Int32))) (hc38 : ¬ (x0 = (32 : Int32))) (hc40 : ¬ (x0 = (33 : Int32))) (hc42 : ¬ (x0 = (34 : Int32))) (hc44 : x0 = (35 : Int32)) :
    MetFree l (⟨"com/example/hop1/hop1/protocol/FrameKindOfPinLaw", "expected", "(I)Lcom/example/hop1/hop1/protocol/FrameKind;"⟩ : MethodName) (head1 (Jvm.Cond.code (⟨"com/example/hop1/hop1/protocol/FrameKindOfPinLaw", "expected", "(I)Lcom/example/hop1/hop1/protocol/FrameKind;"⟩ : MethodName) method_2_code 1 (some (.object "com/example/hop1/hop1/protocol/FrameKind")) :: ws) ({ frames := 0, cells := 0, slots := 0, locals := 0 } : Room)) (fun a U => a = #[(.int x0)] ∧ Z.Warmed39 U.vm ∧ U.heap = h0) (fun _ _ _ _ _ => True) (fun _ U o U' => ∃ v L, o = .returned v ∧ own_Q (some (.ref w_KNOCK)) n0 h0 v U'.heap L ∧ FrameEnd U o U' L ({ frames := 0, cells := 0, slots := 0, locals := 0 } : Room).cells ({ frames := 0, cells := 0, slots := 0, locals := 0 } : Room).slots) := by
  refine MetFree.of_bodySF (plainFor_of_name pn_0) hisR ?_
  intro p e s m args below meth c s₁ Bd hml0 hP hK
  obtain ⟨rfl, hZ, hh⟩ := hP
  have hx := Bd.exec
  have hby := Bd.bytes
  have hml : c.maxLocals = 1 := hml0
  have hlk := BodyLoose.notSynchronized Bd
  have hret := Bd.returns
  have hown : s.vm.findClass "com/example/hop1/hop1/protocol/FrameKindOfPinLaw" = some m.cls := findClass_of_methodNamed Bd.named
  have hnm := (name_of_methodNamed Bd.named Bd.method).1
  have X0 : Stand p l e ({ frames := 0, cells := 0, slots := 0, locals := 0 } : Room) s m #[(.int x0)] below meth c s₁ [] 0 0 := Stand.of_body Bd
  have e0 : s₁.heap = h0 := by rw [← hh, Bd.state]; rfl
  have N0 := Fr.nil n0
  rw [ef_1 m x0]
  show Go p e below _ (s₁.setTop (mkF m 0 #[oI x0] []))
  refine own_iload_n 1 X0 hx hby d1_0 rfl rfl ?_
  refine own_iconst 2 (1 : Int32) X0 hx hby d1_1 rfl (by decide) ?_
  refine own_icY 9 X0 hx hby d1_2 (by decide) (by decide) (feq hc2).2 ?_
  refine own_iload_n 10 X0 hx hby d1_9 rfl rfl ?_
  refine own_iconst 11 (2 : Int32) X0 hx hby d1_10 rfl (by decide) ?_
  refine own_icY 18 X0 hx hby d1_11 (by decide) (by decide) (feq hc4).2 ?_
  refine own_iload_n 19 X0 hx hby d1_18 rfl rfl ?_
  refine own_iconst 20 (3 : Int32) X0 hx hby d1_19 rfl (by decide) ?_
  refine own_icY 27 X0 hx hby d1_20 (by decide) (by decide) (feq hc6).2 ?_
  refine own_iload_n 28 X0 hx hby d1_27 rfl rfl ?_
  refine own_iconst 29 (4 : Int32) X0 hx hby d1_28 rfl (by decide) ?_
  refine own_icY 36 X0 hx hby d1_29 (by decide) (by decide) (feq hc8).2 ?_
  refine own_iload_n 37 X0 hx hby d1_36 rfl rfl ?_
  refine own_iconst 38 (5 : Int32) X0 hx hby d1_37 rfl (by decide) ?_
  refine own_icY 45 X0 hx hby d1_38 (by decide) (by decide) (feq hc10).2 ?_
  refine own_iload_n 46 X0 hx hby d1_45 rfl rfl ?_
  refine own_bipush 48 (6 : Int32) X0 hx hby d1_46 rfl (by decide) ?_
  refine own_icY 55 X0 hx hby d1_48 (by decide) (by decide) (feq hc12).2 ?_
  refine own_iload_n 56 X0 hx hby d1_55 rfl rfl ?_
  refine own_bipush 58 (7 : Int32) X0 hx hby d1_56 rfl (by decide) ?_
  refine own_icY 65 X0 hx hby d1_58 (by decide) (by decide) (feq hc14).2 ?_
  refine own_iload_n 66 X0 hx hby d1_65 rfl rfl ?_
  refine own_bipush 68 (8 : Int32) X0 hx hby d1_66 rfl (by decide) ?_
  refine own_icY 75 X0 hx hby d1_68 (by decide) (by decide) (feq hc16).2 ?_
  refine own_iload_n 76 X0 hx hby d1_75 rfl rfl ?_
  refine own_bipush 78 (9 : Int32) X0 hx hby d1_76 rfl (by decide) ?_
  refine own_icY 85 X0 hx hby d1_78 (by decide) (by decide) (feq hc18).2 ?_
  refine own_iload_n 86 X0 hx hby d1_85 rfl rfl ?_
  refine own_bipush 88 (10 : Int32) X0 hx hby d1_86 rfl (by decide) ?_
  refine own_icY 95 X0 hx hby d1_88 (by decide) (by decide) (feq hc20).2 ?_
  refine own_iload_n 96 X0 hx hby d1_95 rfl rfl ?_
  refine own_bipush 98 (11 : Int32) X0 hx hby d1_96 rfl (by decide) ?_
  refine own_icY 105 X0 hx hby d1_98 (by decide) (by decide) (feq hc22).2 ?_
  refine own_iload_n 106 X0 hx hby d1_105 rfl rfl ?_
  refine own_bipush 108 (12 : Int32) X0 hx hby d1_106 rfl (by decide) ?_
  refine own_icY 115 X0 hx hby d1_108 (by decide) (by decide) (feq hc24).2 ?_
  refine own_iload_n 116 X0 hx hby d1_115 rfl rfl ?_
  refine own_bipush 118 (16 : Int32) X0 hx hby d1_116 rfl (by decide) ?_
  refine own_icY 125 X0 hx hby d1_118 (by decide) (by decide) (feq hc26).2 ?_
  refine own_iload_n 126 X0 hx hby d1_125 rfl rfl ?_
  refine own_bipush 128 (17 : Int32) X0 hx hby d1_126 rfl (by decide) ?_
  refine own_icY 135 X0 hx hby d1_128 (by decide) (by decide) (feq hc28).2 ?_
  refine own_iload_n 136 X0 hx hby d1_135 rfl rfl ?_
  refine own_bipush 138 (18 : Int32) X0 hx hby d1_136 rfl (by decide) ?_
  refine own_icY 145 X0 hx hby d1_138 (by decide) (by decide) (feq hc30).2 ?_
  refine own_iload_n 146 X0 hx hby d1_145 rfl rfl ?_
  refine own_bipush 148 (19 : Int32) X0 hx hby d1_146 rfl (by decide) ?_
  refine own_icY 155 X0 hx hby d1_148 (by decide) (by decide) (feq hc32).2 ?_
  refine own_iload_n 156 X0 hx hby d1_155 rfl rfl ?_
  refine own_bipush 158 (20 : Int32) X0 hx hby d1_156 rfl (by decide) ?_
  refine own_icY 165 X0 hx hby d1_158 (by decide) (by decide) (feq hc34).2 ?_
  refine own_iload_n 166 X0 hx hby d1_165 rfl rfl ?_
  refine own_bipush 168 (21 : Int32) X0 hx hby d1_166 rfl (by decide) ?_
  refine own_icY 175 X0 hx hby d1_168 (by decide) (by decide) (feq hc36).2 ?_
  refine own_iload_n 176 X0 hx hby d1_175 rfl rfl ?_
  refine own_bipush 178 (32 : Int32) X0 hx hby d1_176 rfl (by decide) ?_
  refine own_icY 185 X0 hx hby d1_178 (by decide) (by decide) (feq hc38).2 ?_
  refine own_iload_n 186 X0 hx hby d1_185 rfl rfl ?_
  refine own_bipush 188 (33 : Int32) X0 hx hby d1_186 rfl (by decide) ?_
  refine own_icY 195 X0 hx hby d1_188 (by decide) (by decide) (feq hc40).2 ?_
  refine own_iload_n 196 X0 hx hby d1_195 rfl rfl ?_
  refine own_bipush 198 (34 : Int32) X0 hx hby d1_196 rfl (by decide) ?_
  refine own_icY 205 X0 hx hby d1_198 (by decide) (by decide) (feq hc42).2 ?_
  refine own_iload_n 206 X0 hx hby d1_205 rfl rfl ?_
  refine own_bipush 208 (35 : Int32) X0 hx hby d1_206 rfl (by decide) ?_
  refine own_icN 211 X0 hx hby d1_208 rfl (teq hc44).2 ?_
  refine own_getS 214 X0 hx hby hZ hown (own_w hw 53 rfl) e0 (W.2.2.2.2.2.2.2.2.2.2.2.2.2.2.2.2.2.2.2.2.2.2.2.2.2.2.2.2.2.2.2.2.2.2.2.2.2.2.2.2.2.2.1.ext O0.2) d1_211 rfl ?_
  intro T45 X45 e45
  exact own_ret (Q := own_Q _ n0 h0) X45 hx hby hret hlk d1_214 rfl (Or.inr (Or.inr (Or.inr (Or.inr ⟨rfl, rfl, rfl⟩)))) (by decide) (by decide) ⟨rfl, N0, e45⟩
set_option maxRecDepth 65536 in
set_option maxHeartbeats 40000000 in
theorem rm1_23 (l : Launch) (Z : State) (a0 : Array Value) (hw : ∀ d ∈ tables_1, d.before a0 Z = true) (ws : List Jvm.Cond) (w_HELLO w_ADD_SERVICE w_GET_SERVICE w_LIST_SERVICES w_TRANSLATE w_RESOLVE w_RELEASE w_STATUS w_WAITING w_WATCH w_ACQUIRE w_RETIRE w_RESULT w_FAILURE w_DEAD w_COUNT_WAITING w_CLOSING w_UNHELD w_OPEN w_TRANSACTION w_REPLY w_KNOCK w_ALL k_ALL : Addr) (W : own_W Z w_HELLO w_ADD_SERVICE w_GET_SERVICE w_LIST_SERVICES w_TRANSLATE w_RESOLVE w_RELEASE w_STATUS w_WAITING w_WATCH w_ACQUIRE w_RETIRE w_RESULT w_FAILURE w_DEAD w_COUNT_WAITING w_CLOSING w_UNHELD w_OPEN w_TRANSACTION w_REPLY w_KNOCK w_ALL k_ALL) (x0 : Int32) (h0 : Heap) (n0 : Nat) (O0 : Old Z n0 h0) (hc2 : ¬ (x0 = (1 : Int32))) (hc4 : ¬ (x0 = (2 : Int32))) (hc6 : ¬ (x0 = (3 : Int32))) (hc8 : ¬ (x0 = (4 : Int32))) (hc10 : ¬ (x0 = (5 : Int32))) (hc12 : ¬ (x0 = (6 : Int32))) (hc14 : ¬ (x0 = (7 : Int32))) (hc16 : ¬ (x0 = (8 : Int32))) (hc18 : ¬ (x0 = (9 : Int32))) (hc20 : ¬ (x0 = (10 : Int32))) (hc22 : ¬ (x0 = (11 : Int32))) (hc24 : ¬ (x0 = (12 : Int32))) (hc26 : ¬ (x0 = (16 : Int32))) (hc28 : ¬ (x0 = (17 : Int32))) (hc30 : ¬ (x0 = (18 : Int32))) (hc32 : ¬ (x0 = (19 : Int32))) (hc34 : ¬ (x0 = (20 : Int32))) (hc36 : ¬ (x0 = (21 : Int32))) (hc38 : ¬ (x0 = (32 : Int32))) (hc40 : ¬ (x0 = (33 : Int32))) (hc42 : ¬ (x0 = (34 : Int32))) (hc44 : ¬ (x0 = (35 : Int32))) :
    MetFree l (⟨"com/example/hop1/hop1/protocol/FrameKindOfPinLaw", "expected", "(I)Lcom/example/hop1/hop1/protocol/FrameKind;"⟩ : MethodName) (head1 (Jvm.Cond.code (⟨"com/example/hop1/hop1/protocol/FrameKindOfPinLaw", "expected", "(I)Lcom/example/hop1/hop1/protocol/FrameKind;"⟩ : MethodName) method_2_code 1 (some (.object "com/example/hop1/hop1/protocol/FrameKind")) :: ws) ({ frames := 0, cells := 0, slots := 0, locals := 0 } : Room)) (fun a U => a = #[(.int x0)] ∧ Z.Warmed39 U.vm ∧ U.heap = h0) (fun _ _ _ _ _ => True) (fun _ U o U' => ∃ v L, o = .returned v ∧ own_Q (some .null) n0 h0 v U'.heap L ∧ FrameEnd U o U' L ({ frames := 0, cells := 0, slots := 0, locals := 0 } : Room).cells ({ frames := 0, cells := 0, slots := 0, locals := 0 } : Room).slots) := by
  refine MetFree.of_bodySF (plainFor_of_name pn_0) hisR ?_
  intro p e s m args below meth c s₁ Bd hml0 hP hK
  obtain ⟨rfl, hZ, hh⟩ := hP
  have hx := Bd.exec
  have hby := Bd.bytes
  have hml : c.maxLocals = 1 := hml0
  have hlk := BodyLoose.notSynchronized Bd
  have hret := Bd.returns
  have hown : s.vm.findClass "com/example/hop1/hop1/protocol/FrameKindOfPinLaw" = some m.cls := findClass_of_methodNamed Bd.named
  have hnm := (name_of_methodNamed Bd.named Bd.method).1
  have X0 : Stand p l e ({ frames := 0, cells := 0, slots := 0, locals := 0 } : Room) s m #[(.int x0)] below meth c s₁ [] 0 0 := Stand.of_body Bd
  have e0 : s₁.heap = h0 := by rw [← hh, Bd.state]; rfl
  have N0 := Fr.nil n0
  rw [ef_1 m x0]
  show Go p e below _ (s₁.setTop (mkF m 0 #[oI x0] []))
  refine own_iload_n 1 X0 hx hby d1_0 rfl rfl ?_
  refine own_iconst 2 (1 : Int32) X0 hx hby d1_1 rfl (by decide) ?_
  refine own_icY 9 X0 hx hby d1_2 (by decide) (by decide) (feq hc2).2 ?_
  refine own_iload_n 10 X0 hx hby d1_9 rfl rfl ?_
  refine own_iconst 11 (2 : Int32) X0 hx hby d1_10 rfl (by decide) ?_
  refine own_icY 18 X0 hx hby d1_11 (by decide) (by decide) (feq hc4).2 ?_
  refine own_iload_n 19 X0 hx hby d1_18 rfl rfl ?_
  refine own_iconst 20 (3 : Int32) X0 hx hby d1_19 rfl (by decide) ?_
  refine own_icY 27 X0 hx hby d1_20 (by decide) (by decide) (feq hc6).2 ?_
  refine own_iload_n 28 X0 hx hby d1_27 rfl rfl ?_
  refine own_iconst 29 (4 : Int32) X0 hx hby d1_28 rfl (by decide) ?_
  refine own_icY 36 X0 hx hby d1_29 (by decide) (by decide) (feq hc8).2 ?_
  refine own_iload_n 37 X0 hx hby d1_36 rfl rfl ?_
  refine own_iconst 38 (5 : Int32) X0 hx hby d1_37 rfl (by decide) ?_
  refine own_icY 45 X0 hx hby d1_38 (by decide) (by decide) (feq hc10).2 ?_
  refine own_iload_n 46 X0 hx hby d1_45 rfl rfl ?_
  refine own_bipush 48 (6 : Int32) X0 hx hby d1_46 rfl (by decide) ?_
  refine own_icY 55 X0 hx hby d1_48 (by decide) (by decide) (feq hc12).2 ?_
  refine own_iload_n 56 X0 hx hby d1_55 rfl rfl ?_
  refine own_bipush 58 (7 : Int32) X0 hx hby d1_56 rfl (by decide) ?_
  refine own_icY 65 X0 hx hby d1_58 (by decide) (by decide) (feq hc14).2 ?_
  refine own_iload_n 66 X0 hx hby d1_65 rfl rfl ?_
  refine own_bipush 68 (8 : Int32) X0 hx hby d1_66 rfl (by decide) ?_
  refine own_icY 75 X0 hx hby d1_68 (by decide) (by decide) (feq hc16).2 ?_
  refine own_iload_n 76 X0 hx hby d1_75 rfl rfl ?_
  refine own_bipush 78 (9 : Int32) X0 hx hby d1_76 rfl (by decide) ?_
  refine own_icY 85 X0 hx hby d1_78 (by decide) (by decide) (feq hc18).2 ?_
  refine own_iload_n 86 X0 hx hby d1_85 rfl rfl ?_
  refine own_bipush 88 (10 : Int32) X0 hx hby d1_86 rfl (by decide) ?_
  refine own_icY 95 X0 hx hby d1_88 (by decide) (by decide) (feq hc20).2 ?_
  refine own_iload_n 96 X0 hx hby d1_95 rfl rfl ?_
  refine own_bipush 98 (11 : Int32) X0 hx hby d1_96 rfl (by decide) ?_
  refine own_icY 105 X0 hx hby d1_98 (by decide) (by decide) (feq hc22).2 ?_
  refine own_iload_n 106 X0 hx hby d1_105 rfl rfl ?_
  refine own_bipush 108 (12 : Int32) X0 hx hby d1_106 rfl (by decide) ?_
  refine own_icY 115 X0 hx hby d1_108 (by decide) (by decide) (feq hc24).2 ?_
  refine own_iload_n 116 X0 hx hby d1_115 rfl rfl ?_
  refine own_bipush 118 (16 : Int32) X0 hx hby d1_116 rfl (by decide) ?_
  refine own_icY 125 X0 hx hby d1_118 (by decide) (by decide) (feq hc26).2 ?_
  refine own_iload_n 126 X0 hx hby d1_125 rfl rfl ?_
  refine own_bipush 128 (17 : Int32) X0 hx hby d1_126 rfl (by decide) ?_
  refine own_icY 135 X0 hx hby d1_128 (by decide) (by decide) (feq hc28).2 ?_
  refine own_iload_n 136 X0 hx hby d1_135 rfl rfl ?_
  refine own_bipush 138 (18 : Int32) X0 hx hby d1_136 rfl (by decide) ?_
  refine own_icY 145 X0 hx hby d1_138 (by decide) (by decide) (feq hc30).2 ?_
  refine own_iload_n 146 X0 hx hby d1_145 rfl rfl ?_
  refine own_bipush 148 (19 : Int32) X0 hx hby d1_146 rfl (by decide) ?_
  refine own_icY 155 X0 hx hby d1_148 (by decide) (by decide) (feq hc32).2 ?_
  refine own_iload_n 156 X0 hx hby d1_155 rfl rfl ?_
  refine own_bipush 158 (20 : Int32) X0 hx hby d1_156 rfl (by decide) ?_
  refine own_icY 165 X0 hx hby d1_158 (by decide) (by decide) (feq hc34).2 ?_
  refine own_iload_n 166 X0 hx hby d1_165 rfl rfl ?_
  refine own_bipush 168 (21 : Int32) X0 hx hby d1_166 rfl (by decide) ?_
  refine own_icY 175 X0 hx hby d1_168 (by decide) (by decide) (feq hc36).2 ?_
  refine own_iload_n 176 X0 hx hby d1_175 rfl rfl ?_
  refine own_bipush 178 (32 : Int32) X0 hx hby d1_176 rfl (by decide) ?_
  refine own_icY 185 X0 hx hby d1_178 (by decide) (by decide) (feq hc38).2 ?_
  refine own_iload_n 186 X0 hx hby d1_185 rfl rfl ?_
  refine own_bipush 188 (33 : Int32) X0 hx hby d1_186 rfl (by decide) ?_
  refine own_icY 195 X0 hx hby d1_188 (by decide) (by decide) (feq hc40).2 ?_
  refine own_iload_n 196 X0 hx hby d1_195 rfl rfl ?_
  refine own_bipush 198 (34 : Int32) X0 hx hby d1_196 rfl (by decide) ?_
  refine own_icY 205 X0 hx hby d1_198 (by decide) (by decide) (feq hc42).2 ?_
  refine own_iload_n 206 X0 hx hby d1_205 rfl rfl ?_
  refine own_bipush 208 (35 : Int32) X0 hx hby d1_206 rfl (by decide) ?_
  refine own_icY 215 X0 hx hby d1_208 (by decide) (by decide) (feq hc44).2 ?_
  refine own_null 216 X0 hx hby d1_215 rfl ?_
  exact own_ret (Q := own_Q _ n0 h0) X0 hx hby hret hlk d1_216 rfl (Or.inr (Or.inr (Or.inr (Or.inr ⟨rfl, rfl, rfl⟩)))) (by decide) (by decide) ⟨rfl, N0, e0⟩
set_option maxRecDepth 65536 in
set_option maxHeartbeats 40000000 in
theorem rm2_1 (l : Launch) (Z : State) (a0 : Array Value) (hw : ∀ d ∈ tables_1, d.before a0 Z = true) (ws : List Jvm.Cond) (w_HELLO w_ADD_SERVICE w_GET_SERVICE w_LIST_SERVICES w_TRANSLATE w_RESOLVE w_RELEASE w_STATUS w_WAITING w_WATCH w_ACQUIRE w_RETIRE w_RESULT w_FAILURE w_DEAD w_COUNT_WAITING w_CLOSING w_UNHELD w_OPEN w_TRANSACTION w_REPLY w_KNOCK w_ALL k_ALL : Addr) (W : own_W Z w_HELLO w_ADD_SERVICE w_GET_SERVICE w_LIST_SERVICES w_TRANSLATE w_RESOLVE w_RELEASE w_STATUS w_WAITING w_WATCH w_ACQUIRE w_RETIRE w_RESULT w_FAILURE w_DEAD w_COUNT_WAITING w_CLOSING w_UNHELD w_OPEN w_TRANSACTION w_REPLY w_KNOCK w_ALL k_ALL) (x0 : Int32) (h0 : Heap) (n0 : Nat) (O0 : Old Z n0 h0) (hc50 : (1 : Int32) = x0) :
    MetFree l (⟨"com/example/hop1/hop1/protocol/FrameKind", "of", "(I)Lcom/example/hop1/hop1/protocol/FrameKind;"⟩ : MethodName) (head1 (Jvm.Cond.code (⟨"com/example/hop1/hop1/protocol/FrameKind", "of", "(I)Lcom/example/hop1/hop1/protocol/FrameKind;"⟩ : MethodName) prog_113_method_5_code 5 (some (.object "com/example/hop1/hop1/protocol/FrameKind")) :: ws) ({ frames := 0, cells := 0, slots := 0, locals := 0 } : Room)) (fun a U => a = #[(.int x0)] ∧ Z.Warmed39 U.vm ∧ U.heap = h0) (fun _ _ _ _ _ => True) (fun _ U o U' => ∃ v L, o = .returned v ∧ own_Q (some (.ref w_HELLO)) n0 h0 v U'.heap L ∧ FrameEnd U o U' L ({ frames := 0, cells := 0, slots := 0, locals := 0 } : Room).cells ({ frames := 0, cells := 0, slots := 0, locals := 0 } : Room).slots) := by
  refine MetFree.of_bodySF (plainFor_of_name pn_1) hisR ?_
  intro p e s m args below meth c s₁ Bd hml0 hP hK
  obtain ⟨rfl, hZ, hh⟩ := hP
  have hx := Bd.exec
  have hby := Bd.bytes
  have hml : c.maxLocals = 5 := hml0
  have hlk := BodyLoose.notSynchronized Bd
  have hret := Bd.returns
  have hown : s.vm.findClass "com/example/hop1/hop1/protocol/FrameKind" = some m.cls := findClass_of_methodNamed Bd.named
  have hnm := (name_of_methodNamed Bd.named Bd.method).1
  have X0 : Stand p l e ({ frames := 0, cells := 0, slots := 0, locals := 0 } : Room) s m #[(.int x0)] below meth c s₁ [] 0 0 := Stand.of_body Bd
  have e0 : s₁.heap = h0 := by rw [← hh, Bd.state]; rfl
  have N0 := Fr.nil n0
  rw [ef_2 m x0]
  show Go p e below _ (s₁.setTop (mkF m 0 #[oI x0, oU, oU, oU, oU] []))
  refine own_getS 3 X0 hx hby hZ hown (own_w hw 8 rfl) e0 (W.2.2.2.2.2.2.2.2.2.2.2.2.2.2.2.2.2.2.2.2.2.2.2.2.2.2.2.2.2.2.2.2.2.2.2.2.2.2.2.2.2.2.2.2.1.ext O0.2) d2_0 rfl ?_
  intro T48 X48 e48
  refine own_astore_n 4 #[oI x0, oA w_ALL, oU, oU, oU] X48 hx hby d2_3 rfl rfl rfl ?_
  refine own_aload_n 5 X48 hx hby d2_4 rfl rfl rfl ?_
  refine own_len 6 X48 hx hby hZ e48 (W.2.2.2.2.2.2.2.2.2.2.2.2.2.2.2.2.2.2.2.2.2.2.2.2.2.2.2.2.2.2.2.2.2.2.2.2.2.2.2.2.2.2.2.2.2.2.2.2.2.2.2.2.2.2.2.2.2.2.2.2.2.2.2.2.2.2.2.ext O0.2) d2_5 rfl ?_
  refine own_istore_n 7 #[oI x0, oA w_ALL, oI (22 : Int32), oU, oU] X48 hx hby d2_6 rfl rfl ?_
  refine own_iconst 8 (0 : Int32) X48 hx hby d2_7 rfl (by decide) ?_
  refine own_istore_n 9 #[oI x0, oA w_ALL, oI (22 : Int32), oI (0 : Int32), oU] X48 hx hby d2_8 rfl rfl ?_
  refine own_iload_n 10 X48 hx hby d2_9 rfl rfl ?_
  refine own_iload_n 11 X48 hx hby d2_10 rfl rfl ?_
  refine own_icN 14 X48 hx hby d2_11 rfl (by decide) ?_
  refine own_aload_n 15 X48 hx hby d2_14 rfl rfl rfl ?_
  refine own_iload_n 16 X48 hx hby d2_15 rfl rfl ?_
  refine own_aaload 17 (.ref w_HELLO) X48 hx hby hZ e48 (W.2.2.2.2.2.2.2.2.2.2.2.2.2.2.2.2.2.2.2.2.2.2.2.2.2.2.2.2.2.2.2.2.2.2.2.2.2.2.2.2.2.2.2.2.2.2.2.2.2.2.2.2.2.2.2.2.2.2.2.2.2.2.2.2.2.2.2.ext O0.2) rfl d2_16 rfl (by decide) rfl ?_
  refine own_astore 19 #[oI x0, oA w_ALL, oI (22 : Int32), oI (0 : Int32), oA w_HELLO] X48 hx hby d2_17 rfl rfl rfl ?_
  refine own_aload 21 X48 hx hby d2_19 rfl rfl rfl ?_
  refine own_getF 24 X48 hx hby hZ hown (own_w hw 11 rfl) e48 (W.2.2.2.2.2.2.2.2.2.2.2.2.2.2.2.2.2.2.2.2.2.2.2.2.2.2.2.2.2.2.2.2.2.2.2.2.2.2.2.2.2.2.2.2.2.1.ext O0.2) d2_21 rfl ?_
  intro T49 X49 e49
  refine own_iload_n 25 X49 hx hby d2_24 rfl rfl ?_
  refine own_icN 28 X49 hx hby d2_25 rfl (teq hc50).2 ?_
  refine own_aload 30 X49 hx hby d2_28 rfl rfl rfl ?_
  exact own_ret (Q := own_Q _ n0 h0) X49 hx hby hret hlk d2_30 rfl (Or.inr (Or.inr (Or.inr (Or.inr ⟨rfl, rfl, rfl⟩)))) (by decide) (by decide) ⟨rfl, N0, e49⟩
set_option maxRecDepth 65536 in
set_option maxHeartbeats 40000000 in
theorem rm2_2 (l : Launch) (Z : State) (a0 : Array Value) (hw : ∀ d ∈ tables_1, d.before a0 Z = true) (ws : List Jvm.Cond) (w_HELLO w_ADD_SERVICE w_GET_SERVICE w_LIST_SERVICES w_TRANSLATE w_RESOLVE w_RELEASE w_STATUS w_WAITING w_WATCH w_ACQUIRE w_RETIRE w_RESULT w_FAILURE w_DEAD w_COUNT_WAITING w_CLOSING w_UNHELD w_OPEN w_TRANSACTION w_REPLY w_KNOCK w_ALL k_ALL : Addr) (W : own_W Z w_HELLO w_ADD_SERVICE w_GET_SERVICE w_LIST_SERVICES w_TRANSLATE w_RESOLVE w_RELEASE w_STATUS w_WAITING w_WATCH w_ACQUIRE w_RETIRE w_RESULT w_FAILURE w_DEAD w_COUNT_WAITING w_CLOSING w_UNHELD w_OPEN w_TRANSACTION w_REPLY w_KNOCK w_ALL k_ALL) (x0 : Int32) (h0 : Heap) (n0 : Nat) (O0 : Old Z n0 h0) (hc50 : ¬ ((1 : Int32) = x0)) (hc52 : (2 : Int32) = x0) :
    MetFree l (⟨"com/example/hop1/hop1/protocol/FrameKind", "of", "(I)Lcom/example/hop1/hop1/protocol/FrameKind;"⟩ : MethodName) (head1 (Jvm.Cond.code (⟨"com/example/hop1/hop1/protocol/FrameKind", "of", "(I)Lcom/example/hop1/hop1/protocol/FrameKind;"⟩ : MethodName) prog_113_method_5_code 5 (some (.object "com/example/hop1/hop1/protocol/FrameKind")) :: ws) ({ frames := 0, cells := 0, slots := 0, locals := 0 } : Room)) (fun a U => a = #[(.int x0)] ∧ Z.Warmed39 U.vm ∧ U.heap = h0) (fun _ _ _ _ _ => True) (fun _ U o U' => ∃ v L, o = .returned v ∧ own_Q (some (.ref w_ADD_SERVICE)) n0 h0 v U'.heap L ∧ FrameEnd U o U' L ({ frames := 0, cells := 0, slots := 0, locals := 0 } : Room).cells ({ frames := 0, cells := 0, slots := 0, locals := 0 } : Room).slots) := by
  refine MetFree.of_bodySF (plainFor_of_name pn_1) hisR ?_
  intro p e s m args below meth c s₁ Bd hml0 hP hK
  obtain ⟨rfl, hZ, hh⟩ := hP
  have hx := Bd.exec
  have hby := Bd.bytes
  have hml : c.maxLocals = 5 := hml0
  have hlk := BodyLoose.notSynchronized Bd
  have hret := Bd.returns
  have hown : s.vm.findClass "com/example/hop1/hop1/protocol/FrameKind" = some m.cls := findClass_of_methodNamed Bd.named
  have hnm := (name_of_methodNamed Bd.named Bd.method).1
  have X0 : Stand p l e ({ frames := 0, cells := 0, slots := 0, locals := 0 } : Room) s m #[(.int x0)] below meth c s₁ [] 0 0 := Stand.of_body Bd
  have e0 : s₁.heap = h0 := by rw [← hh, Bd.state]; rfl
  have N0 := Fr.nil n0
  rw [ef_2 m x0]
  show Go p e below _ (s₁.setTop (mkF m 0 #[oI x0, oU, oU, oU, oU] []))
  refine own_getS 3 X0 hx hby hZ hown (own_w hw 8 rfl) e0 (W.2.2.2.2.2.2.2.2.2.2.2.2.2.2.2.2.2.2.2.2.2.2.2.2.2.2.2.2.2.2.2.2.2.2.2.2.2.2.2.2.2.2.2.2.1.ext O0.2) d2_0 rfl ?_
  intro T48 X48 e48
  refine own_astore_n 4 #[oI x0, oA w_ALL, oU, oU, oU] X48 hx hby d2_3 rfl rfl rfl ?_
  refine own_aload_n 5 X48 hx hby d2_4 rfl rfl rfl ?_
  refine own_len 6 X48 hx hby hZ e48 (W.2.2.2.2.2.2.2.2.2.2.2.2.2.2.2.2.2.2.2.2.2.2.2.2.2.2.2.2.2.2.2.2.2.2.2.2.2.2.2.2.2.2.2.2.2.2.2.2.2.2.2.2.2.2.2.2.2.2.2.2.2.2.2.2.2.2.2.ext O0.2) d2_5 rfl ?_
  refine own_istore_n 7 #[oI x0, oA w_ALL, oI (22 : Int32), oU, oU] X48 hx hby d2_6 rfl rfl ?_
  refine own_iconst 8 (0 : Int32) X48 hx hby d2_7 rfl (by decide) ?_
  refine own_istore_n 9 #[oI x0, oA w_ALL, oI (22 : Int32), oI (0 : Int32), oU] X48 hx hby d2_8 rfl rfl ?_
  refine own_iload_n 10 X48 hx hby d2_9 rfl rfl ?_
  refine own_iload_n 11 X48 hx hby d2_10 rfl rfl ?_
  refine own_icN 14 X48 hx hby d2_11 rfl (by decide) ?_
  refine own_aload_n 15 X48 hx hby d2_14 rfl rfl rfl ?_
  refine own_iload_n 16 X48 hx hby d2_15 rfl rfl ?_
  refine own_aaload 17 (.ref w_HELLO) X48 hx hby hZ e48 (W.2.2.2.2.2.2.2.2.2.2.2.2.2.2.2.2.2.2.2.2.2.2.2.2.2.2.2.2.2.2.2.2.2.2.2.2.2.2.2.2.2.2.2.2.2.2.2.2.2.2.2.2.2.2.2.2.2.2.2.2.2.2.2.2.2.2.2.ext O0.2) rfl d2_16 rfl (by decide) rfl ?_
  refine own_astore 19 #[oI x0, oA w_ALL, oI (22 : Int32), oI (0 : Int32), oA w_HELLO] X48 hx hby d2_17 rfl rfl rfl ?_
  refine own_aload 21 X48 hx hby d2_19 rfl rfl rfl ?_
  refine own_getF 24 X48 hx hby hZ hown (own_w hw 11 rfl) e48 (W.2.2.2.2.2.2.2.2.2.2.2.2.2.2.2.2.2.2.2.2.2.2.2.2.2.2.2.2.2.2.2.2.2.2.2.2.2.2.2.2.2.2.2.2.2.1.ext O0.2) d2_21 rfl ?_
  intro T49 X49 e49
  refine own_iload_n 25 X49 hx hby d2_24 rfl rfl ?_
  refine own_icY 31 X49 hx hby d2_25 (by decide) (by decide) (feq hc50).2 ?_
  refine own_iinc 34 #[oI x0, oA w_ALL, oI (22 : Int32), oI (1 : Int32), oA w_HELLO] X49 hx hby d2_31 rfl rfl rfl ?_
  refine own_goto 9 X49 hx hby d2_34 (by decide) (by decide) ?_
  refine own_iload_n 10 X49 hx hby d2_9 rfl rfl ?_
  refine own_iload_n 11 X49 hx hby d2_10 rfl rfl ?_
  refine own_icN 14 X49 hx hby d2_11 rfl (by decide) ?_
  refine own_aload_n 15 X49 hx hby d2_14 rfl rfl rfl ?_
  refine own_iload_n 16 X49 hx hby d2_15 rfl rfl ?_
  refine own_aaload 17 (.ref w_ADD_SERVICE) X49 hx hby hZ e49 (W.2.2.2.2.2.2.2.2.2.2.2.2.2.2.2.2.2.2.2.2.2.2.2.2.2.2.2.2.2.2.2.2.2.2.2.2.2.2.2.2.2.2.2.2.2.2.2.2.2.2.2.2.2.2.2.2.2.2.2.2.2.2.2.2.2.2.2.ext O0.2) rfl d2_16 rfl (by decide) rfl ?_
  refine own_astore 19 #[oI x0, oA w_ALL, oI (22 : Int32), oI (1 : Int32), oA w_ADD_SERVICE] X49 hx hby d2_17 rfl rfl rfl ?_
  refine own_aload 21 X49 hx hby d2_19 rfl rfl rfl ?_
  refine own_getF 24 X49 hx hby hZ hown (own_w hw 11 rfl) e49 (W.2.2.2.2.2.2.2.2.2.2.2.2.2.2.2.2.2.2.2.2.2.2.2.2.2.2.2.2.2.2.2.2.2.2.2.2.2.2.2.2.2.2.2.2.2.2.1.ext O0.2) d2_21 rfl ?_
  intro T51 X51 e51
  refine own_iload_n 25 X51 hx hby d2_24 rfl rfl ?_
  refine own_icN 28 X51 hx hby d2_25 rfl (teq hc52).2 ?_
  refine own_aload 30 X51 hx hby d2_28 rfl rfl rfl ?_
  exact own_ret (Q := own_Q _ n0 h0) X51 hx hby hret hlk d2_30 rfl (Or.inr (Or.inr (Or.inr (Or.inr ⟨rfl, rfl, rfl⟩)))) (by decide) (by decide) ⟨rfl, N0, e51⟩
set_option maxRecDepth 65536 in
set_option maxHeartbeats 40000000 in
theorem rm2_3 (l : Launch) (Z : State) (a0 : Array Value) (hw : ∀ d ∈ tables_1, d.before a0 Z = true) (ws : List Jvm.Cond) (w_HELLO w_ADD_SERVICE w_GET_SERVICE w_LIST_SERVICES w_TRANSLATE w_RESOLVE w_RELEASE w_STATUS w_WAITING w_WATCH w_ACQUIRE w_RETIRE w_RESULT w_FAILURE w_DEAD w_COUNT_WAITING w_CLOSING w_UNHELD w_OPEN w_TRANSACTION w_REPLY w_KNOCK w_ALL k_ALL : Addr) (W : own_W Z w_HELLO w_ADD_SERVICE w_GET_SERVICE w_LIST_SERVICES w_TRANSLATE w_RESOLVE w_RELEASE w_STATUS w_WAITING w_WATCH w_ACQUIRE w_RETIRE w_RESULT w_FAILURE w_DEAD w_COUNT_WAITING w_CLOSING w_UNHELD w_OPEN w_TRANSACTION w_REPLY w_KNOCK w_ALL k_ALL) (x0 : Int32) (h0 : Heap) (n0 : Nat) (O0 : Old Z n0 h0) (hc50 : ¬ ((1 : Int32) = x0)) (hc52 : ¬ ((2 : Int32) = x0)) (hc54 : (3 : Int32) = x0) :
    MetFree l (⟨"com/example/hop1/hop1/protocol/FrameKind", "of", "(I)Lcom/example/hop1/hop1/protocol/FrameKind;"⟩ : MethodName) (head1 (Jvm.Cond.code (⟨"com/example/hop1/hop1/protocol/FrameKind", "of", "(I)Lcom/example/hop1/hop1/protocol/FrameKind;"⟩ : MethodName) prog_113_method_5_code 5 (some (.object "com/example/hop1/hop1/protocol/FrameKind")) :: ws) ({ frames := 0, cells := 0, slots := 0, locals := 0 } : Room)) (fun a U => a = #[(.int x0)] ∧ Z.Warmed39 U.vm ∧ U.heap = h0) (fun _ _ _ _ _ => True) (fun _ U o U' => ∃ v L, o = .returned v ∧ own_Q (some (.ref w_GET_SERVICE)) n0 h0 v U'.heap L ∧ FrameEnd U o U' L ({ frames := 0, cells := 0, slots := 0, locals := 0 } : Room).cells ({ frames := 0, cells := 0, slots := 0, locals := 0 } : Room).slots) := by
  refine MetFree.of_bodySF (plainFor_of_name pn_1) hisR ?_
  intro p e s m args below meth c s₁ Bd hml0 hP hK
  obtain ⟨rfl, hZ, hh⟩ := hP
  have hx := Bd.exec
  have hby := Bd.bytes
  have hml : c.maxLocals = 5 := hml0
  have hlk := BodyLoose.notSynchronized Bd
  have hret := Bd.returns
  have hown : s.vm.findClass "com/example/hop1/hop1/protocol/FrameKind" = some m.cls := findClass_of_methodNamed Bd.named
  have hnm := (name_of_methodNamed Bd.named Bd.method).1
  have X0 : Stand p l e ({ frames := 0, cells := 0, slots := 0, locals := 0 } : Room) s m #[(.int x0)] below meth c s₁ [] 0 0 := Stand.of_body Bd
  have e0 : s₁.heap = h0 := by rw [← hh, Bd.state]; rfl
  have N0 := Fr.nil n0
  rw [ef_2 m x0]
  show Go p e below _ (s₁.setTop (mkF m 0 #[oI x0, oU, oU, oU, oU] []))
  refine own_getS 3 X0 hx hby hZ hown (own_w hw 8 rfl) e0 (W.2.2.2.2.2.2.2.2.2.2.2.2.2.2.2.2.2.2.2.2.2.2.2.2.2.2.2.2.2.2.2.2.2.2.2.2.2.2.2.2.2.2.2.2.1.ext O0.2) d2_0 rfl ?_
  intro T48 X48 e48
  refine own_astore_n 4 #[oI x0, oA w_ALL, oU, oU, oU] X48 hx hby d2_3 rfl rfl rfl ?_
  refine own_aload_n 5 X48 hx hby d2_4 rfl rfl rfl ?_
  refine own_len 6 X48 hx hby hZ e48 (W.2.2.2.2.2.2.2.2.2.2.2.2.2.2.2.2.2.2.2.2.2.2.2.2.2.2.2.2.2.2.2.2.2.2.2.2.2.2.2.2.2.2.2.2.2.2.2.2.2.2.2.2.2.2.2.2.2.2.2.2.2.2.2.2.2.2.2.ext O0.2) d2_5 rfl ?_
  refine own_istore_n 7 #[oI x0, oA w_ALL, oI (22 : Int32), oU, oU] X48 hx hby d2_6 rfl rfl ?_
  refine own_iconst 8 (0 : Int32) X48 hx hby d2_7 rfl (by decide) ?_
  refine own_istore_n 9 #[oI x0, oA w_ALL, oI (22 : Int32), oI (0 : Int32), oU] X48 hx hby d2_8 rfl rfl ?_
  refine own_iload_n 10 X48 hx hby d2_9 rfl rfl ?_
  refine own_iload_n 11 X48 hx hby d2_10 rfl rfl ?_
  refine own_icN 14 X48 hx hby d2_11 rfl (by decide) ?_
  refine own_aload_n 15 X48 hx hby d2_14 rfl rfl rfl ?_
  refine own_iload_n 16 X48 hx hby d2_15 rfl rfl ?_
  refine own_aaload 17 (.ref w_HELLO) X48 hx hby hZ e48 (W.2.2.2.2.2.2.2.2.2.2.2.2.2.2.2.2.2.2.2.2.2.2.2.2.2.2.2.2.2.2.2.2.2.2.2.2.2.2.2.2.2.2.2.2.2.2.2.2.2.2.2.2.2.2.2.2.2.2.2.2.2.2.2.2.2.2.2.ext O0.2) rfl d2_16 rfl (by decide) rfl ?_
  refine own_astore 19 #[oI x0, oA w_ALL, oI (22 : Int32), oI (0 : Int32), oA w_HELLO] X48 hx hby d2_17 rfl rfl rfl ?_
  refine own_aload 21 X48 hx hby d2_19 rfl rfl rfl ?_
  refine own_getF 24 X48 hx hby hZ hown (own_w hw 11 rfl) e48 (W.2.2.2.2.2.2.2.2.2.2.2.2.2.2.2.2.2.2.2.2.2.2.2.2.2.2.2.2.2.2.2.2.2.2.2.2.2.2.2.2.2.2.2.2.2.1.ext O0.2) d2_21 rfl ?_
  intro T49 X49 e49
  refine own_iload_n 25 X49 hx hby d2_24 rfl rfl ?_
  refine own_icY 31 X49 hx hby d2_25 (by decide) (by decide) (feq hc50).2 ?_
  refine own_iinc 34 #[oI x0, oA w_ALL, oI (22 : Int32), oI (1 : Int32), oA w_HELLO] X49 hx hby d2_31 rfl rfl rfl ?_
  refine own_goto 9 X49 hx hby d2_34 (by decide) (by decide) ?_
  refine own_iload_n 10 X49 hx hby d2_9 rfl rfl ?_
  refine own_iload_n 11 X49 hx hby d2_10 rfl rfl ?_
  refine own_icN 14 X49 hx hby d2_11 rfl (by decide) ?_
  refine own_aload_n 15 X49 hx hby d2_14 rfl rfl rfl ?_
  refine own_iload_n 16 X49 hx hby d2_15 rfl rfl ?_
  refine own_aaload 17 (.ref w_ADD_SERVICE) X49 hx hby hZ e49 (W.2.2.2.2.2.2.2.2.2.2.2.2.2.2.2.2.2.2.2.2.2.2.2.2.2.2.2.2.2.2.2.2.2.2.2.2.2.2.2.2.2.2.2.2.2.2.2.2.2.2.2.2.2.2.2.2.2.2.2.2.2.2.2.2.2.2.2.ext O0.2) rfl d2_16 rfl (by decide) rfl ?_
  refine own_astore 19 #[oI x0, oA w_ALL, oI (22 : Int32), oI (1 : Int32), oA w_ADD_SERVICE] X49 hx hby d2_17 rfl rfl rfl ?_
  refine own_aload 21 X49 hx hby d2_19 rfl rfl rfl ?_
  refine own_getF 24 X49 hx hby hZ hown (own_w hw 11 rfl) e49 (W.2.2.2.2.2.2.2.2.2.2.2.2.2.2.2.2.2.2.2.2.2.2.2.2.2.2.2.2.2.2.2.2.2.2.2.2.2.2.2.2.2.2.2.2.2.2.1.ext O0.2) d2_21 rfl ?_
  intro T51 X51 e51
  refine own_iload_n 25 X51 hx hby d2_24 rfl rfl ?_
  refine own_icY 31 X51 hx hby d2_25 (by decide) (by decide) (feq hc52).2 ?_
  refine own_iinc 34 #[oI x0, oA w_ALL, oI (22 : Int32), oI (2 : Int32), oA w_ADD_SERVICE] X51 hx hby d2_31 rfl rfl rfl ?_
  refine own_goto 9 X51 hx hby d2_34 (by decide) (by decide) ?_
  refine own_iload_n 10 X51 hx hby d2_9 rfl rfl ?_
  refine own_iload_n 11 X51 hx hby d2_10 rfl rfl ?_
  refine own_icN 14 X51 hx hby d2_11 rfl (by decide) ?_
  refine own_aload_n 15 X51 hx hby d2_14 rfl rfl rfl ?_
  refine own_iload_n 16 X51 hx hby d2_15 rfl rfl ?_
  refine own_aaload 17 (.ref w_GET_SERVICE) X51 hx hby hZ e51 (W.2.2.2.2.2.2.2.2.2.2.2.2.2.2.2.2.2.2.2.2.2.2.2.2.2.2.2.2.2.2.2.2.2.2.2.2.2.2.2.2.2.2.2.2.2.2.2.2.2.2.2.2.2.2.2.2.2.2.2.2.2.2.2.2.2.2.2.ext O0.2) rfl d2_16 rfl (by decide) rfl ?_
  refine own_astore 19 #[oI x0, oA w_ALL, oI (22 : Int32), oI (2 : Int32), oA w_GET_SERVICE] X51 hx hby d2_17 rfl rfl rfl ?_
  refine own_aload 21 X51 hx hby d2_19 rfl rfl rfl ?_
  refine own_getF 24 X51 hx hby hZ hown (own_w hw 11 rfl) e51 (W.2.2.2.2.2.2.2.2.2.2.2.2.2.2.2.2.2.2.2.2.2.2.2.2.2.2.2.2.2.2.2.2.2.2.2.2.2.2.2.2.2.2.2.2.2.2.2.1.ext O0.2) d2_21 rfl ?_
  intro T53 X53 e53
  refine own_iload_n 25 X53 hx hby d2_24 rfl rfl ?_
  refine own_icN 28 X53 hx hby d2_25 rfl (teq hc54).2 ?_
  refine own_aload 30 X53 hx hby d2_28 rfl rfl rfl ?_
  exact own_ret (Q := own_Q _ n0 h0) X53 hx hby hret hlk d2_30 rfl (Or.inr (Or.inr (Or.inr (Or.inr ⟨rfl, rfl, rfl⟩)))) (by decide) (by decide) ⟨rfl, N0, e53⟩
set_option maxRecDepth 65536 in
set_option maxHeartbeats 40000000 in
theorem rm2_4 (l : Launch) (Z : State) (a0 : Array Value) (hw : ∀ d ∈ tables_1, d.before a0 Z = true) (ws : List Jvm.Cond) (w_HELLO w_ADD_SERVICE w_GET_SERVICE w_LIST_SERVICES w_TRANSLATE w_RESOLVE w_RELEASE w_STATUS w_WAITING w_WATCH w_ACQUIRE w_RETIRE w_RESULT w_FAILURE w_DEAD w_COUNT_WAITING w_CLOSING w_UNHELD w_OPEN w_TRANSACTION w_REPLY w_KNOCK w_ALL k_ALL : Addr) (W : own_W Z w_HELLO w_ADD_SERVICE w_GET_SERVICE w_LIST_SERVICES w_TRANSLATE w_RESOLVE w_RELEASE w_STATUS w_WAITING w_WATCH w_ACQUIRE w_RETIRE w_RESULT w_FAILURE w_DEAD w_COUNT_WAITING w_CLOSING w_UNHELD w_OPEN w_TRANSACTION w_REPLY w_KNOCK w_ALL k_ALL) (x0 : Int32) (h0 : Heap) (n0 : Nat) (O0 : Old Z n0 h0) (hc50 : ¬ ((1 : Int32) = x0)) (hc52 : ¬ ((2 : Int32) = x0)) (hc54 : ¬ ((3 : Int32) = x0)) (hc56 : (4 : Int32) = x0) :
    MetFree l (⟨"com/example/hop1/hop1/protocol/FrameKind", "of", "(I)Lcom/example/hop1/hop1/protocol/FrameKind;"⟩ : MethodName) (head1 (Jvm.Cond.code (⟨"com/example/hop1/hop1/protocol/FrameKind", "of", "(I)Lcom/example/hop1/hop1/protocol/FrameKind;"⟩ : MethodName) prog_113_method_5_code 5 (some (.object "com/example/hop1/hop1/protocol/FrameKind")) :: ws) ({ frames := 0, cells := 0, slots := 0, locals := 0 } : Room)) (fun a U => a = #[(.int x0)] ∧ Z.Warmed39 U.vm ∧ U.heap = h0) (fun _ _ _ _ _ => True) (fun _ U o U' => ∃ v L, o = .returned v ∧ own_Q (some (.ref w_LIST_SERVICES)) n0 h0 v U'.heap L ∧ FrameEnd U o U' L ({ frames := 0, cells := 0, slots := 0, locals := 0 } : Room).cells ({ frames := 0, cells := 0, slots := 0, locals := 0 } : Room).slots) := by
  refine MetFree.of_bodySF (plainFor_of_name pn_1) hisR ?_
  intro p e s m args below meth c s₁ Bd hml0 hP hK
  obtain ⟨rfl, hZ, hh⟩ := hP
  have hx := Bd.exec
  have hby := Bd.bytes
  have hml : c.maxLocals = 5 := hml0
  have hlk := BodyLoose.notSynchronized Bd
  have hret := Bd.returns
  have hown : s.vm.findClass "com/example/hop1/hop1/protocol/FrameKind" = some m.cls := findClass_of_methodNamed Bd.named
  have hnm := (name_of_methodNamed Bd.named Bd.method).1
  have X0 : Stand p l e ({ frames := 0, cells := 0, slots := 0, locals := 0 } : Room) s m #[(.int x0)] below meth c s₁ [] 0 0 := Stand.of_body Bd
  have e0 : s₁.heap = h0 := by rw [← hh, Bd.state]; rfl
  have N0 := Fr.nil n0
  rw [ef_2 m x0]
  show Go p e below _ (s₁.setTop (mkF m 0 #[oI x0, oU, oU, oU, oU] []))
  refine own_getS 3 X0 hx hby hZ hown (own_w hw 8 rfl) e0 (W.2.2.2.2.2.2.2.2.2.2.2.2.2.2.2.2.2.2.2.2.2.2.2.2.2.2.2.2.2.2.2.2.2.2.2.2.2.2.2.2.2.2.2.2.1.ext O0.2) d2_0 rfl ?_
  intro T48 X48 e48
  refine own_astore_n 4 #[oI x0, oA w_ALL, oU, oU, oU] X48 hx hby d2_3 rfl rfl rfl ?_
  refine own_aload_n 5 X48 hx hby d2_4 rfl rfl rfl ?_
  refine own_len 6 X48 hx hby hZ e48 (W.2.2.2.2.2.2.2.2.2.2.2.2.2.2.2.2.2.2.2.2.2.2.2.2.2.2.2.2.2.2.2.2.2.2.2.2.2.2.2.2.2.2.2.2.2.2.2.2.2.2.2.2.2.2.2.2.2.2.2.2.2.2.2.2.2.2.2.ext O0.2) d2_5 rfl ?_
  refine own_istore_n 7 #[oI x0, oA w_ALL, oI (22 : Int32), oU, oU] X48 hx hby d2_6 rfl rfl ?_
  refine own_iconst 8 (0 : Int32) X48 hx hby d2_7 rfl (by decide) ?_
  refine own_istore_n 9 #[oI x0, oA w_ALL, oI (22 : Int32), oI (0 : Int32), oU] X48 hx hby d2_8 rfl rfl ?_
  refine own_iload_n 10 X48 hx hby d2_9 rfl rfl ?_
  refine own_iload_n 11 X48 hx hby d2_10 rfl rfl ?_
  refine own_icN 14 X48 hx hby d2_11 rfl (by decide) ?_
  refine own_aload_n 15 X48 hx hby d2_14 rfl rfl rfl ?_
  refine own_iload_n 16 X48 hx hby d2_15 rfl rfl ?_
  refine own_aaload 17 (.ref w_HELLO) X48 hx hby hZ e48 (W.2.2.2.2.2.2.2.2.2.2.2.2.2.2.2.2.2.2.2.2.2.2.2.2.2.2.2.2.2.2.2.2.2.2.2.2.2.2.2.2.2.2.2.2.2.2.2.2.2.2.2.2.2.2.2.2.2.2.2.2.2.2.2.2.2.2.2.ext O0.2) rfl d2_16 rfl (by decide) rfl ?_
  refine own_astore 19 #[oI x0, oA w_ALL, oI (22 : Int32), oI (0 : Int32), oA w_HELLO] X48 hx hby d2_17 rfl rfl rfl ?_
  refine own_aload 21 X48 hx hby d2_19 rfl rfl rfl ?_
  refine own_getF 24 X48 hx hby hZ hown (own_w hw 11 rfl) e48 (W.2.2.2.2.2.2.2.2.2.2.2.2.2.2.2.2.2.2.2.2.2.2.2.2.2.2.2.2.2.2.2.2.2.2.2.2.2.2.2.2.2.2.2.2.2.1.ext O0.2) d2_21 rfl ?_
  intro T49 X49 e49
  refine own_iload_n 25 X49 hx hby d2_24 rfl rfl ?_
  refine own_icY 31 X49 hx hby d2_25 (by decide) (by decide) (feq hc50).2 ?_
  refine own_iinc 34 #[oI x0, oA w_ALL, oI (22 : Int32), oI (1 : Int32), oA w_HELLO] X49 hx hby d2_31 rfl rfl rfl ?_
  refine own_goto 9 X49 hx hby d2_34 (by decide) (by decide) ?_
  refine own_iload_n 10 X49 hx hby d2_9 rfl rfl ?_
  refine own_iload_n 11 X49 hx hby d2_10 rfl rfl ?_
  refine own_icN 14 X49 hx hby d2_11 rfl (by decide) ?_
  refine own_aload_n 15 X49 hx hby d2_14 rfl rfl rfl ?_
  refine own_iload_n 16 X49 hx hby d2_15 rfl rfl ?_
  refine own_aaload 17 (.ref w_ADD_SERVICE) X49 hx hby hZ e49 (W.2.2.2.2.2.2.2.2.2.2.2.2.2.2.2.2.2.2.2.2.2.2.2.2.2.2.2.2.2.2.2.2.2.2.2.2.2.2.2.2.2.2.2.2.2.2.2.2.2.2.2.2.2.2.2.2.2.2.2.2.2.2.2.2.2.2.2.ext O0.2) rfl d2_16 rfl (by decide) rfl ?_
  refine own_astore 19 #[oI x0, oA w_ALL, oI (22 : Int32), oI (1 : Int32), oA w_ADD_SERVICE] X49 hx hby d2_17 rfl rfl rfl ?_
  refine own_aload 21 X49 hx hby d2_19 rfl rfl rfl ?_
  refine own_getF 24 X49 hx hby hZ hown (own_w hw 11 rfl) e49 (W.2.2.2.2.2.2.2.2.2.2.2.2.2.2.2.2.2.2.2.2.2.2.2.2.2.2.2.2.2.2.2.2.2.2.2.2.2.2.2.2.2.2.2.2.2.2.1.ext O0.2) d2_21 rfl ?_
  intro T51 X51 e51
  refine own_iload_n 25 X51 hx hby d2_24 rfl rfl ?_
  refine own_icY 31 X51 hx hby d2_25 (by decide) (by decide) (feq hc52).2 ?_
  refine own_iinc 34 #[oI x0, oA w_ALL, oI (22 : Int32), oI (2 : Int32), oA w_ADD_SERVICE] X51 hx hby d2_31 rfl rfl rfl ?_
  refine own_goto 9 X51 hx hby d2_34 (by decide) (by decide) ?_
  refine own_iload_n 10 X51 hx hby d2_9 rfl rfl ?_
  refine own_iload_n 11 X51 hx hby d2_10 rfl rfl ?_
  refine own_icN 14 X51 hx hby d2_11 rfl (by decide) ?_
  refine own_aload_n 15 X51 hx hby d2_14 rfl rfl rfl ?_
  refine own_iload_n 16 X51 hx hby d2_15 rfl rfl ?_
  refine own_aaload 17 (.ref w_GET_SERVICE) X51 hx hby hZ e51 (W.2.2.2.2.2.2.2.2.2.2.2.2.2.2.2.2.2.2.2.2.2.2.2.2.2.2.2.2.2.2.2.2.2.2.2.2.2.2.2.2.2.2.2.2.2.2.2.2.2.2.2.2.2.2.2.2.2.2.2.2.2.2.2.2.2.2.2.ext O0.2) rfl d2_16 rfl (by decide) rfl ?_
  refine own_astore 19 #[oI x0, oA w_ALL, oI (22 : Int32), oI (2 : Int32), oA w_GET_SERVICE] X51 hx hby d2_17 rfl rfl rfl ?_
  refine own_aload 21 X51 hx hby d2_19 rfl rfl rfl ?_
  refine own_getF 24 X51 hx hby hZ hown (own_w hw 11 rfl) e51 (W.2.2.2.2.2.2.2.2.2.2.2.2.2.2.2.2.2.2.2.2.2.2.2.2.2.2.2.2.2.2.2.2.2.2.2.2.2.2.2.2.2.2.2.2.2.2.2.1.ext O0.2) d2_21 rfl ?_
  intro T53 X53 e53
  refine own_iload_n 25 X53 hx hby d2_24 rfl rfl ?_
  refine own_icY 31 X53 hx hby d2_25 (by decide) (by decide) (feq hc54).2 ?_
  refine own_iinc 34 #[oI x0, oA w_ALL, oI (22 : Int32), oI (3 : Int32), oA w_GET_SERVICE] X53 hx hby d2_31 rfl rfl rfl ?_
  refine own_goto 9 X53 hx hby d2_34 (by decide) (by decide) ?_
  refine own_iload_n 10 X53 hx hby d2_9 rfl rfl ?_
  refine own_iload_n 11 X53 hx hby d2_10 rfl rfl ?_
  refine own_icN 14 X53 hx hby d2_11 rfl (by decide) ?_
  refine own_aload_n 15 X53 hx hby d2_14 rfl rfl rfl ?_
  refine own_iload_n 16 X53 hx hby d2_15 rfl rfl ?_
  refine own_aaload 17 (.ref w_LIST_SERVICES) X53 hx hby hZ e53 (W.2.2.2.2.2.2.2.2.2.2.2.2.2.2.2.2.2.2.2.2.2.2.2.2.2.2.2.2.2.2.2.2.2.2.2.2.2.2.2.2.2.2.2.2.2.2.2.2.2.2.2.2.2.2.2.2.2.2.2.2.2.2.2.2.2.2.2.ext O0.2) rfl d2_16 rfl (by decide) rfl ?_
  refine own_astore 19 #[oI x0, oA w_ALL, oI (22 : Int32), oI (3 : Int32), oA w_LIST_SERVICES] X53 hx hby d2_17 rfl rfl rfl ?_
  refine own_aload 21 X53 hx hby d2_19 rfl rfl rfl ?_
  refine own_getF 24 X53 hx hby hZ hown (own_w hw 11 rfl) e53 (W.2.2.2.2.2.2.2.2.2.2.2.2.2.2.2.2.2.2.2.2.2.2.2.2.2.2.2.2.2.2.2.2.2.2.2.2.2.2.2.2.2.2.2.2.2.2.2.2.1.ext O0.2) d2_21 rfl ?_
  intro T55 X55 e55
  refine own_iload_n 25 X55 hx hby d2_24 rfl rfl ?_
  refine own_icN 28 X55 hx hby d2_25 rfl (teq hc56).2 ?_
  refine own_aload 30 X55 hx hby d2_28 rfl rfl rfl ?_
  exact own_ret (Q := own_Q _ n0 h0) X55 hx hby hret hlk d2_30 rfl (Or.inr (Or.inr (Or.inr (Or.inr ⟨rfl, rfl, rfl⟩)))) (by decide) (by decide) ⟨rfl, N0, e55⟩
set_option maxRecDepth 65536 in
set_option maxHeartbeats 40000000 in
theorem rm2_5 (l : Launch) (Z : State) (a0 : Array Value) (hw : ∀ d ∈ tables_1, d.before a0 Z = true) (ws : List Jvm.Cond) (w_HELLO w_ADD_SERVICE w_GET_SERVICE w_LIST_SERVICES w_TRANSLATE w_RESOLVE w_RELEASE w_STATUS w_WAITING w_WATCH w_ACQUIRE w_RETIRE w_RESULT w_FAILURE w_DEAD w_COUNT_WAITING w_CLOSING w_UNHELD w_OPEN w_TRANSACTION w_REPLY w_KNOCK w_ALL k_ALL : Addr) (W : own_W Z w_HELLO w_ADD_SERVICE w_GET_SERVICE w_LIST_SERVICES w_TRANSLATE w_RESOLVE w_RELEASE w_STATUS w_WAITING w_WATCH w_ACQUIRE w_RETIRE w_RESULT w_FAILURE w_DEAD w_COUNT_WAITING w_CLOSING w_UNHELD w_OPEN w_TRANSACTION w_REPLY w_KNOCK w_ALL k_ALL) (x0 : Int32) (h0 : Heap) (n0 : Nat) (O0 : Old Z n0 h0) (hc50 : ¬ ((1 : Int32) = x0)) (hc52 : ¬ ((2 : Int32) = x0)) (hc54 : ¬ ((3 : Int32) = x0)) (hc56 : ¬ ((4 : Int32) = x0)) (hc58 : (5 : Int32) = x0) :
    MetFree l (⟨"com/example/hop1/hop1/protocol/FrameKind", "of", "(I)Lcom/example/hop1/hop1/protocol/FrameKind;"⟩ : MethodName) (head1 (Jvm.Cond.code (⟨"com/example/hop1/hop1/protocol/FrameKind", "of", "(I)Lcom/example/hop1/hop1/protocol/FrameKind;"⟩ : MethodName) prog_113_method_5_code 5 (some (.object "com/example/hop1/hop1/protocol/FrameKind")) :: ws) ({ frames := 0, cells := 0, slots := 0, locals := 0 } : Room)) (fun a U => a = #[(.int x0)] ∧ Z.Warmed39 U.vm ∧ U.heap = h0) (fun _ _ _ _ _ => True) (fun _ U o U' => ∃ v L, o = .returned v ∧ own_Q (some (.ref w_TRANSLATE)) n0 h0 v U'.heap L ∧ FrameEnd U o U' L ({ frames := 0, cells := 0, slots := 0, locals := 0 } : Room).cells ({ frames := 0, cells := 0, slots := 0, locals := 0 } : Room).slots) := by
  refine MetFree.of_bodySF (plainFor_of_name pn_1) hisR ?_
  intro p e s m args below meth c s₁ Bd hml0 hP hK
  obtain ⟨rfl, hZ, hh⟩ := hP
  have hx := Bd.exec
  have hby := Bd.bytes
  have hml : c.maxLocals = 5 := hml0
  have hlk := BodyLoose.notSynchronized Bd
  have hret := Bd.returns
  have hown : s.vm.findClass "com/example/hop1/hop1/protocol/FrameKind" = some m.cls := findClass_of_methodNamed Bd.named
  have hnm := (name_of_methodNamed Bd.named Bd.method).1
  have X0 : Stand p l e ({ frames := 0, cells := 0, slots := 0, locals := 0 } : Room) s m #[(.int x0)] below meth c s₁ [] 0 0 := Stand.of_body Bd
  have e0 : s₁.heap = h0 := by rw [← hh, Bd.state]; rfl
  have N0 := Fr.nil n0
  rw [ef_2 m x0]
  show Go p e below _ (s₁.setTop (mkF m 0 #[oI x0, oU, oU, oU, oU] []))
  refine own_getS 3 X0 hx hby hZ hown (own_w hw 8 rfl) e0 (W.2.2.2.2.2.2.2.2.2.2.2.2.2.2.2.2.2.2.2.2.2.2.2.2.2.2.2.2.2.2.2.2.2.2.2.2.2.2.2.2.2.2.2.2.1.ext O0.2) d2_0 rfl ?_
  intro T48 X48 e48
  refine own_astore_n 4 #[oI x0, oA w_ALL, oU, oU, oU] X48 hx hby d2_3 rfl rfl rfl ?_
  refine own_aload_n 5 X48 hx hby d2_4 rfl rfl rfl ?_
  refine own_len 6 X48 hx hby hZ e48 (W.2.2.2.2.2.2.2.2.2.2.2.2.2.2.2.2.2.2.2.2.2.2.2.2.2.2.2.2.2.2.2.2.2.2.2.2.2.2.2.2.2.2.2.2.2.2.2.2.2.2.2.2.2.2.2.2.2.2.2.2.2.2.2.2.2.2.2.ext O0.2) d2_5 rfl ?_
  refine own_istore_n 7 #[oI x0, oA w_ALL, oI (22 : Int32), oU, oU] X48 hx hby d2_6 rfl rfl ?_
  refine own_iconst 8 (0 : Int32) X48 hx hby d2_7 rfl (by decide) ?_
  refine own_istore_n 9 #[oI x0, oA w_ALL, oI (22 : Int32), oI (0 : Int32), oU] X48 hx hby d2_8 rfl rfl ?_
  refine own_iload_n 10 X48 hx hby d2_9 rfl rfl ?_
  refine own_iload_n 11 X48 hx hby d2_10 rfl rfl ?_
  refine own_icN 14 X48 hx hby d2_11 rfl (by decide) ?_
  refine own_aload_n 15 X48 hx hby d2_14 rfl rfl rfl ?_
  refine own_iload_n 16 X48 hx hby d2_15 rfl rfl ?_
  refine own_aaload 17 (.ref w_HELLO) X48 hx hby hZ e48 (W.2.2.2.2.2.2.2.2.2.2.2.2.2.2.2.2.2.2.2.2.2.2.2.2.2.2.2.2.2.2.2.2.2.2.2.2.2.2.2.2.2.2.2.2.2.2.2.2.2.2.2.2.2.2.2.2.2.2.2.2.2.2.2.2.2.2.2.ext O0.2) rfl d2_16 rfl (by decide) rfl ?_
  refine own_astore 19 #[oI x0, oA w_ALL, oI (22 : Int32), oI (0 : Int32), oA w_HELLO] X48 hx hby d2_17 rfl rfl rfl ?_
  refine own_aload 21 X48 hx hby d2_19 rfl rfl rfl ?_
  refine own_getF 24 X48 hx hby hZ hown (own_w hw 11 rfl) e48 (W.2.2.2.2.2.2.2.2.2.2.2.2.2.2.2.2.2.2.2.2.2.2.2.2.2.2.2.2.2.2.2.2.2.2.2.2.2.2.2.2.2.2.2.2.2.1.ext O0.2) d2_21 rfl ?_
  intro T49 X49 e49
  refine own_iload_n 25 X49 hx hby d2_24 rfl rfl ?_
  refine own_icY 31 X49 hx hby d2_25 (by decide) (by decide) (feq hc50).2 ?_
  refine own_iinc 34 #[oI x0, oA w_ALL, oI (22 : Int32), oI (1 : Int32), oA w_HELLO] X49 hx hby d2_31 rfl rfl rfl ?_
  refine own_goto 9 X49 hx hby d2_34 (by decide) (by decide) ?_
  refine own_iload_n 10 X49 hx hby d2_9 rfl rfl ?_
  refine own_iload_n 11 X49 hx hby d2_10 rfl rfl ?_
  refine own_icN 14 X49 hx hby d2_11 rfl (by decide) ?_
  refine own_aload_n 15 X49 hx hby d2_14 rfl rfl rfl ?_
  refine own_iload_n 16 X49 hx hby d2_15 rfl rfl ?_
  refine own_aaload 17 (.ref w_ADD_SERVICE) X49 hx hby hZ e49 (W.2.2.2.2.2.2.2.2.2.2.2.2.2.2.2.2.2.2.2.2.2.2.2.2.2.2.2.2.2.2.2.2.2.2.2.2.2.2.2.2.2.2.2.2.2.2.2.2.2.2.2.2.2.2.2.2.2.2.2.2.2.2.2.2.2.2.2.ext O0.2) rfl d2_16 rfl (by decide) rfl ?_
  refine own_astore 19 #[oI x0, oA w_ALL, oI (22 : Int32), oI (1 : Int32), oA w_ADD_SERVICE] X49 hx hby d2_17 rfl rfl rfl ?_
  refine own_aload 21 X49 hx hby d2_19 rfl rfl rfl ?_
  refine own_getF 24 X49 hx hby hZ hown (own_w hw 11 rfl) e49 (W.2.2.2.2.2.2.2.2.2.2.2.2.2.2.2.2.2.2.2.2.2.2.2.2.2.2.2.2.2.2.2.2.2.2.2.2.2.2.2.2.2.2.2.2.2.2.1.ext O0.2) d2_21 rfl ?_
  intro T51 X51 e51
  refine own_iload_n 25 X51 hx hby d2_24 rfl rfl ?_
  refine own_icY 31 X51 hx hby d2_25 (by decide) (by decide) (feq hc52).2 ?_
  refine own_iinc 34 #[oI x0, oA w_ALL, oI (22 : Int32), oI (2 : Int32), oA w_ADD_SERVICE] X51 hx hby d2_31 rfl rfl rfl ?_
  refine own_goto 9 X51 hx hby d2_34 (by decide) (by decide) ?_
  refine own_iload_n 10 X51 hx hby d2_9 rfl rfl ?_
  refine own_iload_n 11 X51 hx hby d2_10 rfl rfl ?_
  refine own_icN 14 X51 hx hby d2_11 rfl (by decide) ?_
  refine own_aload_n 15 X51 hx hby d2_14 rfl rfl rfl ?_
  refine own_iload_n 16 X51 hx hby d2_15 rfl rfl ?_
  refine own_aaload 17 (.ref w_GET_SERVICE) X51 hx hby hZ e51 (W.2.2.2.2.2.2.2.2.2.2.2.2.2.2.2.2.2.2.2.2.2.2.2.2.2.2.2.2.2.2.2.2.2.2.2.2.2.2.2.2.2.2.2.2.2.2.2.2.2.2.2.2.2.2.2.2.2.2.2.2.2.2.2.2.2.2.2.ext O0.2) rfl d2_16 rfl (by decide) rfl ?_
  refine own_astore 19 #[oI x0, oA w_ALL, oI (22 : Int32), oI (2 : Int32), oA w_GET_SERVICE] X51 hx hby d2_17 rfl rfl rfl ?_
  refine own_aload 21 X51 hx hby d2_19 rfl rfl rfl ?_
  refine own_getF 24 X51 hx hby hZ hown (own_w hw 11 rfl) e51 (W.2.2.2.2.2.2.2.2.2.2.2.2.2.2.2.2.2.2.2.2.2.2.2.2.2.2.2.2.2.2.2.2.2.2.2.2.2.2.2.2.2.2.2.2.2.2.2.1.ext O0.2) d2_21 rfl ?_
  intro T53 X53 e53
  refine own_iload_n 25 X53 hx hby d2_24 rfl rfl ?_
  refine own_icY 31 X53 hx hby d2_25 (by decide) (by decide) (feq hc54).2 ?_
  refine own_iinc 34 #[oI x0, oA w_ALL, oI (22 : Int32), oI (3 : Int32), oA w_GET_SERVICE] X53 hx hby d2_31 rfl rfl rfl ?_
  refine own_goto 9 X53 hx hby d2_34 (by decide) (by decide) ?_
  refine own_iload_n 10 X53 hx hby d2_9 rfl rfl ?_
  refine own_iload_n 11 X53 hx hby d2_10 rfl rfl ?_
  refine own_icN 14 X53 hx hby d2_11 rfl (by decide) ?_
  refine own_aload_n 15 X53 hx hby d2_14 rfl rfl rfl ?_
  refine own_iload_n 16 X53 hx hby d2_15 rfl rfl ?_
  refine own_aaload 17 (.ref w_LIST_SERVICES) X53 hx hby hZ e53 (W.2.2.2.2.2.2.2.2.2.2.2.2.2.2.2.2.2.2.2.2.2.2.2.2.2.2.2.2.2.2.2.2.2.2.2.2.2.2.2.2.2.2.2.2.2.2.2.2.2.2.2.2.2.2.2.2.2.2.2.2.2.2.2.2.2.2.2.ext O0.2) rfl d2_16 rfl (by decide) rfl ?_
  refine own_astore 19 #[oI x0, oA w_ALL, oI (22 : Int32), oI (3 : Int32), oA w_LIST_SERVICES] X53 hx hby d2_17 rfl rfl rfl ?_
  refine own_aload 21 X53 hx hby d2_19 rfl rfl rfl ?_
  refine own_getF 24 X53 hx hby hZ hown (own_w hw 11 rfl) e53 (W.2.2.2.2.2.2.2.2.2.2.2.2.2.2.2.2.2.2.2.2.2.2.2.2.2.2.2.2.2.2.2.2.2.2.2.2.2.2.2.2.2.2.2.2.2.2.2.2.1.ext O0.2) d2_21 rfl ?_
  intro T55 X55 e55
  refine own_iload_n 25 X55 hx hby d2_24 rfl rfl ?_
  refine own_icY 31 X55 hx hby d2_25 (by decide) (by decide) (feq hc56).2 ?_
  refine own_iinc 34 #[oI x0, oA w_ALL, oI (22 : Int32), oI (4 : Int32), oA w_LIST_SERVICES] X55 hx hby d2_31 rfl rfl rfl ?_
  refine own_goto 9 X55 hx hby d2_34 (by decide) (by decide) ?_
  refine own_iload_n 10 X55 hx hby d2_9 rfl rfl ?_
  refine own_iload_n 11 X55 hx hby d2_10 rfl rfl ?_
  refine own_icN 14 X55 hx hby d2_11 rfl (by decide) ?_
  refine own_aload_n 15 X55 hx hby d2_14 rfl rfl rfl ?_
  refine own_iload_n 16 X55 hx hby d2_15 rfl rfl ?_
  refine own_aaload 17 (.ref w_TRANSLATE) X55 hx hby hZ e55 (W.2.2.2.2.2.2.2.2.2.2.2.2.2.2.2.2.2.2.2.2.2.2.2.2.2.2.2.2.2.2.2.2.2.2.2.2.2.2.2.2.2.2.2.2.2.2.2.2.2.2.2.2.2.2.2.2.2.2.2.2.2.2.2.2.2.2.2.ext O0.2) rfl d2_16 rfl (by decide) rfl ?_
  refine own_astore 19 #[oI x0, oA w_ALL, oI (22 : Int32), oI (4 : Int32), oA w_TRANSLATE] X55 hx hby d2_17 rfl rfl rfl ?_
  refine own_aload 21 X55 hx hby d2_19 rfl rfl rfl ?_
  refine own_getF 24 X55 hx hby hZ hown (own_w hw 11 rfl) e55 (W.2.2.2.2.2.2.2.2.2.2.2.2.2.2.2.2.2.2.2.2.2.2.2.2.2.2.2.2.2.2.2.2.2.2.2.2.2.2.2.2.2.2.2.2.2.2.2.2.2.1.ext O0.2) d2_21 rfl ?_
  intro T57 X57 e57
  refine own_iload_n 25 X57 hx hby d2_24 rfl rfl ?_
  refine own_icN 28 X57 hx hby d2_25 rfl (teq hc58).2 ?_
  refine own_aload 30 X57 hx hby d2_28 rfl rfl rfl ?_
  exact own_ret (Q := own_Q _ n0 h0) X57 hx hby hret hlk d2_30 rfl (Or.inr (Or.inr (Or.inr (Or.inr ⟨rfl, rfl, rfl⟩)))) (by decide) (by decide) ⟨rfl, N0, e57⟩
set_option maxRecDepth 65536 in
set_option maxHeartbeats 40000000 in
theorem rm2_6 (l : Launch) (Z : State) (a0 : Array Value) (hw : ∀ d ∈ tables_1, d.before a0 Z = true) (ws : List Jvm.Cond) (w_HELLO w_ADD_SERVICE w_GET_SERVICE w_LIST_SERVICES w_TRANSLATE w_RESOLVE w_RELEASE w_STATUS w_WAITING w_WATCH w_ACQUIRE w_RETIRE w_RESULT w_FAILURE w_DEAD w_COUNT_WAITING w_CLOSING w_UNHELD w_OPEN w_TRANSACTION w_REPLY w_KNOCK w_ALL k_ALL : Addr) (W : own_W Z w_HELLO w_ADD_SERVICE w_GET_SERVICE w_LIST_SERVICES w_TRANSLATE w_RESOLVE w_RELEASE w_STATUS w_WAITING w_WATCH w_ACQUIRE w_RETIRE w_RESULT w_FAILURE w_DEAD w_COUNT_WAITING w_CLOSING w_UNHELD w_OPEN w_TRANSACTION w_REPLY w_KNOCK w_ALL k_ALL) (x0 : Int32) (h0 : Heap) (n0 : Nat) (O0 : Old Z n0 h0) (hc50 : ¬ ((1 : Int32) = x0)) (hc52 : ¬ ((2 : Int32) = x0)) (hc54 : ¬ ((3 : Int32) = x0)) (hc56 : ¬ ((4 : Int32) = x0)) (hc58 : ¬ ((5 : Int32) = x0)) (hc60 : (6 : Int32) = x0) :
    MetFree l (⟨"com/example/hop1/hop1/protocol/FrameKind", "of", "(I)Lcom/example/hop1/hop1/protocol/FrameKind;"⟩ : MethodName) (head1 (Jvm.Cond.code (⟨"com/example/hop1/hop1/protocol/FrameKind", "of", "(I)Lcom/example/hop1/hop1/protocol/FrameKind;"⟩ : MethodName) prog_113_method_5_code 5 (some (.object "com/example/hop1/hop1/protocol/FrameKind")) :: ws) ({ frames := 0, cells := 0, slots := 0, locals := 0 } : Room)) (fun a U => a = #[(.int x0)] ∧ Z.Warmed39 U.vm ∧ U.heap = h0) (fun _ _ _ _ _ => True) (fun _ U o U' => ∃ v L, o = .returned v ∧ own_Q (some (.ref w_RESOLVE)) n0 h0 v U'.heap L ∧ FrameEnd U o U' L ({ frames := 0, cells := 0, slots := 0, locals := 0 } : Room).cells ({ frames := 0, cells := 0, slots := 0, locals := 0 } : Room).slots) := by
  refine MetFree.of_bodySF (plainFor_of_name pn_1) hisR ?_
  intro p e s m args below meth c s₁ Bd hml0 hP hK
  obtain ⟨rfl, hZ, hh⟩ := hP
  have hx := Bd.exec
  have hby := Bd.bytes
  have hml : c.maxLocals = 5 := hml0
  have hlk := BodyLoose.notSynchronized Bd
  have hret := Bd.returns
  have hown : s.vm.findClass "com/example/hop1/hop1/protocol/FrameKind" = some m.cls := findClass_of_methodNamed Bd.named
  have hnm := (name_of_methodNamed Bd.named Bd.method).1
  have X0 : Stand p l e ({ frames := 0, cells := 0, slots := 0, locals := 0 } : Room) s m #[(.int x0)] below meth c s₁ [] 0 0 := Stand.of_body Bd
  have e0 : s₁.heap = h0 := by rw [← hh, Bd.state]; rfl
  have N0 := Fr.nil n0
  rw [ef_2 m x0]
  show Go p e below _ (s₁.setTop (mkF m 0 #[oI x0, oU, oU, oU, oU] []))
  refine own_getS 3 X0 hx hby hZ hown (own_w hw 8 rfl) e0 (W.2.2.2.2.2.2.2.2.2.2.2.2.2.2.2.2.2.2.2.2.2.2.2.2.2.2.2.2.2.2.2.2.2.2.2.2.2.2.2.2.2.2.2.2.1.ext O0.2) d2_0 rfl ?_
  intro T48 X48 e48
  refine own_astore_n 4 #[oI x0, oA w_ALL, oU, oU, oU] X48 hx hby d2_3 rfl rfl rfl ?_
  refine own_aload_n 5 X48 hx hby d2_4 rfl rfl rfl ?_
  refine own_len 6 X48 hx hby hZ e48 (W.2.2.2.2.2.2.2.2.2.2.2.2.2.2.2.2.2.2.2.2.2.2.2.2.2.2.2.2.2.2.2.2.2.2.2.2.2.2.2.2.2.2.2.2.2.2.2.2.2.2.2.2.2.2.2.2.2.2.2.2.2.2.2.2.2.2.2.ext O0.2) d2_5 rfl ?_
  refine own_istore_n 7 #[oI x0, oA w_ALL, oI (22 : Int32), oU, oU] X48 hx hby d2_6 rfl rfl ?_
  refine own_iconst 8 (0 : Int32) X48 hx hby d2_7 rfl (by decide) ?_
  refine own_istore_n 9 #[oI x0, oA w_ALL, oI (22 : Int32), oI (0 : Int32), oU] X48 hx hby d2_8 rfl rfl ?_
  refine own_iload_n 10 X48 hx hby d2_9 rfl rfl ?_
  refine own_iload_n 11 X48 hx hby d2_10 rfl rfl ?_
  refine own_icN 14 X48 hx hby d2_11 rfl (by decide) ?_
  refine own_aload_n 15 X48 hx hby d2_14 rfl rfl rfl ?_
  refine own_iload_n 16 X48 hx hby d2_15 rfl rfl ?_
  refine own_aaload 17 (.ref w_HELLO) X48 hx hby hZ e48 (W.2.2.2.2.2.2.2.2.2.2.2.2.2.2.2.2.2.2.2.2.2.2.2.2.2.2.2.2.2.2.2.2.2.2.2.2.2.2.2.2.2.2.2.2.2.2.2.2.2.2.2.2.2.2.2.2.2.2.2.2.2.2.2.2.2.2.2.ext O0.2) rfl d2_16 rfl (by decide) rfl ?_
  refine own_astore 19 #[oI x0, oA w_ALL, oI (22 : Int32), oI (0 : Int32), oA w_HELLO] X48 hx hby d2_17 rfl rfl rfl ?_
  refine own_aload 21 X48 hx hby d2_19 rfl rfl rfl ?_
  refine own_getF 24 X48 hx hby hZ hown (own_w hw 11 rfl) e48 (W.2.2.2.2.2.2.2.2.2.2.2.2.2.2.2.2.2.2.2.2.2.2.2.2.2.2.2.2.2.2.2.2.2.2.2.2.2.2.2.2.2.2.2.2.2.1.ext O0.2) d2_21 rfl ?_
  intro T49 X49 e49
  refine own_iload_n 25 X49 hx hby d2_24 rfl rfl ?_
  refine own_icY 31 X49 hx hby d2_25 (by decide) (by decide) (feq hc50).2 ?_
  refine own_iinc 34 #[oI x0, oA w_ALL, oI (22 : Int32), oI (1 : Int32), oA w_HELLO] X49 hx hby d2_31 rfl rfl rfl ?_
  refine own_goto 9 X49 hx hby d2_34 (by decide) (by decide) ?_
  refine own_iload_n 10 X49 hx hby d2_9 rfl rfl ?_
  refine own_iload_n 11 X49 hx hby d2_10 rfl rfl ?_
  refine own_icN 14 X49 hx hby d2_11 rfl (by decide) ?_
  refine own_aload_n 15 X49 hx hby d2_14 rfl rfl rfl ?_
  refine own_iload_n 16 X49 hx hby d2_15 rfl rfl ?_
  refine own_aaload 17 (.ref w_ADD_SERVICE) X49 hx hby hZ e49 (W.2.2.2.2.2.2.2.2.2.2.2.2.2.2.2.2.2.2.2.2.2.2.2.2.2.2.2.2.2.2.2.2.2.2.2.2.2.2.2.2.2.2.2.2.2.2.2.2.2.2.2.2.2.2.2.2.2.2.2.2.2.2.2.2.2.2.2.ext O0.2) rfl d2_16 rfl (by decide) rfl ?_
  refine own_astore 19 #[oI x0, oA w_ALL, oI (22 : Int32), oI (1 : Int32), oA w_ADD_SERVICE] X49 hx hby d2_17 rfl rfl rfl ?_
  refine own_aload 21 X49 hx hby d2_19 rfl rfl rfl ?_
  refine own_getF 24 X49 hx hby hZ hown (own_w hw 11 rfl) e49 (W.2.2.2.2.2.2.2.2.2.2.2.2.2.2.2.2.2.2.2.2.2.2.2.2.2.2.2.2.2.2.2.2.2.2.2.2.2.2.2.2.2.2.2.2.2.2.1.ext O0.2) d2_21 rfl ?_
  intro T51 X51 e51
  refine own_iload_n 25 X51 hx hby d2_24 rfl rfl ?_
  refine own_icY 31 X51 hx hby d2_25 (by decide) (by decide) (feq hc52).2 ?_
  refine own_iinc 34 #[oI x0, oA w_ALL, oI (22 : Int32), oI (2 : Int32), oA w_ADD_SERVICE] X51 hx hby d2_31 rfl rfl rfl ?_
  refine own_goto 9 X51 hx hby d2_34 (by decide) (by decide) ?_
  refine own_iload_n 10 X51 hx hby d2_9 rfl rfl ?_
  refine own_iload_n 11 X51 hx hby d2_10 rfl rfl ?_
  refine own_icN 14 X51 hx hby d2_11 rfl (by decide) ?_
  refine own_aload_n 15 X51 hx hby d2_14 rfl rfl rfl ?_
  refine own_iload_n 16 X51 hx hby d2_15 rfl rfl ?_
  refine own_aaload 17 (.ref w_GET_SERVICE) X51 hx hby hZ e51 (W.2.2.2.2.2.2.2.2.2.2.2.2.2.2.2.2.2.2.2.2.2.2.2.2.2.2.2.2.2.2.2.2.2.2.2.2.2.2.2.2.2.2.2.2.2.2.2.2.2.2.2.2.2.2.2.2.2.2.2.2.2.2.2.2.2.2.2.ext O0.2) rfl d2_16 rfl (by decide) rfl ?_
  refine own_astore 19 #[oI x0, oA w_ALL, oI (22 : Int32), oI (2 : Int32), oA w_GET_SERVICE] X51 hx hby d2_17 rfl rfl rfl ?_
  refine own_aload 21 X51 hx hby d2_19 rfl rfl rfl ?_
  refine own_getF 24 X51 hx hby hZ hown (own_w hw 11 rfl) e51 (W.2.2.2.2.2.2.2.2.2.2.2.2.2.2.2.2.2.2.2.2.2.2.2.2.2.2.2.2.2.2.2.2.2.2.2.2.2.2.2.2.2.2.2.2.2.2.2.1.ext O0.2) d2_21 rfl ?_
  intro T53 X53 e53
  refine own_iload_n 25 X53 hx hby d2_24 rfl rfl ?_
  refine own_icY 31 X53 hx hby d2_25 (by decide) (by decide) (feq hc54).2 ?_
  refine own_iinc 34 #[oI x0, oA w_ALL, oI (22 : Int32), oI (3 : Int32), oA w_GET_SERVICE] X53 hx hby d2_31 rfl rfl rfl ?_
  refine own_goto 9 X53 hx hby d2_34 (by decide) (by decide) ?_
  refine own_iload_n 10 X53 hx hby d2_9 rfl rfl ?_
  refine own_iload_n 11 X53 hx hby d2_10 rfl rfl ?_
  refine own_icN 14 X53 hx hby d2_11 rfl (by decide) ?_
  refine own_aload_n 15 X53 hx hby d2_14 rfl rfl rfl ?_
  refine own_iload_n 16 X53 hx hby d2_15 rfl rfl ?_
  refine own_aaload 17 (.ref w_LIST_SERVICES) X53 hx hby hZ e53 (W.2.2.2.2.2.2.2.2.2.2.2.2.2.2.2.2.2.2.2.2.2.2.2.2.2.2.2.2.2.2.2.2.2.2.2.2.2.2.2.2.2.2.2.2.2.2.2.2.2.2.2.2.2.2.2.2.2.2.2.2.2.2.2.2.2.2.2.ext O0.2) rfl d2_16 rfl (by decide) rfl ?_
  refine own_astore 19 #[oI x0, oA w_ALL, oI (22 : Int32), oI (3 : Int32), oA w_LIST_SERVICES] X53 hx hby d2_17 rfl rfl rfl ?_
  refine own_aload 21 X53 hx hby d2_19 rfl rfl rfl ?_
  refine own_getF 24 X53 hx hby hZ hown (own_w hw 11 rfl) e53 (W.2.2.2.2.2.2.2.2.2.2.2.2.2.2.2.2.2.2.2.2.2.2.2.2.2.2.2.2.2.2.2.2.2.2.2.2.2.2.2.2.2.2.2.2.2.2.2.2.1.ext O0.2) d2_21 rfl ?_
  intro T55 X55 e55
  refine own_iload_n 25 X55 hx hby d2_24 rfl rfl ?_
  refine own_icY 31 X55 hx hby d2_25 (by decide) (by decide) (feq hc56).2 ?_
  refine own_iinc 34 #[oI x0, oA w_ALL, oI (22 : Int32), oI (4 : Int32), oA w_LIST_SERVICES] X55 hx hby d2_31 rfl rfl rfl ?_
  refine own_goto 9 X55 hx hby d2_34 (by decide) (by decide) ?_
  refine own_iload_n 10 X55 hx hby d2_9 rfl rfl ?_
  refine own_iload_n 11 X55 hx hby d2_10 rfl rfl ?_
  refine own_icN 14 X55 hx hby d2_11 rfl (by decide) ?_
  refine own_aload_n 15 X55 hx hby d2_14 rfl rfl rfl ?_
  refine own_iload_n 16 X55 hx hby d2_15 rfl rfl ?_
  refine own_aaload 17 (.ref w_TRANSLATE) X55 hx hby hZ e55 (W.2.2.2.2.2.2.2.2.2.2.2.2.2.2.2.2.2.2.2.2.2.2.2.2.2.2.2.2.2.2.2.2.2.2.2.2.2.2.2.2.2.2.2.2.2.2.2.2.2.2.2.2.2.2.2.2.2.2.2.2.2.2.2.2.2.2.2.ext O0.2) rfl d2_16 rfl (by decide) rfl ?_
  refine own_astore 19 #[oI x0, oA w_ALL, oI (22 : Int32), oI (4 : Int32), oA w_TRANSLATE] X55 hx hby d2_17 rfl rfl rfl ?_
  refine own_aload 21 X55 hx hby d2_19 rfl rfl rfl ?_
  refine own_getF 24 X55 hx hby hZ hown (own_w hw 11 rfl) e55 (W.2.2.2.2.2.2.2.2.2.2.2.2.2.2.2.2.2.2.2.2.2.2.2.2.2.2.2.2.2.2.2.2.2.2.2.2.2.2.2.2.2.2.2.2.2.2.2.2.2.1.ext O0.2) d2_21 rfl ?_
  intro T57 X57 e57
  refine own_iload_n 25 X57 hx hby d2_24 rfl rfl ?_
  refine own_icY 31 X57 hx hby d2_25 (by decide) (by decide) (feq hc58).2 ?_
  refine own_iinc 34 #[oI x0, oA w_ALL, oI (22 : Int32), oI (5 : Int32), oA w_TRANSLATE] X57 hx hby d2_31 rfl rfl rfl ?_
  refine own_goto 9 X57 hx hby d2_34 (by decide) (by decide) ?_
  refine own_iload_n 10 X57 hx hby d2_9 rfl rfl ?_
  refine own_iload_n 11 X57 hx hby d2_10 rfl rfl ?_
  refine own_icN 14 X57 hx hby d2_11 rfl (by decide) ?_
  refine own_aload_n 15 X57 hx hby d2_14 rfl rfl rfl ?_
  refine own_iload_n 16 X57 hx hby d2_15 rfl rfl ?_
  refine own_aaload 17 (.ref w_RESOLVE) X57 hx hby hZ e57 (W.2.2.2.2.2.2.2.2.2.2.2.2.2.2.2.2.2.2.2.2.2.2.2.2.2.2.2.2.2.2.2.2.2.2.2.2.2.2.2.2.2.2.2.2.2.2.2.2.2.2.2.2.2.2.2.2.2.2.2.2.2.2.2.2.2.2.2.ext O0.2) rfl d2_16 rfl (by decide) rfl ?_
  refine own_astore 19 #[oI x0, oA w_ALL, oI (22 : Int32), oI (5 : Int32), oA w_RESOLVE] X57 hx hby d2_17 rfl rfl rfl ?_
  refine own_aload 21 X57 hx hby d2_19 rfl rfl rfl ?_
  refine own_getF 24 X57 hx hby hZ hown (own_w hw 11 rfl) e57 (W.2.2.2.2.2.2.2.2.2.2.2.2.2.2.2.2.2.2.2.2.2.2.2.2.2.2.2.2.2.2.2.2.2.2.2.2.2.2.2.2.2.2.2.2.2.2.2.2.2.2.1.ext O0.2) d2_21 rfl ?_
  intro T59 X59 e59
  refine own_iload_n 25 X59 hx hby d2_24 rfl rfl ?_
  refine own_icN 28 X59 hx hby d2_25 rfl (teq hc60).2 ?_
  refine own_aload 30 X59 hx hby d2_28 rfl rfl rfl ?_
  exact own_ret (Q := own_Q _ n0 h0) X59 hx hby hret hlk d2_30 rfl (Or.inr (Or.inr (Or.inr (Or.inr ⟨rfl, rfl, rfl⟩)))) (by decide) (by decide) ⟨rfl, N0, e59⟩
set_option maxRecDepth 65536 in
set_option maxHeartbeats 40000000 in
theorem rm2_7 (l : Launch) (Z : State) (a0 : Array Value) (hw : ∀ d ∈ tables_1, d.before a0 Z = true) (ws : List Jvm.Cond) (w_HELLO w_ADD_SERVICE w_GET_SERVICE w_LIST_SERVICES w_TRANSLATE w_RESOLVE w_RELEASE w_STATUS w_WAITING w_WATCH w_ACQUIRE w_RETIRE w_RESULT w_FAILURE w_DEAD w_COUNT_WAITING w_CLOSING w_UNHELD w_OPEN w_TRANSACTION w_REPLY w_KNOCK w_ALL k_ALL : Addr) (W : own_W Z w_HELLO w_ADD_SERVICE w_GET_SERVICE w_LIST_SERVICES w_TRANSLATE w_RESOLVE w_RELEASE w_STATUS w_WAITING w_WATCH w_ACQUIRE w_RETIRE w_RESULT w_FAILURE w_DEAD w_COUNT_WAITING w_CLOSING w_UNHELD w_OPEN w_TRANSACTION w_REPLY w_KNOCK w_ALL k_ALL) (x0 : Int32) (h0 : Heap) (n0 : Nat) (O0 : Old Z n0 h0) (hc50 : ¬ ((1 : Int32) = x0)) (hc52 : ¬ ((2 : Int32) = x0)) (hc54 : ¬ ((3 : Int32) = x0)) (hc56 : ¬ ((4 : Int32) = x0)) (hc58 : ¬ ((5 : Int32) = x0)) (hc60 : ¬ ((6 : Int32) = x0)) (hc62 : (7 : Int32) = x0) :
    MetFree l (⟨"com/example/hop1/hop1/protocol/FrameKind", "of", "(I)Lcom/example/hop1/hop1/protocol/FrameKind;"⟩ : MethodName) (head1 (Jvm.Cond.code (⟨"com/example/hop1/hop1/protocol/FrameKind", "of", "(I)Lcom/example/hop1/hop1/protocol/FrameKind;"⟩ : MethodName) prog_113_method_5_code 5 (some (.object "com/example/hop1/hop1/protocol/FrameKind")) :: ws) ({ frames := 0, cells := 0, slots := 0, locals := 0 } : Room)) (fun a U => a = #[(.int x0)] ∧ Z.Warmed39 U.vm ∧ U.heap = h0) (fun _ _ _ _ _ => True) (fun _ U o U' => ∃ v L, o = .returned v ∧ own_Q (some (.ref w_RELEASE)) n0 h0 v U'.heap L ∧ FrameEnd U o U' L ({ frames := 0, cells := 0, slots := 0, locals := 0 } : Room).cells ({ frames := 0, cells := 0, slots := 0, locals := 0 } : Room).slots) := by
  refine MetFree.of_bodySF (plainFor_of_name pn_1) hisR ?_
  intro p e s m args below meth c s₁ Bd hml0 hP hK
  obtain ⟨rfl, hZ, hh⟩ := hP
  have hx := Bd.exec
  have hby := Bd.bytes
  have hml : c.maxLocals = 5 := hml0
  have hlk := BodyLoose.notSynchronized Bd
  have hret := Bd.returns
  have hown : s.vm.findClass "com/example/hop1/hop1/protocol/FrameKind" = some m.cls := findClass_of_methodNamed Bd.named
  have hnm := (name_of_methodNamed Bd.named Bd.method).1
  have X0 : Stand p l e ({ frames := 0, cells := 0, slots := 0, locals := 0 } : Room) s m #[(.int x0)] below meth c s₁ [] 0 0 := Stand.of_body Bd
  have e0 : s₁.heap = h0 := by rw [← hh, Bd.state]; rfl
  have N0 := Fr.nil n0
  rw [ef_2 m x0]
  show Go p e below _ (s₁.setTop (mkF m 0 #[oI x0, oU, oU, oU, oU] []))
  refine own_getS 3 X0 hx hby hZ hown (own_w hw 8 rfl) e0 (W.2.2.2.2.2.2.2.2.2.2.2.2.2.2.2.2.2.2.2.2.2.2.2.2.2.2.2.2.2.2.2.2.2.2.2.2.2.2.2.2.2.2.2.2.1.ext O0.2) d2_0 rfl ?_
  intro T48 X48 e48
  refine own_astore_n 4 #[oI x0, oA w_ALL, oU, oU, oU] X48 hx hby d2_3 rfl rfl rfl ?_
  refine own_aload_n 5 X48 hx hby d2_4 rfl rfl rfl ?_
  refine own_len 6 X48 hx hby hZ e48 (W.2.2.2.2.2.2.2.2.2.2.2.2.2.2.2.2.2.2.2.2.2.2.2.2.2.2.2.2.2.2.2.2.2.2.2.2.2.2.2.2.2.2.2.2.2.2.2.2.2.2.2.2.2.2.2.2.2.2.2.2.2.2.2.2.2.2.2.ext O0.2) d2_5 rfl ?_
  refine own_istore_n 7 #[oI x0, oA w_ALL, oI (22 : Int32), oU, oU] X48 hx hby d2_6 rfl rfl ?_
  refine own_iconst 8 (0 : Int32) X48 hx hby d2_7 rfl (by decide) ?_
  refine own_istore_n 9 #[oI x0, oA w_ALL, oI (22 : Int32), oI (0 : Int32), oU] X48 hx hby d2_8 rfl rfl ?_
  refine own_iload_n 10 X48 hx hby d2_9 rfl rfl ?_
  refine own_iload_n 11 X48 hx hby d2_10 rfl rfl ?_
  refine own_icN 14 X48 hx hby d2_11 rfl (by decide) ?_
  refine own_aload_n 15 X48 hx hby d2_14 rfl rfl rfl ?_
  refine own_iload_n 16 X48 hx hby d2_15 rfl rfl ?_
  refine own_aaload 17 (.ref w_HELLO) X48 hx hby hZ e48 (W.2.2.2.2.2.2.2.2.2.2.2.2.2.2.2.2.2.2.2.2.2.2.2.2.2.2.2.2.2.2.2.2.2.2.2.2.2.2.2.2.2.2.2.2.2.2.2.2.2.2.2.2.2.2.2.2.2.2.2.2.2.2.2.2.2.2.2.ext O0.2) rfl d2_16 rfl (by decide) rfl ?_
  refine own_astore 19 #[oI x0, oA w_ALL, oI (22 : Int32), oI (0 : Int32), oA w_HELLO] X48 hx hby d2_17 rfl rfl rfl ?_
  refine own_aload 21 X48 hx hby d2_19 rfl rfl rfl ?_
  refine own_getF 24 X48 hx hby hZ hown (own_w hw 11 rfl) e48 (W.2.2.2.2.2.2.2.2.2.2.2.2.2.2.2.2.2.2.2.2.2.2.2.2.2.2.2.2.2.2.2.2.2.2.2.2.2.2.2.2.2.2.2.2.2.1.ext O0.2) d2_21 rfl ?_
  intro T49 X49 e49
  refine own_iload_n 25 X49 hx hby d2_24 rfl rfl ?_
  refine own_icY 31 X49 hx hby d2_25 (by decide) (by decide) (feq hc50).2 ?_
  refine own_iinc 34 #[oI x0, oA w_ALL, oI (22 : Int32), oI (1 : Int32), oA w_HELLO] X49 hx hby d2_31 rfl rfl rfl ?_
  refine own_goto 9 X49 hx hby d2_34 (by decide) (by decide) ?_
  refine own_iload_n 10 X49 hx hby d2_9 rfl rfl ?_
  refine own_iload_n 11 X49 hx hby d2_10 rfl rfl ?_
  refine own_icN 14 X49 hx hby d2_11 rfl (by decide) ?_
  refine own_aload_n 15 X49 hx hby d2_14 rfl rfl rfl ?_
  refine own_iload_n 16 X49 hx hby d2_15 rfl rfl ?_
  refine own_aaload 17 (.ref w_ADD_SERVICE) X49 hx hby hZ e49 (W.2.2.2.2.2.2.2.2.2.2.2.2.2.2.2.2.2.2.2.2.2.2.2.2.2.2.2.2.2.2.2.2.2.2.2.2.2.2.2.2.2.2.2.2.2.2.2.2.2.2.2.2.2.2.2.2.2.2.2.2.2.2.2.2.2.2.2.ext O0.2) rfl d2_16 rfl (by decide) rfl ?_
  refine own_astore 19 #[oI x0, oA w_ALL, oI (22 : Int32), oI (1 : Int32), oA w_ADD_SERVICE] X49 hx hby d2_17 rfl rfl rfl ?_
  refine own_aload 21 X49 hx hby d2_19 rfl rfl rfl ?_
  refine own_getF 24 X49 hx hby hZ hown (own_w hw 11 rfl) e49 (W.2.2.2.2.2.2.2.2.2.2.2.2.2.2.2.2.2.2.2.2.2.2.2.2.2.2.2.2.2.2.2.2.2.2.2.2.2.2.2.2.2.2.2.2.2.2.1.ext O0.2) d2_21 rfl ?_
  intro T51 X51 e51
  refine own_iload_n 25 X51 hx hby d2_24 rfl rfl ?_
  refine own_icY 31 X51 hx hby d2_25 (by decide) (by decide) (feq hc52).2 ?_
  refine own_iinc 34 #[oI x0, oA w_ALL, oI (22 : Int32), oI (2 : Int32), oA w_ADD_SERVICE] X51 hx hby d2_31 rfl rfl rfl ?_
  refine own_goto 9 X51 hx hby d2_34 (by decide) (by decide) ?_
  refine own_iload_n 10 X51 hx hby d2_9 rfl rfl ?_
  refine own_iload_n 11 X51 hx hby d2_10 rfl rfl ?_
  refine own_icN 14 X51 hx hby d2_11 rfl (by decide) ?_
  refine own_aload_n 15 X51 hx hby d2_14 rfl rfl rfl ?_
  refine own_iload_n 16 X51 hx hby d2_15 rfl rfl ?_
  refine own_aaload 17 (.ref w_GET_SERVICE) X51 hx hby hZ e51 (W.2.2.2.2.2.2.2.2.2.2.2.2.2.2.2.2.2.2.2.2.2.2.2.2.2.2.2.2.2.2.2.2.2.2.2.2.2.2.2.2.2.2.2.2.2.2.2.2.2.2.2.2.2.2.2.2.2.2.2.2.2.2.2.2.2.2.2.ext O0.2) rfl d2_16 rfl (by decide) rfl ?_
  refine own_astore 19 #[oI x0, oA w_ALL, oI (22 : Int32), oI (2 : Int32), oA w_GET_SERVICE] X51 hx hby d2_17 rfl rfl rfl ?_
  refine own_aload 21 X51 hx hby d2_19 rfl rfl rfl ?_
  refine own_getF 24 X51 hx hby hZ hown (own_w hw 11 rfl) e51 (W.2.2.2.2.2.2.2.2.2.2.2.2.2.2.2.2.2.2.2.2.2.2.2.2.2.2.2.2.2.2.2.2.2.2.2.2.2.2.2.2.2.2.2.2.2.2.2.1.ext O0.2) d2_21 rfl ?_
  intro T53 X53 e53
  refine own_iload_n 25 X53 hx hby d2_24 rfl rfl ?_
  refine own_icY 31 X53 hx hby d2_25 (by decide) (by decide) (feq hc54).2 ?_
  refine own_iinc 34 #[oI x0, oA w_ALL, oI (22 : Int32), oI (3 : Int32), oA w_GET_SERVICE] X53 hx hby d2_31 rfl rfl rfl ?_
  refine own_goto 9 X53 hx hby d2_34 (by decide) (by decide) ?_
  refine own_iload_n 10 X53 hx hby d2_9 rfl rfl ?_
  refine own_iload_n 11 X53 hx hby d2_10 rfl rfl ?_
  refine own_icN 14 X53 hx hby d2_11 rfl (by decide) ?_
  refine own_aload_n 15 X53 hx hby d2_14 rfl rfl rfl ?_
  refine own_iload_n 16 X53 hx hby d2_15 rfl rfl ?_
  refine own_aaload 17 (.ref w_LIST_SERVICES) X53 hx hby hZ e53 (W.2.2.2.2.2.2.2.2.2.2.2.2.2.2.2.2.2.2.2.2.2.2.2.2.2.2.2.2.2.2.2.2.2.2.2.2.2.2.2.2.2.2.2.2.2.2.2.2.2.2.2.2.2.2.2.2.2.2.2.2.2.2.2.2.2.2.2.ext O0.2) rfl d2_16 rfl (by decide) rfl ?_
  refine own_astore 19 #[oI x0, oA w_ALL, oI (22 : Int32), oI (3 : Int32), oA w_LIST_SERVICES] X53 hx hby d2_17 rfl rfl rfl ?_
  refine own_aload 21 X53 hx hby d2_19 rfl rfl rfl ?_
  refine own_getF 24 X53 hx hby hZ hown (own_w hw 11 rfl) e53 (W.2.2.2.2.2.2.2.2.2.2.2.2.2.2.2.2.2.2.2.2.2.2.2.2.2.2.2.2.2.2.2.2.2.2.2.2.2.2.2.2.2.2.2.2.2.2.2.2.1.ext O0.2) d2_21 rfl ?_
  intro T55 X55 e55
  refine own_iload_n 25 X55 hx hby d2_24 rfl rfl ?_
  refine own_icY 31 X55 hx hby d2_25 (by decide) (by decide) (feq hc56).2 ?_
  refine own_iinc 34 #[oI x0, oA w_ALL, oI (22 : Int32), oI (4 : Int32), oA w_LIST_SERVICES] X55 hx hby d2_31 rfl rfl rfl ?_
  refine own_goto 9 X55 hx hby d2_34 (by decide) (by decide) ?_
  refine own_iload_n 10 X55 hx hby d2_9 rfl rfl ?_
  refine own_iload_n 11 X55 hx hby d2_10 rfl rfl ?_
  refine own_icN 14 X55 hx hby d2_11 rfl (by decide) ?_
  refine own_aload_n 15 X55 hx hby d2_14 rfl rfl rfl ?_
  refine own_iload_n 16 X55 hx hby d2_15 rfl rfl ?_
  refine own_aaload 17 (.ref w_TRANSLATE) X55 hx hby hZ e55 (W.2.2.2.2.2.2.2.2.2.2.2.2.2.2.2.2.2.2.2.2.2.2.2.2.2.2.2.2.2.2.2.2.2.2.2.2.2.2.2.2.2.2.2.2.2.2.2.2.2.2.2.2.2.2.2.2.2.2.2.2.2.2.2.2.2.2.2.ext O0.2) rfl d2_16 rfl (by decide) rfl ?_
  refine own_astore 19 #[oI x0, oA w_ALL, oI (22 : Int32), oI (4 : Int32), oA w_TRANSLATE] X55 hx hby d2_17 rfl rfl rfl ?_
  refine own_aload 21 X55 hx hby d2_19 rfl rfl rfl ?_
  refine own_getF 24 X55 hx hby hZ hown (own_w hw 11 rfl) e55 (W.2.2.2.2.2.2.2.2.2.2.2.2.2.2.2.2.2.2.2.2.2.2.2.2.2.2.2.2.2.2.2.2.2.2.2.2.2.2.2.2.2.2.2.2.2.2.2.2.2.1.ext O0.2) d2_21 rfl ?_
  intro T57 X57 e57
  refine own_iload_n 25 X57 hx hby d2_24 rfl rfl ?_
  refine own_icY 31 X57 hx hby d2_25 (by decide) (by decide) (feq hc58).2 ?_
  refine own_iinc 34 #[oI x0, oA w_ALL, oI (22 : Int32), oI (5 : Int32), oA w_TRANSLATE] X57 hx hby d2_31 rfl rfl rfl ?_
  refine own_goto 9 X57 hx hby d2_34 (by decide) (by decide) ?_
  refine own_iload_n 10 X57 hx hby d2_9 rfl rfl ?_
  refine own_iload_n 11 X57 hx hby d2_10 rfl rfl ?_
  refine own_icN 14 X57 hx hby d2_11 rfl (by decide) ?_
  refine own_aload_n 15 X57 hx hby d2_14 rfl rfl rfl ?_
  refine own_iload_n 16 X57 hx hby d2_15 rfl rfl ?_
  refine own_aaload 17 (.ref w_RESOLVE) X57 hx hby hZ e57 (W.2.2.2.2.2.2.2.2.2.2.2.2.2.2.2.2.2.2.2.2.2.2.2.2.2.2.2.2.2.2.2.2.2.2.2.2.2.2.2.2.2.2.2.2.2.2.2.2.2.2.2.2.2.2.2.2.2.2.2.2.2.2.2.2.2.2.2.ext O0.2) rfl d2_16 rfl (by decide) rfl ?_
  refine own_astore 19 #[oI x0, oA w_ALL, oI (22 : Int32), oI (5 : Int32), oA w_RESOLVE] X57 hx hby d2_17 rfl rfl rfl ?_
  refine own_aload 21 X57 hx hby d2_19 rfl rfl rfl ?_
  refine own_getF 24 X57 hx hby hZ hown (own_w hw 11 rfl) e57 (W.2.2.2.2.2.2.2.2.2.2.2.2.2.2.2.2.2.2.2.2.2.2.2.2.2.2.2.2.2.2.2.2.2.2.2.2.2.2.2.2.2.2.2.2.2.2.2.2.2.2.1.ext O0.2) d2_21 rfl ?_
  intro T59 X59 e59
  refine own_iload_n 25 X59 hx hby d2_24 rfl rfl ?_
  refine own_icY 31 X59 hx hby d2_25 (by decide) (by decide) (feq hc60).2 ?_
  refine own_iinc 34 #[oI x0, oA w_ALL, oI (22 : Int32), oI (6 : Int32), oA w_RESOLVE] X59 hx hby d2_31 rfl rfl rfl ?_
  refine own_goto 9 X59 hx hby d2_34 (by decide) (by decide) ?_
  refine own_iload_n 10 X59 hx hby d2_9 rfl rfl ?_
  refine own_iload_n 11 X59 hx hby d2_10 rfl rfl ?_
  refine own_icN 14 X59 hx hby d2_11 rfl (by decide) ?_
  refine own_aload_n 15 X59 hx hby d2_14 rfl rfl rfl ?_
  refine own_iload_n 16 X59 hx hby d2_15 rfl rfl ?_
  refine own_aaload 17 (.ref w_RELEASE) X59 hx hby hZ e59 (W.2.2.2.2.2.2.2.2.2.2.2.2.2.2.2.2.2.2.2.2.2.2.2.2.2.2.2.2.2.2.2.2.2.2.2.2.2.2.2.2.2.2.2.2.2.2.2.2.2.2.2.2.2.2.2.2.2.2.2.2.2.2.2.2.2.2.2.ext O0.2) rfl d2_16 rfl (by decide) rfl ?_
  refine own_astore 19 #[oI x0, oA w_ALL, oI (22 : Int32), oI (6 : Int32), oA w_RELEASE] X59 hx hby d2_17 rfl rfl rfl ?_
  refine own_aload 21 X59 hx hby d2_19 rfl rfl rfl ?_
  refine own_getF 24 X59 hx hby hZ hown (own_w hw 11 rfl) e59 (W.2.2.2.2.2.2.2.2.2.2.2.2.2.2.2.2.2.2.2.2.2.2.2.2.2.2.2.2.2.2.2.2.2.2.2.2.2.2.2.2.2.2.2.2.2.2.2.2.2.2.2.1.ext O0.2) d2_21 rfl ?_
  intro T61 X61 e61
  refine own_iload_n 25 X61 hx hby d2_24 rfl rfl ?_
  refine own_icN 28 X61 hx hby d2_25 rfl (teq hc62).2 ?_
  refine own_aload 30 X61 hx hby d2_28 rfl rfl rfl ?_
  exact own_ret (Q := own_Q _ n0 h0) X61 hx hby hret hlk d2_30 rfl (Or.inr (Or.inr (Or.inr (Or.inr ⟨rfl, rfl, rfl⟩)))) (by decide) (by decide) ⟨rfl, N0, e61⟩
set_option maxRecDepth 65536 in
set_option maxHeartbeats 40000000 in
theorem rm2_8 (l : Launch) (Z : State) (a0 : Array Value) (hw : ∀ d ∈ tables_1, d.before a0 Z = true) (ws : List Jvm.Cond) (w_HELLO w_ADD_SERVICE w_GET_SERVICE w_LIST_SERVICES w_TRANSLATE w_RESOLVE w_RELEASE w_STATUS w_WAITING w_WATCH w_ACQUIRE w_RETIRE w_RESULT w_FAILURE w_DEAD w_COUNT_WAITING w_CLOSING w_UNHELD w_OPEN w_TRANSACTION w_REPLY w_KNOCK w_ALL k_ALL : Addr) (W : own_W Z w_HELLO w_ADD_SERVICE w_GET_SERVICE w_LIST_SERVICES w_TRANSLATE w_RESOLVE w_RELEASE w_STATUS w_WAITING w_WATCH w_ACQUIRE w_RETIRE w_RESULT w_FAILURE w_DEAD w_COUNT_WAITING w_CLOSING w_UNHELD w_OPEN w_TRANSACTION w_REPLY w_KNOCK w_ALL k_ALL) (x0 : Int32) (h0 : Heap) (n0 : Nat) (O0 : Old Z n0 h0) (hc50 : ¬ ((1 : Int32) = x0)) (hc52 : ¬ ((2 : Int32) = x0)) (hc54 : ¬ ((3 : Int32) = x0)) (hc56 : ¬ ((4 : Int32) = x0)) (hc58 : ¬ ((5 : Int32) = x0)) (hc60 : ¬ ((6 : Int32) = x0)) (hc62 : ¬ ((7 : Int32) = x0)) (hc64 : (8 : Int32) = x0) :
    MetFree l (⟨"com/example/hop1/hop1/protocol/FrameKind", "of", "(I)Lcom/example/hop1/hop1/protocol/FrameKind;"⟩ : MethodName) (head1 (Jvm.Cond.code (⟨"com/example/hop1/hop1/protocol/FrameKind", "of", "(I)Lcom/example/hop1/hop1/protocol/FrameKind;"⟩ : MethodName) prog_113_method_5_code 5 (some (.object "com/example/hop1/hop1/protocol/FrameKind")) :: ws) ({ frames := 0, cells := 0, slots := 0, locals := 0 } : Room)) (fun a U => a = #[(.int x0)] ∧ Z.Warmed39 U.vm ∧ U.heap = h0) (fun _ _ _ _ _ => True) (fun _ U o U' => ∃ v L, o = .returned v ∧ own_Q (some (.ref w_STATUS)) n0 h0 v U'.heap L ∧ FrameEnd U o U' L ({ frames := 0, cells := 0, slots := 0, locals := 0 } : Room).cells ({ frames := 0, cells := 0, slots := 0, locals := 0 } : Room).slots) := by
  refine MetFree.of_bodySF (plainFor_of_name pn_1) hisR ?_
  intro p e s m args below meth c s₁ Bd hml0 hP hK
  obtain ⟨rfl, hZ, hh⟩ := hP
  have hx := Bd.exec
  have hby := Bd.bytes
  have hml : c.maxLocals = 5 := hml0
  have hlk := BodyLoose.notSynchronized Bd
  have hret := Bd.returns
  have hown : s.vm.findClass "com/example/hop1/hop1/protocol/FrameKind" = some m.cls := findClass_of_methodNamed Bd.named
  have hnm := (name_of_methodNamed Bd.named Bd.method).1
  have X0 : Stand p l e ({ frames := 0, cells := 0, slots := 0, locals := 0 } : Room) s m #[(.int x0)] below meth c s₁ [] 0 0 := Stand.of_body Bd
  have e0 : s₁.heap = h0 := by rw [← hh, Bd.state]; rfl
  have N0 := Fr.nil n0
  rw [ef_2 m x0]
  show Go p e below _ (s₁.setTop (mkF m 0 #[oI x0, oU, oU, oU, oU] []))
  refine own_getS 3 X0 hx hby hZ hown (own_w hw 8 rfl) e0 (W.2.2.2.2.2.2.2.2.2.2.2.2.2.2.2.2.2.2.2.2.2.2.2.2.2.2.2.2.2.2.2.2.2.2.2.2.2.2.2.2.2.2.2.2.1.ext O0.2) d2_0 rfl ?_
  intro T48 X48 e48
  refine own_astore_n 4 #[oI x0, oA w_ALL, oU, oU, oU] X48 hx hby d2_3 rfl rfl rfl ?_
  refine own_aload_n 5 X48 hx hby d2_4 rfl rfl rfl ?_
  refine own_len 6 X48 hx hby hZ e48 (W.2.2.2.2.2.2.2.2.2.2.2.2.2.2.2.2.2.2.2.2.2.2.2.2.2.2.2.2.2.2.2.2.2.2.2.2.2.2.2.2.2.2.2.2.2.2.2.2.2.2.2.2.2.2.2.2.2.2.2.2.2.2.2.2.2.2.2.ext O0.2) d2_5 rfl ?_
  refine own_istore_n 7 #[oI x0, oA w_ALL, oI (22 : Int32), oU, oU] X48 hx hby d2_6 rfl rfl ?_
  refine own_iconst 8 (0 : Int32) X48 hx hby d2_7 rfl (by decide) ?_
  refine own_istore_n 9 #[oI x0, oA w_ALL, oI (22 : Int32), oI (0 : Int32), oU] X48 hx hby d2_8 rfl rfl ?_
  refine own_iload_n 10 X48 hx hby d2_9 rfl rfl ?_
  refine own_iload_n 11 X48 hx hby d2_10 rfl rfl ?_
  refine own_icN 14 X48 hx hby d2_11 rfl (by decide) ?_
  refine own_aload_n 15 X48 hx hby d2_14 rfl rfl rfl ?_
  refine own_iload_n 16 X48 hx hby d2_15 rfl rfl ?_
  refine own_aaload 17 (.ref w_HELLO) X48 hx hby hZ e48 (W.2.2.2.2.2.2.2.2.2.2.2.2.2.2.2.2.2.2.2.2.2.2.2.2.2.2.2.2.2.2.2.2.2.2.2.2.2.2.2.2.2.2.2.2.2.2.2.2.2.2.2.2.2.2.2.2.2.2.2.2.2.2.2.2.2.2.2.ext O0.2) rfl d2_16 rfl (by decide) rfl ?_
  refine own_astore 19 #[oI x0, oA w_ALL, oI (22 : Int32), oI (0 : Int32), oA w_HELLO] X48 hx hby d2_17 rfl rfl rfl ?_
  refine own_aload 21 X48 hx hby d2_19 rfl rfl rfl ?_
  refine own_getF 24 X48 hx hby hZ hown (own_w hw 11 rfl) e48 (W.2.2.2.2.2.2.2.2.2.2.2.2.2.2.2.2.2.2.2.2.2.2.2.2.2.2.2.2.2.2.2.2.2.2.2.2.2.2.2.2.2.2.2.2.2.1.ext O0.2) d2_21 rfl ?_
  intro T49 X49 e49
  refine own_iload_n 25 X49 hx hby d2_24 rfl rfl ?_
  refine own_icY 31 X49 hx hby d2_25 (by decide) (by decide) (feq hc50).2 ?_
  refine own_iinc 34 #[oI x0, oA w_ALL, oI (22 : Int32), oI (1 : Int32), oA w_HELLO] X49 hx hby d2_31 rfl rfl rfl ?_
  refine own_goto 9 X49 hx hby d2_34 (by decide) (by decide) ?_
  refine own_iload_n 10 X49 hx hby d2_9 rfl rfl ?_
  refine own_iload_n 11 X49 hx hby d2_10 rfl rfl ?_
  refine own_icN 14 X49 hx hby d2_11 rfl (by decide) ?_
  refine own_aload_n 15 X49 hx hby d2_14 rfl rfl rfl ?_
  refine own_iload_n 16 X49 hx hby d2_15 rfl rfl ?_
  refine own_aaload 17 (.ref w_ADD_SERVICE) X49 hx hby hZ e49 (W.2.2.2.2.2.2.2.2.2.2.2.2.2.2.2.2.2.2.2.2.2.2.2.2.2.2.2.2.2.2.2.2.2.2.2.2.2.2.2.2.2.2.2.2.2.2.2.2.2.2.2.2.2.2.2.2.2.2.2.2.2.2.2.2.2.2.2.ext O0.2) rfl d2_16 rfl (by decide) rfl ?_
  refine own_astore 19 #[oI x0, oA w_ALL, oI (22 : Int32), oI (1 : Int32), oA w_ADD_SERVICE] X49 hx hby d2_17 rfl rfl rfl ?_
  refine own_aload 21 X49 hx hby d2_19 rfl rfl rfl ?_
  refine own_getF 24 X49 hx hby hZ hown (own_w hw 11 rfl) e49 (W.2.2.2.2.2.2.2.2.2.2.2.2.2.2.2.2.2.2.2.2.2.2.2.2.2.2.2.2.2.2.2.2.2.2.2.2.2.2.2.2.2.2.2.2.2.2.1.ext O0.2) d2_21 rfl ?_
  intro T51 X51 e51
  refine own_iload_n 25 X51 hx hby d2_24 rfl rfl ?_
  refine own_icY 31 X51 hx hby d2_25 (by decide) (by decide) (feq hc52).2 ?_
  refine own_iinc 34 #[oI x0, oA w_ALL, oI (22 : Int32), oI (2 : Int32), oA w_ADD_SERVICE] X51 hx hby d2_31 rfl rfl rfl ?_
  refine own_goto 9 X51 hx hby d2_34 (by decide) (by decide) ?_
  refine own_iload_n 10 X51 hx hby d2_9 rfl rfl ?_
  refine own_iload_n 11 X51 hx hby d2_10 rfl rfl ?_
  refine own_icN 14 X51 hx hby d2_11 rfl (by decide) ?_
  refine own_aload_n 15 X51 hx hby d2_14 rfl rfl rfl ?_
  refine own_iload_n 16 X51 hx hby d2_15 rfl rfl ?_
  refine own_aaload 17 (.ref w_GET_SERVICE) X51 hx hby hZ e51 (W.2.2.2.2.2.2.2.2.2.2.2.2.2.2.2.2.2.2.2.2.2.2.2.2.2.2.2.2.2.2.2.2.2.2.2.2.2.2.2.2.2.2.2.2.2.2.2.2.2.2.2.2.2.2.2.2.2.2.2.2.2.2.2.2.2.2.2.ext O0.2) rfl d2_16 rfl (by decide) rfl ?_
  refine own_astore 19 #[oI x0, oA w_ALL, oI (22 : Int32), oI (2 : Int32), oA w_GET_SERVICE] X51 hx hby d2_17 rfl rfl rfl ?_
  refine own_aload 21 X51 hx hby d2_19 rfl rfl rfl ?_
  refine own_getF 24 X51 hx hby hZ hown (own_w hw 11 rfl) e51 (W.2.2.2.2.2.2.2.2.2.2.2.2.2.2.2.2.2.2.2.2.2.2.2.2.2.2.2.2.2.2.2.2.2.2.2.2.2.2.2.2.2.2.2.2.2.2.2.1.ext O0.2) d2_21 rfl ?_
  intro T53 X53 e53
  refine own_iload_n 25 X53 hx hby d2_24 rfl rfl ?_
  refine own_icY 31 X53 hx hby d2_25 (by decide) (by decide) (feq hc54).2 ?_
  refine own_iinc 34 #[oI x0, oA w_ALL, oI (22 : Int32), oI (3 : Int32), oA w_GET_SERVICE] X53 hx hby d2_31 rfl rfl rfl ?_
  refine own_goto 9 X53 hx hby d2_34 (by decide) (by decide) ?_
  refine own_iload_n 10 X53 hx hby d2_9 rfl rfl ?_
  refine own_iload_n 11 X53 hx hby d2_10 rfl rfl ?_
  refine own_icN 14 X53 hx hby d2_11 rfl (by decide) ?_
  refine own_aload_n 15 X53 hx hby d2_14 rfl rfl rfl ?_
  refine own_iload_n 16 X53 hx hby d2_15 rfl rfl ?_
  refine own_aaload 17 (.ref w_LIST_SERVICES) X53 hx hby hZ e53 (W.2.2.2.2.2.2.2.2.2.2.2.2.2.2.2.2.2.2.2.2.2.2.2.2.2.2.2.2.2.2.2.2.2.2.2.2.2.2.2.2.2.2.2.2.2.2.2.2.2.2.2.2.2.2.2.2.2.2.2.2.2.2.2.2.2.2.2.ext O0.2) rfl d2_16 rfl (by decide) rfl ?_
  refine own_astore 19 #[oI x0, oA w_ALL, oI (22 : Int32), oI (3 : Int32), oA w_LIST_SERVICES] X53 hx hby d2_17 rfl rfl rfl ?_
  refine own_aload 21 X53 hx hby d2_19 rfl rfl rfl ?_
  refine own_getF 24 X53 hx hby hZ hown (own_w hw 11 rfl) e53 (W.2.2.2.2.2.2.2.2.2.2.2.2.2.2.2.2.2.2.2.2.2.2.2.2.2.2.2.2.2.2.2.2.2.2.2.2.2.2.2.2.2.2.2.2.2.2.2.2.1.ext O0.2) d2_21 rfl ?_
  intro T55 X55 e55
  refine own_iload_n 25 X55 hx hby d2_24 rfl rfl ?_
  refine own_icY 31 X55 hx hby d2_25 (by decide) (by decide) (feq hc56).2 ?_
  refine own_iinc 34 #[oI x0, oA w_ALL, oI (22 : Int32), oI (4 : Int32), oA w_LIST_SERVICES] X55 hx hby d2_31 rfl rfl rfl ?_
  refine own_goto 9 X55 hx hby d2_34 (by decide) (by decide) ?_
  refine own_iload_n 10 X55 hx hby d2_9 rfl rfl ?_
  refine own_iload_n 11 X55 hx hby d2_10 rfl rfl ?_
  refine own_icN 14 X55 hx hby d2_11 rfl (by decide) ?_
  refine own_aload_n 15 X55 hx hby d2_14 rfl rfl rfl ?_
  refine own_iload_n 16 X55 hx hby d2_15 rfl rfl ?_
  refine own_aaload 17 (.ref w_TRANSLATE) X55 hx hby hZ e55 (W.2.2.2.2.2.2.2.2.2.2.2.2.2.2.2.2.2.2.2.2.2.2.2.2.2.2.2.2.2.2.2.2.2.2.2.2.2.2.2.2.2.2.2.2.2.2.2.2.2.2.2.2.2.2.2.2.2.2.2.2.2.2.2.2.2.2.2.ext O0.2) rfl d2_16 rfl (by decide) rfl ?_
  refine own_astore 19 #[oI x0, oA w_ALL, oI (22 : Int32), oI (4 : Int32), oA w_TRANSLATE] X55 hx hby d2_17 rfl rfl rfl ?_
  refine own_aload 21 X55 hx hby d2_19 rfl rfl rfl ?_
  refine own_getF 24 X55 hx hby hZ hown (own_w hw 11 rfl) e55 (W.2.2.2.2.2.2.2.2.2.2.2.2.2.2.2.2.2.2.2.2.2.2.2.2.2.2.2.2.2.2.2.2.2.2.2.2.2.2.2.2.2.2.2.2.2.2.2.2.2.1.ext O0.2) d2_21 rfl ?_
  intro T57 X57 e57
  refine own_iload_n 25 X57 hx hby d2_24 rfl rfl ?_
  refine own_icY 31 X57 hx hby d2_25 (by decide) (by decide) (feq hc58).2 ?_
  refine own_iinc 34 #[oI x0, oA w_ALL, oI (22 : Int32), oI (5 : Int32), oA w_TRANSLATE] X57 hx hby d2_31 rfl rfl rfl ?_
  refine own_goto 9 X57 hx hby d2_34 (by decide) (by decide) ?_
  refine own_iload_n 10 X57 hx hby d2_9 rfl rfl ?_
  refine own_iload_n 11 X57 hx hby d2_10 rfl rfl ?_
  refine own_icN 14 X57 hx hby d2_11 rfl (by decide) ?_
  refine own_aload_n 15 X57 hx hby d2_14 rfl rfl rfl ?_
  refine own_iload_n 16 X57 hx hby d2_15 rfl rfl ?_
  refine own_aaload 17 (.ref w_RESOLVE) X57 hx hby hZ e57 (W.2.2.2.2.2.2.2.2.2.2.2.2.2.2.2.2.2.2.2.2.2.2.2.2.2.2.2.2.2.2.2.2.2.2.2.2.2.2.2.2.2.2.2.2.2.2.2.2.2.2.2.2.2.2.2.2.2.2.2.2.2.2.2.2.2.2.2.ext O0.2) rfl d2_16 rfl (by decide) rfl ?_
  refine own_astore 19 #[oI x0, oA w_ALL, oI (22 : Int32), oI (5 : Int32), oA w_RESOLVE] X57 hx hby d2_17 rfl rfl rfl ?_
  refine own_aload 21 X57 hx hby d2_19 rfl rfl rfl ?_
  refine own_getF 24 X57 hx hby hZ hown (own_w hw 11 rfl) e57 (W.2.2.2.2.2.2.2.2.2.2.2.2.2.2.2.2.2.2.2.2.2.2.2.2.2.2.2.2.2.2.2.2.2.2.2.2.2.2.2.2.2.2.2.2.2.2.2.2.2.2.1.ext O0.2) d2_21 rfl ?_
  intro T59 X59 e59
  refine own_iload_n 25 X59 hx hby d2_24 rfl rfl ?_
  refine own_icY 31 X59 hx hby d2_25 (by decide) (by decide) (feq hc60).2 ?_
  refine own_iinc 34 #[oI x0, oA w_ALL, oI (22 : Int32), oI (6 : Int32), oA w_RESOLVE] X59 hx hby d2_31 rfl rfl rfl ?_
  refine own_goto 9 X59 hx hby d2_34 (by decide) (by decide) ?_
  refine own_iload_n 10 X59 hx hby d2_9 rfl rfl ?_
  refine own_iload_n 11 X59 hx hby d2_10 rfl rfl ?_
  refine own_icN 14 X59 hx hby d2_11 rfl (by decide) ?_
  refine own_aload_n 15 X59 hx hby d2_14 rfl rfl rfl ?_
  refine own_iload_n 16 X59 hx hby d2_15 rfl rfl ?_
  refine own_aaload 17 (.ref w_RELEASE) X59 hx hby hZ e59 (W.2.2.2.2.2.2.2.2.2.2.2.2.2.2.2.2.2.2.2.2.2.2.2.2.2.2.2.2.2.2.2.2.2.2.2.2.2.2.2.2.2.2.2.2.2.2.2.2.2.2.2.2.2.2.2.2.2.2.2.2.2.2.2.2.2.2.2.ext O0.2) rfl d2_16 rfl (by decide) rfl ?_
  refine own_astore 19 #[oI x0, oA w_ALL, oI (22 : Int32), oI (6 : Int32), oA w_RELEASE] X59 hx hby d2_17 rfl rfl rfl ?_
  refine own_aload 21 X59 hx hby d2_19 rfl rfl rfl ?_
  refine own_getF 24 X59 hx hby hZ hown (own_w hw 11 rfl) e59 (W.2.2.2.2.2.2.2.2.2.2.2.2.2.2.2.2.2.2.2.2.2.2.2.2.2.2.2.2.2.2.2.2.2.2.2.2.2.2.2.2.2.2.2.2.2.2.2.2.2.2.2.1.ext O0.2) d2_21 rfl ?_
  intro T61 X61 e61
  refine own_iload_n 25 X61 hx hby d2_24 rfl rfl ?_
  refine own_icY 31 X61 hx hby d2_25 (by decide) (by decide) (feq hc62).2 ?_
  refine own_iinc 34 #[oI x0, oA w_ALL, oI (22 : Int32), oI (7 : Int32), oA w_RELEASE] X61 hx hby d2_31 rfl rfl rfl ?_
  refine own_goto 9 X61 hx hby d2_34 (by decide) (by decide) ?_
  refine own_iload_n 10 X61 hx hby d2_9 rfl rfl ?_
  refine own_iload_n 11 X61 hx hby d2_10 rfl rfl ?_
  refine own_icN 14 X61 hx hby d2_11 rfl (by decide) ?_
  refine own_aload_n 15 X61 hx hby d2_14 rfl rfl rfl ?_
  refine own_iload_n 16 X61 hx hby d2_15 rfl rfl ?_
  refine own_aaload 17 (.ref w_STATUS) X61 hx hby hZ e61 (W.2.2.2.2.2.2.2.2.2.2.2.2.2.2.2.2.2.2.2.2.2.2.2.2.2.2.2.2.2.2.2.2.2.2.2.2.2.2.2.2.2.2.2.2.2.2.2.2.2.2.2.2.2.2.2.2.2.2.2.2.2.2.2.2.2.2.2.ext O0.2) rfl d2_16 rfl (by decide) rfl ?_
  refine own_astore 19 #[oI x0, oA w_ALL, oI (22 : Int32), oI (7 : Int32), oA w_STATUS] X61 hx hby d2_17 rfl rfl rfl ?_
  refine own_aload 21 X61 hx hby d2_19 rfl rfl rfl ?_
  refine own_getF 24 X61 hx hby hZ hown (own_w hw 11 rfl) e61 (W.2.2.2.2.2.2.2.2.2.2.2.2.2.2.2.2.2.2.2.2.2.2.2.2.2.2.2.2.2.2.2.2.2.2.2.2.2.2.2.2.2.2.2.2.2.2.2.2.2.2.2.2.1.ext O0.2) d2_21 rfl ?_
  intro T63 X63 e63
  refine own_iload_n 25 X63 hx hby d2_24 rfl rfl ?_
  refine own_icN 28 X63 hx hby d2_25 rfl (teq hc64).2 ?_
  refine own_aload 30 X63 hx hby d2_28 rfl rfl rfl ?_
  exact own_ret (Q := own_Q _ n0 h0) X63 hx hby hret hlk d2_30 rfl (Or.inr (Or.inr (Or.inr (Or.inr ⟨rfl, rfl, rfl⟩)))) (by decide) (by decide) ⟨rfl, N0, e63⟩
set_option maxRecDepth 65536 in
set_option maxHeartbeats 40000000 in
theorem rm2_9 (l : Launch) (Z : State) (a0 : Array Value) (hw : ∀ d ∈ tables_1, d.before a0 Z = true) (ws : List Jvm.Cond) (w_HELLO w_ADD_SERVICE w_GET_SERVICE w_LIST_SERVICES w_TRANSLATE w_RESOLVE w_RELEASE w_STATUS w_WAITING w_WATCH w_ACQUIRE w_RETIRE w_RESULT w_FAILURE w_DEAD w_COUNT_WAITING w_CLOSING w_UNHELD w_OPEN w_TRANSACTION w_REPLY w_KNOCK w_ALL k_ALL : Addr) (W : own_W Z w_HELLO w_ADD_SERVICE w_GET_SERVICE w_LIST_SERVICES w_TRANSLATE w_RESOLVE w_RELEASE w_STATUS w_WAITING w_WATCH w_ACQUIRE w_RETIRE w_RESULT w_FAILURE w_DEAD w_COUNT_WAITING w_CLOSING w_UNHELD w_OPEN w_TRANSACTION w_REPLY w_KNOCK w_ALL k_ALL) (x0 : Int32) (h0 : Heap) (n0 : Nat) (O0 : Old Z n0 h0) (hc50 : ¬ ((1 : Int32) = x0)) (hc52 : ¬ ((2 : Int32) = x0)) (hc54 : ¬ ((3 : Int32) = x0)) (hc56 : ¬ ((4 : Int32) = x0)) (hc58 : ¬ ((5 : Int32) = x0)) (hc60 : ¬ ((6 : Int32) = x0)) (hc62 : ¬ ((7 : Int32) = x0)) (hc64 : ¬ ((8 : Int32) = x0)) (hc66 : (9 : Int32) = x0) :
    MetFree l (⟨"com/example/hop1/hop1/protocol/FrameKind", "of", "(I)Lcom/example/hop1/hop1/protocol/FrameKind;"⟩ : MethodName) (head1 (Jvm.Cond.code (⟨"com/example/hop1/hop1/protocol/FrameKind", "of", "(I)Lcom/example/hop1/hop1/protocol/FrameKind;"⟩ : MethodName) prog_113_method_5_code 5 (some (.object "com/example/hop1/hop1/protocol/FrameKind")) :: ws) ({ frames := 0, cells := 0, slots := 0, locals := 0 } : Room)) (fun a U => a = #[(.int x0)] ∧ Z.Warmed39 U.vm ∧ U.heap = h0) (fun _ _ _ _ _ => True) (fun _ U o U' => ∃ v L, o = .returned v ∧ own_Q (some (.ref w_WAITING)) n0 h0 v U'.heap L ∧ FrameEnd U o U' L ({ frames := 0, cells := 0, slots := 0, locals := 0 } : Room).cells ({ frames := 0, cells := 0, slots := 0, locals := 0 } : Room).slots) := by
  refine MetFree.of_bodySF (plainFor_of_name pn_1) hisR ?_
  intro p e s m args below meth c s₁ Bd hml0 hP hK
  obtain ⟨rfl, hZ, hh⟩ := hP
  have hx := Bd.exec
  have hby := Bd.bytes
  have hml : c.maxLocals = 5 := hml0
  have hlk := BodyLoose.notSynchronized Bd
  have hret := Bd.returns
  have hown : s.vm.findClass "com/example/hop1/hop1/protocol/FrameKind" = some m.cls := findClass_of_methodNamed Bd.named
  have hnm := (name_of_methodNamed Bd.named Bd.method).1
  have X0 : Stand p l e ({ frames := 0, cells := 0, slots := 0, locals := 0 } : Room) s m #[(.int x0)] below meth c s₁ [] 0 0 := Stand.of_body Bd
  have e0 : s₁.heap = h0 := by rw [← hh, Bd.state]; rfl
  have N0 := Fr.nil n0
  rw [ef_2 m x0]
  show Go p e below _ (s₁.setTop (mkF m 0 #[oI x0, oU, oU, oU, oU] []))
  refine own_getS 3 X0 hx hby hZ hown (own_w hw 8 rfl) e0 (W.2.2.2.2.2.2.2.2.2.2.2.2.2.2.2.2.2.2.2.2.2.2.2.2.2.2.2.2.2.2.2.2.2.2.2.2.2.2.2.2.2.2.2.2.1.ext O0.2) d2_0 rfl ?_
  intro T48 X48 e48
  refine own_astore_n 4 #[oI x0, oA w_ALL, oU, oU, oU] X48 hx hby d2_3 rfl rfl rfl ?_
  refine own_aload_n 5 X48 hx hby d2_4 rfl rfl rfl ?_
  refine own_len 6 X48 hx hby hZ e48 (W.2.2.2.2.2.2.2.2.2.2.2.2.2.2.2.2.2.2.2.2.2.2.2.2.2.2.2.2.2.2.2.2.2.2.2.2.2.2.2.2.2.2.2.2.2.2.2.2.2.2.2.2.2.2.2.2.2.2.2.2.2.2.2.2.2.2.2.ext O0.2) d2_5 rfl ?_
  refine own_istore_n 7 #[oI x0, oA w_ALL, oI (22 : Int32), oU, oU] X48 hx hby d2_6 rfl rfl ?_
  refine own_iconst 8 (0 : Int32) X48 hx hby d2_7 rfl (by decide) ?_
  refine own_istore_n 9 #[oI x0, oA w_ALL, oI (22 : Int32), oI (0 : Int32), oU] X48 hx hby d2_8 rfl rfl ?_
  refine own_iload_n 10 X48 hx hby d2_9 rfl rfl ?_
  refine own_iload_n 11 X48 hx hby d2_10 rfl rfl ?_
  refine own_icN 14 X48 hx hby d2_11 rfl (by decide) ?_
  refine own_aload_n 15 X48 hx hby d2_14 rfl rfl rfl ?_
  refine own_iload_n 16 X48 hx hby d2_15 rfl rfl ?_
  refine own_aaload 17 (.ref w_HELLO) X48 hx hby hZ e48 (W.2.2.2.2.2.2.2.2.2.2.2.2.2.2.2.2.2.2.2.2.2.2.2.2.2.2.2.2.2.2.2.2.2.2.2.2.2.2.2.2.2.2.2.2.2.2.2.2.2.2.2.2.2.2.2.2.2.2.2.2.2.2.2.2.2.2.2.ext O0.2) rfl d2_16 rfl (by decide) rfl ?_
  refine own_astore 19 #[oI x0, oA w_ALL, oI (22 : Int32), oI (0 : Int32), oA w_HELLO] X48 hx hby d2_17 rfl rfl rfl ?_
  refine own_aload 21 X48 hx hby d2_19 rfl rfl rfl ?_
  refine own_getF 24 X48 hx hby hZ hown (own_w hw 11 rfl) e48 (W.2.2.2.2.2.2.2.2.2.2.2.2.2.2.2.2.2.2.2.2.2.2.2.2.2.2.2.2.2.2.2.2.2.2.2.2.2.2.2.2.2.2.2.2.2.1.ext O0.2) d2_21 rfl ?_
  intro T49 X49 e49
  refine own_iload_n 25 X49 hx hby d2_24 rfl rfl ?_
  refine own_icY 31 X49 hx hby d2_25 (by decide) (by decide) (feq hc50).2 ?_
  refine own_iinc 34 #[oI x0, oA w_ALL, oI (22 : Int32), oI (1 : Int32), oA w_HELLO] X49 hx hby d2_31 rfl rfl rfl ?_
  refine own_goto 9 X49 hx hby d2_34 (by decide) (by decide) ?_
  refine own_iload_n 10 X49 hx hby d2_9 rfl rfl ?_
  refine own_iload_n 11 X49 hx hby d2_10 rfl rfl ?_
  refine own_icN 14 X49 hx hby d2_11 rfl (by decide) ?_
  refine own_aload_n 15 X49 hx hby d2_14 rfl rfl rfl ?_
  refine own_iload_n 16 X49 hx hby d2_15 rfl rfl ?_
  refine own_aaload 17 (.ref w_ADD_SERVICE) X49 hx hby hZ e49 (W.2.2.2.2.2.2.2.2.2.2.2.2.2.2.2.2.2.2.2.2.2.2.2.2.2.2.2.2.2.2.2.2.2.2.2.2.2.2.2.2.2.2.2.2.2.2.2.2.2.2.2.2.2.2.2.2.2.2.2.2.2.2.2.2.2.2.2.ext O0.2) rfl d2_16 rfl (by decide) rfl ?_
  refine own_astore 19 #[oI x0, oA w_ALL, oI (22 : Int32), oI (1 : Int32), oA w_ADD_SERVICE] X49 hx hby d2_17 rfl rfl rfl ?_
  refine own_aload 21 X49 hx hby d2_19 rfl rfl rfl ?_
  refine own_getF 24 X49 hx hby hZ hown (own_w hw 11 rfl) e49 (W.2.2.2.2.2.2.2.2.2.2.2.2.2.2.2.2.2.2.2.2.2.2.2.2.2.2.2.2.2.2.2.2.2.2.2.2.2.2.2.2.2.2.2.2.2.2.1.ext O0.2) d2_21 rfl ?_
  intro T51 X51 e51
  refine own_iload_n 25 X51 hx hby d2_24 rfl rfl ?_
  refine own_icY 31 X51 hx hby d2_25 (by decide) (by decide) (feq hc52).2 ?_
  refine own_iinc 34 #[oI x0, oA w_ALL, oI (22 : Int32), oI (2 : Int32), oA w_ADD_SERVICE] X51 hx hby d2_31 rfl rfl rfl ?_
  refine own_goto 9 X51 hx hby d2_34 (by decide) (by decide) ?_
  refine own_iload_n 10 X51 hx hby d2_9 rfl rfl ?_
  refine own_iload_n 11 X51 hx hby d2_10 rfl rfl ?_
  refine own_icN 14 X51 hx hby d2_11 rfl (by decide) ?_
  refine own_aload_n 15 X51 hx hby d2_14 rfl rfl rfl ?_
  refine own_iload_n 16 X51 hx hby d2_15 rfl rfl ?_
  refine own_aaload 17 (.ref w_GET_SERVICE) X51 hx hby hZ e51 (W.2.2.2.2.2.2.2.2.2.2.2.2.2.2.2.2.2.2.2.2.2.2.2.2.2.2.2.2.2.2.2.2.2.2.2.2.2.2.2.2.2.2.2.2.2.2.2.2.2.2.2.2.2.2.2.2.2.2.2.2.2.2.2.2.2.2.2.ext O0.2) rfl d2_16 rfl (by decide) rfl ?_
  refine own_astore 19 #[oI x0, oA w_ALL, oI (22 : Int32), oI (2 : Int32), oA w_GET_SERVICE] X51 hx hby d2_17 rfl rfl rfl ?_
  refine own_aload 21 X51 hx hby d2_19 rfl rfl rfl ?_
  refine own_getF 24 X51 hx hby hZ hown (own_w hw 11 rfl) e51 (W.2.2.2.2.2.2.2.2.2.2.2.2.2.2.2.2.2.2.2.2.2.2.2.2.2.2.2.2.2.2.2.2.2.2.2.2.2.2.2.2.2.2.2.2.2.2.2.1.ext O0.2) d2_21 rfl ?_
  intro T53 X53 e53
  refine own_iload_n 25 X53 hx hby d2_24 rfl rfl ?_
  refine own_icY 31 X53 hx hby d2_25 (by decide) (by decide) (feq hc54).2 ?_
  refine own_iinc 34 #[oI x0, oA w_ALL, oI (22 : Int32), oI (3 : Int32), oA w_GET_SERVICE] X53 hx hby d2_31 rfl rfl rfl ?_
  refine own_goto 9 X53 hx hby d2_34 (by decide) (by decide) ?_
  refine own_iload_n 10 X53 hx hby d2_9 rfl rfl ?_
  refine own_iload_n 11 X53 hx hby d2_10 rfl rfl ?_
  refine own_icN 14 X53 hx hby d2_11 rfl (by decide) ?_
  refine own_aload_n 15 X53 hx hby d2_14 rfl rfl rfl ?_
  refine own_iload_n 16 X53 hx hby d2_15 rfl rfl ?_
  refine own_aaload 17 (.ref w_LIST_SERVICES) X53 hx hby hZ e53 (W.2.2.2.2.2.2.2.2.2.2.2.2.2.2.2.2.2.2.2.2.2.2.2.2.2.2.2.2.2.2.2.2.2.2.2.2.2.2.2.2.2.2.2.2.2.2.2.2.2.2.2.2.2.2.2.2.2.2.2.2.2.2.2.2.2.2.2.ext O0.2) rfl d2_16 rfl (by decide) rfl ?_
  refine own_astore 19 #[oI x0, oA w_ALL, oI (22 : Int32), oI (3 : Int32), oA w_LIST_SERVICES] X53 hx hby d2_17 rfl rfl rfl ?_
  refine own_aload 21 X53 hx hby d2_19 rfl rfl rfl ?_
  refine own_getF 24 X53 hx hby hZ hown (own_w hw 11 rfl) e53 (W.2.2.2.2.2.2.2.2.2.2.2.2.2.2.2.2.2.2.2.2.2.2.2.2.2.2.2.2.2.2.2.2.2.2.2.2.2.2.2.2.2.2.2.2.2.2.2.2.1.ext O0.2) d2_21 rfl ?_
  intro T55 X55 e55
  refine own_iload_n 25 X55 hx hby d2_24 rfl rfl ?_
  refine own_icY 31 X55 hx hby d2_25 (by decide) (by decide) (feq hc56).2 ?_
  refine own_iinc 34 #[oI x0, oA w_ALL, oI (22 : Int32), oI (4 : Int32), oA w_LIST_SERVICES] X55 hx hby d2_31 rfl rfl rfl ?_
  refine own_goto 9 X55 hx hby d2_34 (by decide) (by decide) ?_
  refine own_iload_n 10 X55 hx hby d2_9 rfl rfl ?_
  refine own_iload_n 11 X55 hx hby d2_10 rfl rfl ?_
  refine own_icN 14 X55 hx hby d2_11 rfl (by decide) ?_
  refine own_aload_n 15 X55 hx hby d2_14 rfl rfl rfl ?_
  refine own_iload_n 16 X55 hx hby d2_15 rfl rfl ?_
  refine own_aaload 17 (.ref w_TRANSLATE) X55 hx hby hZ e55 (W.2.2.2.2.2.2.2.2.2.2.2.2.2.2.2.2.2.2.2.2.2.2.2.2.2.2.2.2.2.2.2.2.2.2.2.2.2.2.2.2.2.2.2.2.2.2.2.2.2.2.2.2.2.2.2.2.2.2.2.2.2.2.2.2.2.2.2.ext O0.2) rfl d2_16 rfl (by decide) rfl ?_
  refine own_astore 19 #[oI x0, oA w_ALL, oI (22 : Int32), oI (4 : Int32), oA w_TRANSLATE] X55 hx hby d2_17 rfl rfl rfl ?_
  refine own_aload 21 X55 hx hby d2_19 rfl rfl rfl ?_
  refine own_getF 24 X55 hx hby hZ hown (own_w hw 11 rfl) e55 (W.2.2.2.2.2.2.2.2.2.2.2.2.2.2.2.2.2.2.2.2.2.2.2.2.2.2.2.2.2.2.2.2.2.2.2.2.2.2.2.2.2.2.2.2.2.2.2.2.2.1.ext O0.2) d2_21 rfl ?_
  intro T57 X57 e57
  refine own_iload_n 25 X57 hx hby d2_24 rfl rfl ?_
  refine own_icY 31 X57 hx hby d2_25 (by decide) (by decide) (feq hc58).2 ?_
  refine own_iinc 34 #[oI x0, oA w_ALL, oI (22 : Int32), oI (5 : Int32), oA w_TRANSLATE] X57 hx hby d2_31 rfl rfl rfl ?_
  refine own_goto 9 X57 hx hby d2_34 (by decide) (by decide) ?_
  refine own_iload_n 10 X57 hx hby d2_9 rfl rfl ?_
  refine own_iload_n 11 X57 hx hby d2_10 rfl rfl ?_
  refine own_icN 14 X57 hx hby d2_11 rfl (by decide) ?_
  refine own_aload_n 15 X57 hx hby d2_14 rfl rfl rfl ?_
  refine own_iload_n 16 X57 hx hby d2_15 rfl rfl ?_
  refine own_aaload 17 (.ref w_RESOLVE) X57 hx hby hZ e57 (W.2.2.2.2.2.2.2.2.2.2.2.2.2.2.2.2.2.2.2.2.2.2.2.2.2.2.2.2.2.2.2.2.2.2.2.2.2.2.2.2.2.2.2.2.2.2.2.2.2.2.2.2.2.2.2.2.2.2.2.2.2.2.2.2.2.2.2.ext O0.2) rfl d2_16 rfl (by decide) rfl ?_
  refine own_astore 19 #[oI x0, oA w_ALL, oI (22 : Int32), oI (5 : Int32), oA w_RESOLVE] X57 hx hby d2_17 rfl rfl rfl ?_
  refine own_aload 21 X57 hx hby d2_19 rfl rfl rfl ?_
  refine own_getF 24 X57 hx hby hZ hown (own_w hw 11 rfl) e57 (W.2.2.2.2.2.2.2.2.2.2.2.2.2.2.2.2.2.2.2.2.2.2.2.2.2.2.2.2.2.2.2.2.2.2.2.2.2.2.2.2.2.2.2.2.2.2.2.2.2.2.1.ext O0.2) d2_21 rfl ?_
  intro T59 X59 e59
  refine own_iload_n 25 X59 hx hby d2_24 rfl rfl ?_
  refine own_icY 31 X59 hx hby d2_25 (by decide) (by decide) (feq hc60).2 ?_
  refine own_iinc 34 #[oI x0, oA w_ALL, oI (22 : Int32), oI (6 : Int32), oA w_RESOLVE] X59 hx hby d2_31 rfl rfl rfl ?_
  refine own_goto 9 X59 hx hby d2_34 (by decide) (by decide) ?_
  refine own_iload_n 10 X59 hx hby d2_9 rfl rfl ?_
  refine own_iload_n 11 X59 hx hby d2_10 rfl rfl ?_
  refine own_icN 14 X59 hx hby d2_11 rfl (by decide) ?_
  refine own_aload_n 15 X59 hx hby d2_14 rfl rfl rfl ?_
  refine own_iload_n 16 X59 hx hby d2_15 rfl rfl ?_
  refine own_aaload 17 (.ref w_RELEASE) X59 hx hby hZ e59 (W.2.2.2.2.2.2.2.2.2.2.2.2.2.2.2.2.2.2.2.2.2.2.2.2.2.2.2.2.2.2.2.2.2.2.2.2.2.2.2.2.2.2.2.2.2.2.2.2.2.2.2.2.2.2.2.2.2.2.2.2.2.2.2.2.2.2.2.ext O0.2) rfl d2_16 rfl (by decide) rfl ?_
  refine own_astore 19 #[oI x0, oA w_ALL, oI (22 : Int32), oI (6 : Int32), oA w_RELEASE] X59 hx hby d2_17 rfl rfl rfl ?_
  refine own_aload 21 X59 hx hby d2_19 rfl rfl rfl ?_
  refine own_getF 24 X59 hx hby hZ hown (own_w hw 11 rfl) e59 (W.2.2.2.2.2.2.2.2.2.2.2.2.2.2.2.2.2.2.2.2.2.2.2.2.2.2.2.2.2.2.2.2.2.2.2.2.2.2.2.2.2.2.2.2.2.2.2.2.2.2.2.1.ext O0.2) d2_21 rfl ?_
  intro T61 X61 e61
  refine own_iload_n 25 X61 hx hby d2_24 rfl rfl ?_
  refine own_icY 31 X61 hx hby d2_25 (by decide) (by decide) (feq hc62).2 ?_
  refine own_iinc 34 #[oI x0, oA w_ALL, oI (22 : Int32), oI (7 : Int32), oA w_RELEASE] X61 hx hby d2_31 rfl rfl rfl ?_
  refine own_goto 9 X61 hx hby d2_34 (by decide) (by decide) ?_
  refine own_iload_n 10 X61 hx hby d2_9 rfl rfl ?_
  refine own_iload_n 11 X61 hx hby d2_10 rfl rfl ?_
  refine own_icN 14 X61 hx hby d2_11 rfl (by decide) ?_
  refine own_aload_n 15 X61 hx hby d2_14 rfl rfl rfl ?_
  refine own_iload_n 16 X61 hx hby d2_15 rfl rfl ?_
  refine own_aaload 17 (.ref w_STATUS) X61 hx hby hZ e61 (W.2.2.2.2.2.2.2.2.2.2.2.2.2.2.2.2.2.2.2.2.2.2.2.2.2.2.2.2.2.2.2.2.2.2.2.2.2.2.2.2.2.2.2.2.2.2.2.2.2.2.2.2.2.2.2.2.2.2.2.2.2.2.2.2.2.2.2.ext O0.2) rfl d2_16 rfl (by decide) rfl ?_
  refine own_astore 19 #[oI x0, oA w_ALL, oI (22 : Int32), oI (7 : Int32), oA w_STATUS] X61 hx hby d2_17 rfl rfl rfl ?_
  refine own_aload 21 X61 hx hby d2_19 rfl rfl rfl ?_
  refine own_getF 24 X61 hx hby hZ hown (own_w hw 11 rfl) e61 (W.2.2.2.2.2.2.2.2.2.2.2.2.2.2.2.2.2.2.2.2.2.2.2.2.2.2.2.2.2.2.2.2.2.2.2.2.2.2.2.2.2.2.2.2.2.2.2.2.2.2.2.2.1.ext O0.2) d2_21 rfl ?_
  intro T63 X63 e63
  refine own_iload_n 25 X63 hx hby d2_24 rfl rfl ?_
  refine own_icY 31 X63 hx hby d2_25 (by decide) (by decide) (feq hc64).2 ?_
  refine own_iinc 34 #[oI x0, oA w_ALL, oI (22 : Int32), oI (8 : Int32), oA w_STATUS] X63 hx hby d2_31 rfl rfl rfl ?_
  refine own_goto 9 X63 hx hby d2_34 (by decide) (by decide) ?_
  refine own_iload_n 10 X63 hx hby d2_9 rfl rfl ?_
  refine own_iload_n 11 X63 hx hby d2_10 rfl rfl ?_
  refine own_icN 14 X63 hx hby d2_11 rfl (by decide) ?_
  refine own_aload_n 15 X63 hx hby d2_14 rfl rfl rfl ?_
  refine own_iload_n 16 X63 hx hby d2_15 rfl rfl ?_
  refine own_aaload 17 (.ref w_WAITING) X63 hx hby hZ e63 (W.2.2.2.2.2.2.2.2.2.2.2.2.2.2.2.2.2.2.2.2.2.2.2.2.2.2.2.2.2.2.2.2.2.2.2.2.2.2.2.2.2.2.2.2.2.2.2.2.2.2.2.2.2.2.2.2.2.2.2.2.2.2.2.2.2.2.2.ext O0.2) rfl d2_16 rfl (by decide) rfl ?_
  refine own_astore 19 #[oI x0, oA w_ALL, oI (22 : Int32), oI (8 : Int32), oA w_WAITING] X63 hx hby d2_17 rfl rfl rfl ?_
  refine own_aload 21 X63 hx hby d2_19 rfl rfl rfl ?_
  refine own_getF 24 X63 hx hby hZ hown (own_w hw 11 rfl) e63 (W.2.2.2.2.2.2.2.2.2.2.2.2.2.2.2.2.2.2.2.2.2.2.2.2.2.2.2.2.2.2.2.2.2.2.2.2.2.2.2.2.2.2.2.2.2.2.2.2.2.2.2.2.2.1.ext O0.2) d2_21 rfl ?_
  intro T65 X65 e65
  refine own_iload_n 25 X65 hx hby d2_24 rfl rfl ?_
  refine own_icN 28 X65 hx hby d2_25 rfl (teq hc66).2 ?_
  refine own_aload 30 X65 hx hby d2_28 rfl rfl rfl ?_
  exact own_ret (Q := own_Q _ n0 h0) X65 hx hby hret hlk d2_30 rfl (Or.inr (Or.inr (Or.inr (Or.inr ⟨rfl, rfl, rfl⟩)))) (by decide) (by decide) ⟨rfl, N0, e65⟩
set_option maxRecDepth 65536 in
set_option maxHeartbeats 40000000 in
theorem rm2_10 (l : Launch) (Z : State) (a0 : Array Value) (hw : ∀ d ∈ tables_1, d.before a0 Z = true) (ws : List Jvm.Cond) (w_HELLO w_ADD_SERVICE w_GET_SERVICE w_LIST_SERVICES w_TRANSLATE w_RESOLVE w_RELEASE w_STATUS w_WAITING w_WATCH w_ACQUIRE w_RETIRE w_RESULT w_FAILURE w_DEAD w_COUNT_WAITING w_CLOSING w_UNHELD w_OPEN w_TRANSACTION w_REPLY w_KNOCK w_ALL k_ALL : Addr) (W : own_W Z w_HELLO w_ADD_SERVICE w_GET_SERVICE w_LIST_SERVICES w_TRANSLATE w_RESOLVE w_RELEASE w_STATUS w_WAITING w_WATCH w_ACQUIRE w_RETIRE w_RESULT w_FAILURE w_DEAD w_COUNT_WAITING w_CLOSING w_UNHELD w_OPEN w_TRANSACTION w_REPLY w_KNOCK w_ALL k_ALL) (x0 : Int32) (h0 : Heap) (n0 : Nat) (O0 : Old Z n0 h0) (hc50 : ¬ ((1 : Int32) = x0)) (hc52 : ¬ ((2 : Int32) = x0)) (hc54 : ¬ ((3 : Int32) = x0)) (hc56 : ¬ ((4 : Int32) = x0)) (hc58 : ¬ ((5 : Int32) = x0)) (hc60 : ¬ ((6 : Int32) = x0)) (hc62 : ¬ ((7 : Int32) = x0)) (hc64 : ¬ ((8 : Int32) = x0)) (hc66 : ¬ ((9 : Int32) = x0)) (hc68 : (10 : Int32) = x0) :
    MetFree l (⟨"com/example/hop1/hop1/protocol/FrameKind", "of", "(I)Lcom/example/hop1/hop1/protocol/FrameKind;"⟩ : MethodName) (head1 (Jvm.Cond.code (⟨"com/example/hop1/hop1/protocol/FrameKind", "of", "(I)Lcom/example/hop1/hop1/protocol/FrameKind;"⟩ : MethodName) prog_113_method_5_code 5 (some (.object "com/example/hop1/hop1/protocol/FrameKind")) :: ws) ({ frames := 0, cells := 0, slots := 0, locals := 0 } : Room)) (fun a U => a = #[(.int x0)] ∧ Z.Warmed39 U.vm ∧ U.heap = h0) (fun _ _ _ _ _ => True) (fun _ U o U' => ∃ v L, o = .returned v ∧ own_Q (some (.ref w_WATCH)) n0 h0 v U'.heap L ∧ FrameEnd U o U' L ({ frames := 0, cells := 0, slots := 0, locals := 0 } : Room).cells ({ frames := 0, cells := 0, slots := 0, locals := 0 } : Room).slots) := by
  refine MetFree.of_bodySF (plainFor_of_name pn_1) hisR ?_
  intro p e s m args below meth c s₁ Bd hml0 hP hK
  obtain ⟨rfl, hZ, hh⟩ := hP
  have hx := Bd.exec
  have hby := Bd.bytes
  have hml : c.maxLocals = 5 := hml0
  have hlk := BodyLoose.notSynchronized Bd
  have hret := Bd.returns
  have hown : s.vm.findClass "com/example/hop1/hop1/protocol/FrameKind" = some m.cls := findClass_of_methodNamed Bd.named
  have hnm := (name_of_methodNamed Bd.named Bd.method).1
  have X0 : Stand p l e ({ frames := 0, cells := 0, slots := 0, locals := 0 } : Room) s m #[(.int x0)] below meth c s₁ [] 0 0 := Stand.of_body Bd
  have e0 : s₁.heap = h0 := by rw [← hh, Bd.state]; rfl
  have N0 := Fr.nil n0
  rw [ef_2 m x0]
  show Go p e below _ (s₁.setTop (mkF m 0 #[oI x0, oU, oU, oU, oU] []))
  refine own_getS 3 X0 hx hby hZ hown (own_w hw 8 rfl) e0 (W.2.2.2.2.2.2.2.2.2.2.2.2.2.2.2.2.2.2.2.2.2.2.2.2.2.2.2.2.2.2.2.2.2.2.2.2.2.2.2.2.2.2.2.2.1.ext O0.2) d2_0 rfl ?_
  intro T48 X48 e48
  refine own_astore_n 4 #[oI x0, oA w_ALL, oU, oU, oU] X48 hx hby d2_3 rfl rfl rfl ?_
  refine own_aload_n 5 X48 hx hby d2_4 rfl rfl rfl ?_
  refine own_len 6 X48 hx hby hZ e48 (W.2.2.2.2.2.2.2.2.2.2.2.2.2.2.2.2.2.2.2.2.2.2.2.2.2.2.2.2.2.2.2.2.2.2.2.2.2.2.2.2.2.2.2.2.2.2.2.2.2.2.2.2.2.2.2.2.2.2.2.2.2.2.2.2.2.2.2.ext O0.2) d2_5 rfl ?_
  refine own_istore_n 7 #[oI x0, oA w_ALL, oI (22 : Int32), oU, oU] X48 hx hby d2_6 rfl rfl ?_
  refine own_iconst 8 (0 : Int32) X48 hx hby d2_7 rfl (by decide) ?_
  refine own_istore_n 9 #[oI x0, oA w_ALL, oI (22 : Int32), oI (0 : Int32), oU] X48 hx hby d2_8 rfl rfl ?_
  refine own_iload_n 10 X48 hx hby d2_9 rfl rfl ?_
  refine own_iload_n 11 X48 hx hby d2_10 rfl rfl ?_
  refine own_icN 14 X48 hx hby d2_11 rfl (by decide) ?_
  refine own_aload_n 15 X48 hx hby d2_14 rfl rfl rfl ?_
  refine own_iload_n 16 X48 hx hby d2_15 rfl rfl ?_
  refine own_aaload 17 (.ref w_HELLO) X48 hx hby hZ e48 (W.2.2.2.2.2.2.2.2.2.2.2.2.2.2.2.2.2.2.2.2.2.2.2.2.2.2.2.2.2.2.2.2.2.2.2.2.2.2.2.2.2.2.2.2.2.2.2.2.2.2.2.2.2.2.2.2.2.2.2.2.2.2.2.2.2.2.2.ext O0.2) rfl d2_16 rfl (by decide) rfl ?_
  refine own_astore 19 #[oI x0, oA w_ALL, oI (22 : Int32), oI (0 : Int32), oA w_HELLO] X48 hx hby d2_17 rfl rfl rfl ?_
  refine own_aload 21 X48 hx hby d2_19 rfl rfl rfl ?_
  refine own_getF 24 X48 hx hby hZ hown (own_w hw 11 rfl) e48 (W.2.2.2.2.2.2.2.2.2.2.2.2.2.2.2.2.2.2.2.2.2.2.2.2.2.2.2.2.2.2.2.2.2.2.2.2.2.2.2.2.2.2.2.2.2.1.ext O0.2) d2_21 rfl ?_
  intro T49 X49 e49
  refine own_iload_n 25 X49 hx hby d2_24 rfl rfl ?_
  refine own_icY 31 X49 hx hby d2_25 (by decide) (by decide) (feq hc50).2 ?_
  refine own_iinc 34 #[oI x0, oA w_ALL, oI (22 : Int32), oI (1 : Int32), oA w_HELLO] X49 hx hby d2_31 rfl rfl rfl ?_
  refine own_goto 9 X49 hx hby d2_34 (by decide) (by decide) ?_
  refine own_iload_n 10 X49 hx hby d2_9 rfl rfl ?_
  refine own_iload_n 11 X49 hx hby d2_10 rfl rfl ?_
  refine own_icN 14 X49 hx hby d2_11 rfl (by decide) ?_
  refine own_aload_n 15 X49 hx hby d2_14 rfl rfl rfl ?_
  refine own_iload_n 16 X49 hx hby d2_15 rfl rfl ?_
  refine own_aaload 17 (.ref w_ADD_SERVICE) X49 hx hby hZ e49 (W.2.2.2.2.2.2.2.2.2.2.2.2.2.2.2.2.2.2.2.2.2.2.2.2.2.2.2.2.2.2.2.2.2.2.2.2.2.2.2.2.2.2.2.2.2.2.2.2.2.2.2.2.2.2.2.2.2.2.2.2.2.2.2.2.2.2.2.ext O0.2) rfl d2_16 rfl (by decide) rfl ?_
  refine own_astore 19 #[oI x0, oA w_ALL, oI (22 : Int32), oI (1 : Int32), oA w_ADD_SERVICE] X49 hx hby d2_17 rfl rfl rfl ?_
  refine own_aload 21 X49 hx hby d2_19 rfl rfl rfl ?_
  refine own_getF 24 X49 hx hby hZ hown (own_w hw 11 rfl) e49 (W.2.2.2.2.2.2.2.2.2.2.2.2.2.2.2.2.2.2.2.2.2.2.2.2.2.2.2.2.2.2.2.2.2.2.2.2.2.2.2.2.2.2.2.2.2.2.1.ext O0.2) d2_21 rfl ?_
  intro T51 X51 e51
  refine own_iload_n 25 X51 hx hby d2_24 rfl rfl ?_
  refine own_icY 31 X51 hx hby d2_25 (by decide) (by decide) (feq hc52).2 ?_
  refine own_iinc 34 #[oI x0, oA w_ALL, oI (22 : Int32), oI (2 : Int32), oA w_ADD_SERVICE] X51 hx hby d2_31 rfl rfl rfl ?_
  refine own_goto 9 X51 hx hby d2_34 (by decide) (by decide) ?_
  refine own_iload_n 10 X51 hx hby d2_9 rfl rfl ?_
  refine own_iload_n 11 X51 hx hby d2_10 rfl rfl ?_
  refine own_icN 14 X51 hx hby d2_11 rfl (by decide) ?_
  refine own_aload_n 15 X51 hx hby d2_14 rfl rfl rfl ?_
  refine own_iload_n 16 X51 hx hby d2_15 rfl rfl ?_
  refine own_aaload 17 (.ref w_GET_SERVICE) X51 hx hby hZ e51 (W.2.2.2.2.2.2.2.2.2.2.2.2.2.2.2.2.2.2.2.2.2.2.2.2.2.2.2.2.2.2.2.2.2.2.2.2.2.2.2.2.2.2.2.2.2.2.2.2.2.2.2.2.2.2.2.2.2.2.2.2.2.2.2.2.2.2.2.ext O0.2) rfl d2_16 rfl (by decide) rfl ?_
  refine own_astore 19 #[oI x0, oA w_ALL, oI (22 : Int32), oI (2 : Int32), oA w_GET_SERVICE] X51 hx hby d2_17 rfl rfl rfl ?_
  refine own_aload 21 X51 hx hby d2_19 rfl rfl rfl ?_
  refine own_getF 24 X51 hx hby hZ hown (own_w hw 11 rfl) e51 (W.2.2.2.2.2.2.2.2.2.2.2.2.2.2.2.2.2.2.2.2.2.2.2.2.2.2.2.2.2.2.2.2.2.2.2.2.2.2.2.2.2.2.2.2.2.2.2.1.ext O0.2) d2_21 rfl ?_
  intro T53 X53 e53
  refine own_iload_n 25 X53 hx hby d2_24 rfl rfl ?_
  refine own_icY 31 X53 hx hby d2_25 (by decide) (by decide) (feq hc54).2 ?_
  refine own_iinc 34 #[oI x0, oA w_ALL, oI (22 : Int32), oI (3 : Int32), oA w_GET_SERVICE] X53 hx hby d2_31 rfl rfl rfl ?_
  refine own_goto 9 X53 hx hby d2_34 (by decide) (by decide) ?_
  refine own_iload_n 10 X53 hx hby d2_9 rfl rfl ?_
  refine own_iload_n 11 X53 hx hby d2_10 rfl rfl ?_
  refine own_icN 14 X53 hx hby d2_11 rfl (by decide) ?_
  refine own_aload_n 15 X53 hx hby d2_14 rfl rfl rfl ?_
  refine own_iload_n 16 X53 hx hby d2_15 rfl rfl ?_
  refine own_aaload 17 (.ref w_LIST_SERVICES) X53 hx hby hZ e53 (W.2.2.2.2.2.2.2.2.2.2.2.2.2.2.2.2.2.2.2.2.2.2.2.2.2.2.2.2.2.2.2.2.2.2.2.2.2.2.2.2.2.2.2.2.2.2.2.2.2.2.2.2.2.2.2.2.2.2.2.2.2.2.2.2.2.2.2.ext O0.2) rfl d2_16 rfl (by decide) rfl ?_
  refine own_astore 19 #[oI x0, oA w_ALL, oI (22 : Int32), oI (3 : Int32), oA w_LIST_SERVICES] X53 hx hby d2_17 rfl rfl rfl ?_
  refine own_aload 21 X53 hx hby d2_19 rfl rfl rfl ?_
  refine own_getF 24 X53 hx hby hZ hown (own_w hw 11 rfl) e53 (W.2.2.2.2.2.2.2.2.2.2.2.2.2.2.2.2.2.2.2.2.2.2.2.2.2.2.2.2.2.2.2.2.2.2.2.2.2.2.2.2.2.2.2.2.2.2.2.2.1.ext O0.2) d2_21 rfl ?_
  intro T55 X55 e55
  refine own_iload_n 25 X55 hx hby d2_24 rfl rfl ?_
  refine own_icY 31 X55 hx hby d2_25 (by decide) (by decide) (feq hc56).2 ?_
  refine own_iinc 34 #[oI x0, oA w_ALL, oI (22 : Int32), oI (4 : Int32), oA w_LIST_SERVICES] X55 hx hby d2_31 rfl rfl rfl ?_
  refine own_goto 9 X55 hx hby d2_34 (by decide) (by decide) ?_
  refine own_iload_n 10 X55 hx hby d2_9 rfl rfl ?_
  refine own_iload_n 11 X55 hx hby d2_10 rfl rfl ?_
  refine own_icN 14 X55 hx hby d2_11 rfl (by decide) ?_
  refine own_aload_n 15 X55 hx hby d2_14 rfl rfl rfl ?_
  refine own_iload_n 16 X55 hx hby d2_15 rfl rfl ?_
  refine own_aaload 17 (.ref w_TRANSLATE) X55 hx hby hZ e55 (W.2.2.2.2.2.2.2.2.2.2.2.2.2.2.2.2.2.2.2.2.2.2.2.2.2.2.2.2.2.2.2.2.2.2.2.2.2.2.2.2.2.2.2.2.2.2.2.2.2.2.2.2.2.2.2.2.2.2.2.2.2.2.2.2.2.2.2.ext O0.2) rfl d2_16 rfl (by decide) rfl ?_
  refine own_astore 19 #[oI x0, oA w_ALL, oI (22 : Int32), oI (4 : Int32), oA w_TRANSLATE] X55 hx hby d2_17 rfl rfl rfl ?_
  refine own_aload 21 X55 hx hby d2_19 rfl rfl rfl ?_
  refine own_getF 24 X55 hx hby hZ hown (own_w hw 11 rfl) e55 (W.2.2.2.2.2.2.2.2.2.2.2.2.2.2.2.2.2.2.2.2.2.2.2.2.2.2.2.2.2.2.2.2.2.2.2.2.2.2.2.2.2.2.2.2.2.2.2.2.2.1.ext O0.2) d2_21 rfl ?_
  intro T57 X57 e57
  refine own_iload_n 25 X57 hx hby d2_24 rfl rfl ?_
  refine own_icY 31 X57 hx hby d2_25 (by decide) (by decide) (feq hc58).2 ?_
  refine own_iinc 34 #[oI x0, oA w_ALL, oI (22 : Int32), oI (5 : Int32), oA w_TRANSLATE] X57 hx hby d2_31 rfl rfl rfl ?_
  refine own_goto 9 X57 hx hby d2_34 (by decide) (by decide) ?_
  refine own_iload_n 10 X57 hx hby d2_9 rfl rfl ?_
  refine own_iload_n 11 X57 hx hby d2_10 rfl rfl ?_
  refine own_icN 14 X57 hx hby d2_11 rfl (by decide) ?_
  refine own_aload_n 15 X57 hx hby d2_14 rfl rfl rfl ?_
  refine own_iload_n 16 X57 hx hby d2_15 rfl rfl ?_
  refine own_aaload 17 (.ref w_RESOLVE) X57 hx hby hZ e57 (W.2.2.2.2.2.2.2.2.2.2.2.2.2.2.2.2.2.2.2.2.2.2.2.2.2.2.2.2.2.2.2.2.2.2.2.2.2.2.2.2.2.2.2.2.2.2.2.2.2.2.2.2.2.2.2.2.2.2.2.2.2.2.2.2.2.2.2.ext O0.2) rfl d2_16 rfl (by decide) rfl ?_
  refine own_astore 19 #[oI x0, oA w_ALL, oI (22 : Int32), oI (5 : Int32), oA w_RESOLVE] X57 hx hby d2_17 rfl rfl rfl ?_
  refine own_aload 21 X57 hx hby d2_19 rfl rfl rfl ?_
  refine own_getF 24 X57 hx hby hZ hown (own_w hw 11 rfl) e57 (W.2.2.2.2.2.2.2.2.2.2.2.2.2.2.2.2.2.2.2.2.2.2.2.2.2.2.2.2.2.2.2.2.2.2.2.2.2.2.2.2.2.2.2.2.2.2.2.2.2.2.1.ext O0.2) d2_21 rfl ?_
  intro T59 X59 e59
  refine own_iload_n 25 X59 hx hby d2_24 rfl rfl ?_
  refine own_icY 31 X59 hx hby d2_25 (by decide) (by decide) (feq hc60).2 ?_
  refine own_iinc 34 #[oI x0, oA w_ALL, oI (22 : Int32), oI (6 : Int32), oA w_RESOLVE] X59 hx hby d2_31 rfl rfl rfl ?_
  refine own_goto 9 X59 hx hby d2_34 (by decide) (by decide) ?_
  refine own_iload_n 10 X59 hx hby d2_9 rfl rfl ?_
  refine own_iload_n 11 X59 hx hby d2_10 rfl rfl ?_
  refine own_icN 14 X59 hx hby d2_11 rfl (by decide) ?_
  refine own_aload_n 15 X59 hx hby d2_14 rfl rfl rfl ?_
  refine own_iload_n 16 X59 hx hby d2_15 rfl rfl ?_
  refine own_aaload 17 (.ref w_RELEASE) X59 hx hby hZ e59 (W.2.2.2.2.2.2.2.2.2.2.2.2.2.2.2.2.2.2.2.2.2.2.2.2.2.2.2.2.2.2.2.2.2.2.2.2.2.2.2.2.2.2.2.2.2.2.2.2.2.2.2.2.2.2.2.2.2.2.2.2.2.2.2.2.2.2.2.ext O0.2) rfl d2_16 rfl (by decide) rfl ?_
  refine own_astore 19 #[oI x0, oA w_ALL, oI (22 : Int32), oI (6 : Int32), oA w_RELEASE] X59 hx hby d2_17 rfl rfl rfl ?_
  refine own_aload 21 X59 hx hby d2_19 rfl rfl rfl ?_
  refine own_getF 24 X59 hx hby hZ hown (own_w hw 11 rfl) e59 (W.2.2.2.2.2.2.2.2.2.2.2.2.2.2.2.2.2.2.2.2.2.2.2.2.2.2.2.2.2.2.2.2.2.2.2.2.2.2.2.2.2.2.2.2.2.2.2.2.2.2.2.1.ext O0.2) d2_21 rfl ?_
  intro T61 X61 e61
  refine own_iload_n 25 X61 hx hby d2_24 rfl rfl ?_
  refine own_icY 31 X61 hx hby d2_25 (by decide) (by decide) (feq hc62).2 ?_
  refine own_iinc 34 #[oI x0, oA w_ALL, oI (22 : Int32), oI (7 : Int32), oA w_RELEASE] X61 hx hby d2_31 rfl rfl rfl ?_
  refine own_goto 9 X61 hx hby d2_34 (by decide) (by decide) ?_
  refine own_iload_n 10 X61 hx hby d2_9 rfl rfl ?_
  refine own_iload_n 11 X61 hx hby d2_10 rfl rfl ?_
  refine own_icN 14 X61 hx hby d2_11 rfl (by decide) ?_
  refine own_aload_n 15 X61 hx hby d2_14 rfl rfl rfl ?_
  refine own_iload_n 16 X61 hx hby d2_15 rfl rfl ?_
  refine own_aaload 17 (.ref w_STATUS) X61 hx hby hZ e61 (W.2.2.2.2.2.2.2.2.2.2.2.2.2.2.2.2.2.2.2.2.2.2.2.2.2.2.2.2.2.2.2.2.2.2.2.2.2.2.2.2.2.2.2.2.2.2.2.2.2.2.2.2.2.2.2.2.2.2.2.2.2.2.2.2.2.2.2.ext O0.2) rfl d2_16 rfl (by decide) rfl ?_
  refine own_astore 19 #[oI x0, oA w_ALL, oI (22 : Int32), oI (7 : Int32), oA w_STATUS] X61 hx hby d2_17 rfl rfl rfl ?_
  refine own_aload 21 X61 hx hby d2_19 rfl rfl rfl ?_
  refine own_getF 24 X61 hx hby hZ hown (own_w hw 11 rfl) e61 (W.2.2.2.2.2.2.2.2.2.2.2.2.2.2.2.2.2.2.2.2.2.2.2.2.2.2.2.2.2.2.2.2.2.2.2.2.2.2.2.2.2.2.2.2.2.2.2.2.2.2.2.2.1.ext O0.2) d2_21 rfl ?_
  intro T63 X63 e63
  refine own_iload_n 25 X63 hx hby d2_24 rfl rfl ?_
  refine own_icY 31 X63 hx hby d2_25 (by decide) (by decide) (feq hc64).2 ?_
  refine own_iinc 34 #[oI x0, oA w_ALL, oI (22 : Int32), oI (8 : Int32), oA w_STATUS] X63 hx hby d2_31 rfl rfl rfl ?_
  refine own_goto 9 X63 hx hby d2_34 (by decide) (by decide) ?_
  refine own_iload_n 10 X63 hx hby d2_9 rfl rfl ?_
  refine own_iload_n 11 X63 hx hby d2_10 rfl rfl ?_
  refine own_icN 14 X63 hx hby d2_11 rfl (by decide) ?_
  refine own_aload_n 15 X63 hx hby d2_14 rfl rfl rfl ?_
  refine own_iload_n 16 X63 hx hby d2_15 rfl rfl ?_
  refine own_aaload 17 (.ref w_WAITING) X63 hx hby hZ e63 (W.2.2.2.2.2.2.2.2.2.2.2.2.2.2.2.2.2.2.2.2.2.2.2.2.2.2.2.2.2.2.2.2.2.2.2.2.2.2.2.2.2.2.2.2.2.2.2.2.2.2.2.2.2.2.2.2.2.2.2.2.2.2.2.2.2.2.2.ext O0.2) rfl d2_16 rfl (by decide) rfl ?_
  refine own_astore 19 #[oI x0, oA w_ALL, oI (22 : Int32), oI (8 : Int32), oA w_WAITING] X63 hx hby d2_17 rfl rfl rfl ?_
  refine own_aload 21 X63 hx hby d2_19 rfl rfl rfl ?_
  refine own_getF 24 X63 hx hby hZ hown (own_w hw 11 rfl) e63 (W.2.2.2.2.2.2.2.2.2.2.2.2.2.2.2.2.2.2.2.2.2.2.2.2.2.2.2.2.2.2.2.2.2.2.2.2.2.2.2.2.2.2.2.2.2.2.2.2.2.2.2.2.2.1.ext O0.2) d2_21 rfl ?_
  intro T65 X65 e65
  refine own_iload_n 25 X65 hx hby d2_24 rfl rfl ?_
  refine own_icY 31 X65 hx hby d2_25 (by decide) (by decide) (feq hc66).2 ?_
  refine own_iinc 34 #[oI x0, oA w_ALL, oI (22 : Int32), oI (9 : Int32), oA w_WAITING] X65 hx hby d2_31 rfl rfl rfl ?_
  refine own_goto 9 X65 hx hby d2_34 (by decide) (by decide) ?_
  refine own_iload_n 10 X65 hx hby d2_9 rfl rfl ?_
  refine own_iload_n 11 X65 hx hby d2_10 rfl rfl ?_
  refine own_icN 14 X65 hx hby d2_11 rfl (by decide) ?_
  refine own_aload_n 15 X65 hx hby d2_14 rfl rfl rfl ?_
  refine own_iload_n 16 X65 hx hby d2_15 rfl rfl ?_
  refine own_aaload 17 (.ref w_WATCH) X65 hx hby hZ e65 (W.2.2.2.2.2.2.2.2.2.2.2.2.2.2.2.2.2.2.2.2.2.2.2.2.2.2.2.2.2.2.2.2.2.2.2.2.2.2.2.2.2.2.2.2.2.2.2.2.2.2.2.2.2.2.2.2.2.2.2.2.2.2.2.2.2.2.2.ext O0.2) rfl d2_16 rfl (by decide) rfl ?_
  refine own_astore 19 #[oI x0, oA w_ALL, oI (22 : Int32), oI (9 : Int32), oA w_WATCH] X65 hx hby d2_17 rfl rfl rfl ?_
  refine own_aload 21 X65 hx hby d2_19 rfl rfl rfl ?_
  refine own_getF 24 X65 hx hby hZ hown (own_w hw 11 rfl) e65 (W.2.2.2.2.2.2.2.2.2.2.2.2.2.2.2.2.2.2.2.2.2.2.2.2.2.2.2.2.2.2.2.2.2.2.2.2.2.2.2.2.2.2.2.2.2.2.2.2.2.2.2.2.2.2.1.ext O0.2) d2_21 rfl ?_
  intro T67 X67 e67
  refine own_iload_n 25 X67 hx hby d2_24 rfl rfl ?_
  refine own_icN 28 X67 hx hby d2_25 rfl (teq hc68).2 ?_
  refine own_aload 30 X67 hx hby d2_28 rfl rfl rfl ?_
  exact own_ret (Q := own_Q _ n0 h0) X67 hx hby hret hlk d2_30 rfl (Or.inr (Or.inr (Or.inr (Or.inr ⟨rfl, rfl, rfl⟩)))) (by decide) (by decide) ⟨rfl, N0, e67⟩
set_option maxRecDepth 65536 in
set_option maxHeartbeats 40000000 in
theorem rm2_11 (l : Launch) (Z : State) (a0 : Array Value) (hw : ∀ d ∈ tables_1, d.before a0 Z = true) (ws : List Jvm.Cond) (w_HELLO w_ADD_SERVICE w_GET_SERVICE w_LIST_SERVICES w_TRANSLATE w_RESOLVE w_RELEASE w_STATUS w_WAITING w_WATCH w_ACQUIRE w_RETIRE w_RESULT w_FAILURE w_DEAD w_COUNT_WAITING w_CLOSING w_UNHELD w_OPEN w_TRANSACTION w_REPLY w_KNOCK w_ALL k_ALL : Addr) (W : own_W Z w_HELLO w_ADD_SERVICE w_GET_SERVICE w_LIST_SERVICES w_TRANSLATE w_RESOLVE w_RELEASE w_STATUS w_WAITING w_WATCH w_ACQUIRE w_RETIRE w_RESULT w_FAILURE w_DEAD w_COUNT_WAITING w_CLOSING w_UNHELD w_OPEN w_TRANSACTION w_REPLY w_KNOCK w_ALL k_ALL) (x0 : Int32) (h0 : Heap) (n0 : Nat) (O0 : Old Z n0 h0) (hc50 : ¬ ((1 : Int32) = x0)) (hc52 : ¬ ((2 : Int32) = x0)) (hc54 : ¬ ((3 : Int32) = x0)) (hc56 : ¬ ((4 : Int32) = x0)) (hc58 : ¬ ((5 : Int32) = x0)) (hc60 : ¬ ((6 : Int32) = x0)) (hc62 : ¬ ((7 : Int32) = x0)) (hc64 : ¬ ((8 : Int32) = x0)) (hc66 : ¬ ((9 : Int32) = x0)) (hc68 : ¬ ((10 : Int32) = x0)) (hc70 : (11 : Int32) = x0) :
    MetFree l (⟨"com/example/hop1/hop1/protocol/FrameKind", "of", "(I)Lcom/example/hop1/hop1/protocol/FrameKind;"⟩ : MethodName) (head1 (Jvm.Cond.code (⟨"com/example/hop1/hop1/protocol/FrameKind", "of", "(I)Lcom/example/hop1/hop1/protocol/FrameKind;"⟩ : MethodName) prog_113_method_5_code 5 (some (.object "com/example/hop1/hop1/protocol/FrameKind")) :: ws) ({ frames := 0, cells := 0, slots := 0, locals := 0 } : Room)) (fun a U => a = #[(.int x0)] ∧ Z.Warmed39 U.vm ∧ U.heap = h0) (fun _ _ _ _ _ => True) (fun _ U o U' => ∃ v L, o = .returned v ∧ own_Q (some (.ref w_ACQUIRE)) n0 h0 v U'.heap L ∧ FrameEnd U o U' L ({ frames := 0, cells := 0, slots := 0, locals := 0 } : Room).cells ({ frames := 0, cells := 0, slots := 0, locals := 0 } : Room).slots) := by
  refine MetFree.of_bodySF (plainFor_of_name pn_1) hisR ?_
  intro p e s m args below meth c s₁ Bd hml0 hP hK
  obtain ⟨rfl, hZ, hh⟩ := hP
  have hx := Bd.exec
  have hby := Bd.bytes
  have hml : c.maxLocals = 5 := hml0
  have hlk := BodyLoose.notSynchronized Bd
  have hret := Bd.returns
  have hown : s.vm.findClass "com/example/hop1/hop1/protocol/FrameKind" = some m.cls := findClass_of_methodNamed Bd.named
  have hnm := (name_of_methodNamed Bd.named Bd.method).1
  have X0 : Stand p l e ({ frames := 0, cells := 0, slots := 0, locals := 0 } : Room) s m #[(.int x0)] below meth c s₁ [] 0 0 := Stand.of_body Bd
  have e0 : s₁.heap = h0 := by rw [← hh, Bd.state]; rfl
  have N0 := Fr.nil n0
  rw [ef_2 m x0]
  show Go p e below _ (s₁.setTop (mkF m 0 #[oI x0, oU, oU, oU, oU] []))
  refine own_getS 3 X0 hx hby hZ hown (own_w hw 8 rfl) e0 (W.2.2.2.2.2.2.2.2.2.2.2.2.2.2.2.2.2.2.2.2.2.2.2.2.2.2.2.2.2.2.2.2.2.2.2.2.2.2.2.2.2.2.2.2.1.ext O0.2) d2_0 rfl ?_
  intro T48 X48 e48
  refine own_astore_n 4 #[oI x0, oA w_ALL, oU, oU, oU] X48 hx hby d2_3 rfl rfl rfl ?_
  refine own_aload_n 5 X48 hx hby d2_4 rfl rfl rfl ?_
  refine own_len 6 X48 hx hby hZ e48 (W.2.2.2.2.2.2.2.2.2.2.2.2.2.2.2.2.2.2.2.2.2.2.2.2.2.2.2.2.2.2.2.2.2.2.2.2.2.2.2.2.2.2.2.2.2.2.2.2.2.2.2.2.2.2.2.2.2.2.2.2.2.2.2.2.2.2.2.ext O0.2) d2_5 rfl ?_
  refine own_istore_n 7 #[oI x0, oA w_ALL, oI (22 : Int32), oU, oU] X48 hx hby d2_6 rfl rfl ?_
  refine own_iconst 8 (0 : Int32) X48 hx hby d2_7 rfl (by decide) ?_
  refine own_istore_n 9 #[oI x0, oA w_ALL, oI (22 : Int32), oI (0 : Int32), oU] X48 hx hby d2_8 rfl rfl ?_
  refine own_iload_n 10 X48 hx hby d2_9 rfl rfl ?_
  refine own_iload_n 11 X48 hx hby d2_10 rfl rfl ?_
  refine own_icN 14 X48 hx hby d2_11 rfl (by decide) ?_
  refine own_aload_n 15 X48 hx hby d2_14 rfl rfl rfl ?_
  refine own_iload_n 16 X48 hx hby d2_15 rfl rfl ?_
  refine own_aaload 17 (.ref w_HELLO) X48 hx hby hZ e48 (W.2.2.2.2.2.2.2.2.2.2.2.2.2.2.2.2.2.2.2.2.2.2.2.2.2.2.2.2.2.2.2.2.2.2.2.2.2.2.2.2.2.2.2.2.2.2.2.2.2.2.2.2.2.2.2.2.2.2.2.2.2.2.2.2.2.2.2.ext O0.2) rfl d2_16 rfl (by decide) rfl ?_
  refine own_astore 19 #[oI x0, oA w_ALL, oI (22 : Int32), oI (0 : Int32), oA w_HELLO] X48 hx hby d2_17 rfl rfl rfl ?_
  refine own_aload 21 X48 hx hby d2_19 rfl rfl rfl ?_
  refine own_getF 24 X48 hx hby hZ hown (own_w hw 11 rfl) e48 (W.2.2.2.2.2.2.2.2.2.2.2.2.2.2.2.2.2.2.2.2.2.2.2.2.2.2.2.2.2.2.2.2.2.2.2.2.2.2.2.2.2.2.2.2.2.1.ext O0.2) d2_21 rfl ?_
  intro T49 X49 e49
  refine own_iload_n 25 X49 hx hby d2_24 rfl rfl ?_
  refine own_icY 31 X49 hx hby d2_25 (by decide) (by decide) (feq hc50).2 ?_
  refine own_iinc 34 #[oI x0, oA w_ALL, oI (22 : Int32), oI (1 : Int32), oA w_HELLO] X49 hx hby d2_31 rfl rfl rfl ?_
  refine own_goto 9 X49 hx hby d2_34 (by decide) (by decide) ?_
  refine own_iload_n 10 X49 hx hby d2_9 rfl rfl ?_
  refine own_iload_n 11 X49 hx hby d2_10 rfl rfl ?_
  refine own_icN 14 X49 hx hby d2_11 rfl (by decide) ?_
  refine own_aload_n 15 X49 hx hby d2_14 rfl rfl rfl ?_
  refine own_iload_n 16 X49 hx hby d2_15 rfl rfl ?_
  refine own_aaload 17 (.ref w_ADD_SERVICE) X49 hx hby hZ e49 (W.2.2.2.2.2.2.2.2.2.2.2.2.2.2.2.2.2.2.2.2.2.2.2.2.2.2.2.2.2.2.2.2.2.2.2.2.2.2.2.2.2.2.2.2.2.2.2.2.2.2.2.2.2.2.2.2.2.2.2.2.2.2.2.2.2.2.2.ext O0.2) rfl d2_16 rfl (by decide) rfl ?_
  refine own_astore 19 #[oI x0, oA w_ALL, oI (22 : Int32), oI (1 : Int32), oA w_ADD_SERVICE] X49 hx hby d2_17 rfl rfl rfl ?_
  refine own_aload 21 X49 hx hby d2_19 rfl rfl rfl ?_
  refine own_getF 24 X49 hx hby hZ hown (own_w hw 11 rfl) e49 (W.2.2.2.2.2.2.2.2.2.2.2.2.2.2.2.2.2.2.2.2.2.2.2.2.2.2.2.2.2.2.2.2.2.2.2.2.2.2.2.2.2.2.2.2.2.2.1.ext O0.2) d2_21 rfl ?_
  intro T51 X51 e51
  refine own_iload_n 25 X51 hx hby d2_24 rfl rfl ?_
  refine own_icY 31 X51 hx hby d2_25 (by decide) (by decide) (feq hc52).2 ?_
  refine own_iinc 34 #[oI x0, oA w_ALL, oI (22 : Int32), oI (2 : Int32), oA w_ADD_SERVICE] X51 hx hby d2_31 rfl rfl rfl ?_
  refine own_goto 9 X51 hx hby d2_34 (by decide) (by decide) ?_
  refine own_iload_n 10 X51 hx hby d2_9 rfl rfl ?_
  refine own_iload_n 11 X51 hx hby d2_10 rfl rfl ?_
  refine own_icN 14 X51 hx hby d2_11 rfl (by decide) ?_
  refine own_aload_n 15 X51 hx hby d2_14 rfl rfl rfl ?_
  refine own_iload_n 16 X51 hx hby d2_15 rfl rfl ?_
  refine own_aaload 17 (.ref w_GET_SERVICE) X51 hx hby hZ e51 (W.2.2.2.2.2.2.2.2.2.2.2.2.2.2.2.2.2.2.2.2.2.2.2.2.2.2.2.2.2.2.2.2.2.2.2.2.2.2.2.2.2.2.2.2.2.2.2.2.2.2.2.2.2.2.2.2.2.2.2.2.2.2.2.2.2.2.2.ext O0.2) rfl d2_16 rfl (by decide) rfl ?_
  refine own_astore 19 #[oI x0, oA w_ALL, oI (22 : Int32), oI (2 : Int32), oA w_GET_SERVICE] X51 hx hby d2_17 rfl rfl rfl ?_
  refine own_aload 21 X51 hx hby d2_19 rfl rfl rfl ?_
  refine own_getF 24 X51 hx hby hZ hown (own_w hw 11 rfl) e51 (W.2.2.2.2.2.2.2.2.2.2.2.2.2.2.2.2.2.2.2.2.2.2.2.2.2.2.2.2.2.2.2.2.2.2.2.2.2.2.2.2.2.2.2.2.2.2.2.1.ext O0.2) d2_21 rfl ?_
  intro T53 X53 e53
  refine own_iload_n 25 X53 hx hby d2_24 rfl rfl ?_
  refine own_icY 31 X53 hx hby d2_25 (by decide) (by decide) (feq hc54).2 ?_
  refine own_iinc 34 #[oI x0, oA w_ALL, oI (22 : Int32), oI (3 : Int32), oA w_GET_SERVICE] X53 hx hby d2_31 rfl rfl rfl ?_
  refine own_goto 9 X53 hx hby d2_34 (by decide) (by decide) ?_
  refine own_iload_n 10 X53 hx hby d2_9 rfl rfl ?_
  refine own_iload_n 11 X53 hx hby d2_10 rfl rfl ?_
  refine own_icN 14 X53 hx hby d2_11 rfl (by decide) ?_
  refine own_aload_n 15 X53 hx hby d2_14 rfl rfl rfl ?_
  refine own_iload_n 16 X53 hx hby d2_15 rfl rfl ?_
  refine own_aaload 17 (.ref w_LIST_SERVICES) X53 hx hby hZ e53 (W.2.2.2.2.2.2.2.2.2.2.2.2.2.2.2.2.2.2.2.2.2.2.2.2.2.2.2.2.2.2.2.2.2.2.2.2.2.2.2.2.2.2.2.2.2.2.2.2.2.2.2.2.2.2.2.2.2.2.2.2.2.2.2.2.2.2.2.ext O0.2) rfl d2_16 rfl (by decide) rfl ?_
  refine own_astore 19 #[oI x0, oA w_ALL, oI (22 : Int32), oI (3 : Int32), oA w_LIST_SERVICES] X53 hx hby d2_17 rfl rfl rfl ?_
  refine own_aload 21 X53 hx hby d2_19 rfl rfl rfl ?_
  refine own_getF 24 X53 hx hby hZ hown (own_w hw 11 rfl) e53 (W.2.2.2.2.2.2.2.2.2.2.2.2.2.2.2.2.2.2.2.2.2.2.2.2.2.2.2.2.2.2.2.2.2.2.2.2.2.2.2.2.2.2.2.2.2.2.2.2.1.ext O0.2) d2_21 rfl ?_
  intro T55 X55 e55
  refine own_iload_n 25 X55 hx hby d2_24 rfl rfl ?_
  refine own_icY 31 X55 hx hby d2_25 (by decide) (by decide) (feq hc56).2 ?_
  refine own_iinc 34 #[oI x0, oA w_ALL, oI (22 : Int32), oI (4 : Int32), oA w_LIST_SERVICES] X55 hx hby d2_31 rfl rfl rfl ?_
  refine own_goto 9 X55 hx hby d2_34 (by decide) (by decide) ?_
  refine own_iload_n 10 X55 hx hby d2_9 rfl rfl ?_
  refine own_iload_n 11 X55 hx hby d2_10 rfl rfl ?_
  refine own_icN 14 X55 hx hby d2_11 rfl (by decide) ?_
  refine own_aload_n 15 X55 hx hby d2_14 rfl rfl rfl ?_
  refine own_iload_n 16 X55 hx hby d2_15 rfl rfl ?_
  refine own_aaload 17 (.ref w_TRANSLATE) X55 hx hby hZ e55 (W.2.2.2.2.2.2.2.2.2.2.2.2.2.2.2.2.2.2.2.2.2.2.2.2.2.2.2.2.2.2.2.2.2.2.2.2.2.2.2.2.2.2.2.2.2.2.2.2.2.2.2.2.2.2.2.2.2.2.2.2.2.2.2.2.2.2.2.ext O0.2) rfl d2_16 rfl (by decide) rfl ?_
  refine own_astore 19 #[oI x0, oA w_ALL, oI (22 : Int32), oI (4 : Int32), oA w_TRANSLATE] X55 hx hby d2_17 rfl rfl rfl ?_
  refine own_aload 21 X55 hx hby d2_19 rfl rfl rfl ?_
  refine own_getF 24 X55 hx hby hZ hown (own_w hw 11 rfl) e55 (W.2.2.2.2.2.2.2.2.2.2.2.2.2.2.2.2.2.2.2.2.2.2.2.2.2.2.2.2.2.2.2.2.2.2.2.2.2.2.2.2.2.2.2.2.2.2.2.2.2.1.ext O0.2) d2_21 rfl ?_
  intro T57 X57 e57
  refine own_iload_n 25 X57 hx hby d2_24 rfl rfl ?_
  refine own_icY 31 X57 hx hby d2_25 (by decide) (by decide) (feq hc58).2 ?_
  refine own_iinc 34 #[oI x0, oA w_ALL, oI (22 : Int32), oI (5 : Int32), oA w_TRANSLATE] X57 hx hby d2_31 rfl rfl rfl ?_
  refine own_goto 9 X57 hx hby d2_34 (by decide) (by decide) ?_
  refine own_iload_n 10 X57 hx hby d2_9 rfl rfl ?_
  refine own_iload_n 11 X57 hx hby d2_10 rfl rfl ?_
  refine own_icN 14 X57 hx hby d2_11 rfl (by decide) ?_
  refine own_aload_n 15 X57 hx hby d2_14 rfl rfl rfl ?_
  refine own_iload_n 16 X57 hx hby d2_15 rfl rfl ?_
  refine own_aaload 17 (.ref w_RESOLVE) X57 hx hby hZ e57 (W.2.2.2.2.2.2.2.2.2.2.2.2.2.2.2.2.2.2.2.2.2.2.2.2.2.2.2.2.2.2.2.2.2.2.2.2.2.2.2.2.2.2.2.2.2.2.2.2.2.2.2.2.2.2.2.2.2.2.2.2.2.2.2.2.2.2.2.ext O0.2) rfl d2_16 rfl (by decide) rfl ?_
  refine own_astore 19 #[oI x0, oA w_ALL, oI (22 : Int32), oI (5 : Int32), oA w_RESOLVE] X57 hx hby d2_17 rfl rfl rfl ?_
  refine own_aload 21 X57 hx hby d2_19 rfl rfl rfl ?_
  refine own_getF 24 X57 hx hby hZ hown (own_w hw 11 rfl) e57 (W.2.2.2.2.2.2.2.2.2.2.2.2.2.2.2.2.2.2.2.2.2.2.2.2.2.2.2.2.2.2.2.2.2.2.2.2.2.2.2.2.2.2.2.2.2.2.2.2.2.2.1.ext O0.2) d2_21 rfl ?_
  intro T59 X59 e59
  refine own_iload_n 25 X59 hx hby d2_24 rfl rfl ?_
  refine own_icY 31 X59 hx hby d2_25 (by decide) (by decide) (feq hc60).2 ?_
  refine own_iinc 34 #[oI x0, oA w_ALL, oI (22 : Int32), oI (6 : Int32), oA w_RESOLVE] X59 hx hby d2_31 rfl rfl rfl ?_
  refine own_goto 9 X59 hx hby d2_34 (by decide) (by decide) ?_
  refine own_iload_n 10 X59 hx hby d2_9 rfl rfl ?_
  refine own_iload_n 11 X59 hx hby d2_10 rfl rfl ?_
  refine own_icN 14 X59 hx hby d2_11 rfl (by decide) ?_
  refine own_aload_n 15 X59 hx hby d2_14 rfl rfl rfl ?_
  refine own_iload_n 16 X59 hx hby d2_15 rfl rfl ?_
  refine own_aaload 17 (.ref w_RELEASE) X59 hx hby hZ e59 (W.2.2.2.2.2.2.2.2.2.2.2.2.2.2.2.2.2.2.2.2.2.2.2.2.2.2.2.2.2.2.2.2.2.2.2.2.2.2.2.2.2.2.2.2.2.2.2.2.2.2.2.2.2.2.2.2.2.2.2.2.2.2.2.2.2.2.2.ext O0.2) rfl d2_16 rfl (by decide) rfl ?_
  refine own_astore 19 #[oI x0, oA w_ALL, oI (22 : Int32), oI (6 : Int32), oA w_RELEASE] X59 hx hby d2_17 rfl rfl rfl ?_
  refine own_aload 21 X59 hx hby d2_19 rfl rfl rfl ?_
  refine own_getF 24 X59 hx hby hZ hown (own_w hw 11 rfl) e59 (W.2.2.2.2.2.2.2.2.2.2.2.2.2.2.2.2.2.2.2.2.2.2.2.2.2.2.2.2.2.2.2.2.2.2.2.2.2.2.2.2.2.2.2.2.2.2.2.2.2.2.2.1.ext O0.2) d2_21 rfl ?_
  intro T61 X61 e61
  refine own_iload_n 25 X61 hx hby d2_24 rfl rfl ?_
  refine own_icY 31 X61 hx hby d2_25 (by decide) (by decide) (feq hc62).2 ?_
  refine own_iinc 34 #[oI x0, oA w_ALL, oI (22 : Int32), oI (7 : Int32), oA w_RELEASE] X61 hx hby d2_31 rfl rfl rfl ?_
  refine own_goto 9 X61 hx hby d2_34 (by decide) (by decide) ?_
  refine own_iload_n 10 X61 hx hby d2_9 rfl rfl ?_
  refine own_iload_n 11 X61 hx hby d2_10 rfl rfl ?_
  refine own_icN 14 X61 hx hby d2_11 rfl (by decide) ?_
  refine own_aload_n 15 X61 hx hby d2_14 rfl rfl rfl ?_
  refine own_iload_n 16 X61 hx hby d2_15 rfl rfl ?_
  refine own_aaload 17 (.ref w_STATUS) X61 hx hby hZ e61 (W.2.2.2.2.2.2.2.2.2.2.2.2.2.2.2.2.2.2.2.2.2.2.2.2.2.2.2.2.2.2.2.2.2.2.2.2.2.2.2.2.2.2.2.2.2.2.2.2.2.2.2.2.2.2.2.2.2.2.2.2.2.2.2.2.2.2.2.ext O0.2) rfl d2_16 rfl (by decide) rfl ?_
  refine own_astore 19 #[oI x0, oA w_ALL, oI (22 : Int32), oI (7 : Int32), oA w_STATUS] X61 hx hby d2_17 rfl rfl rfl ?_
  refine own_aload 21 X61 hx hby d2_19 rfl rfl rfl ?_
  refine own_getF 24 X61 hx hby hZ hown (own_w hw 11 rfl) e61 (W.2.2.2.2.2.2.2.2.2.2.2.2.2.2.2.2.2.2.2.2.2.2.2.2.2.2.2.2.2.2.2.2.2.2.2.2.2.2.2.2.2.2.2.2.2.2.2.2.2.2.2.2.1.ext O0.2) d2_21 rfl ?_
  intro T63 X63 e63
  refine own_iload_n 25 X63 hx hby d2_24 rfl rfl ?_
  refine own_icY 31 X63 hx hby d2_25 (by decide) (by decide) (feq hc64).2 ?_
  refine own_iinc 34 #[oI x0, oA w_ALL, oI (22 : Int32), oI (8 : Int32), oA w_STATUS] X63 hx hby d2_31 rfl rfl rfl ?_
  refine own_goto 9 X63 hx hby d2_34 (by decide) (by decide) ?_
  refine own_iload_n 10 X63 hx hby d2_9 rfl rfl ?_
  refine own_iload_n 11 X63 hx hby d2_10 rfl rfl ?_
  refine own_icN 14 X63 hx hby d2_11 rfl (by decide) ?_
  refine own_aload_n 15 X63 hx hby d2_14 rfl rfl rfl ?_
  refine own_iload_n 16 X63 hx hby d2_15 rfl rfl ?_
  refine own_aaload 17 (.ref w_WAITING) X63 hx hby hZ e63 (W.2.2.2.2.2.2.2.2.2.2.2.2.2.2.2.2.2.2.2.2.2.2.2.2.2.2.2.2.2.2.2.2.2.2.2.2.2.2.2.2.2.2.2.2.2.2.2.2.2.2.2.2.2.2.2.2.2.2.2.2.2.2.2.2.2.2.2.ext O0.2) rfl d2_16 rfl (by decide) rfl ?_
  refine own_astore 19 #[oI x0, oA w_ALL, oI (22 : Int32), oI (8 : Int32), oA w_WAITING] X63 hx hby d2_17 rfl rfl rfl ?_
  refine own_aload 21 X63 hx hby d2_19 rfl rfl rfl ?_
  refine own_getF 24 X63 hx hby hZ hown (own_w hw 11 rfl) e63 (W.2.2.2.2.2.2.2.2.2.2.2.2.2.2.2.2.2.2.2.2.2.2.2.2.2.2.2.2.2.2.2.2.2.2.2.2.2.2.2.2.2.2.2.2.2.2.2.2.2.2.2.2.2.1.ext O0.2) d2_21 rfl ?_
  intro T65 X65 e65
  refine own_iload_n 25 X65 hx hby d2_24 rfl rfl ?_
  refine own_icY 31 X65 hx hby d2_25 (by decide) (by decide) (feq hc66).2 ?_
  refine own_iinc 34 #[oI x0, oA w_ALL, oI (22 : Int32), oI (9 : Int32), oA w_WAITING] X65 hx hby d2_31 rfl rfl rfl ?_
  refine own_goto 9 X65 hx hby d2_34 (by decide) (by decide) ?_
  refine own_iload_n 10 X65 hx hby d2_9 rfl rfl ?_
  refine own_iload_n 11 X65 hx hby d2_10 rfl rfl ?_
  refine own_icN 14 X65 hx hby d2_11 rfl (by decide) ?_
  refine own_aload_n 15 X65 hx hby d2_14 rfl rfl rfl ?_
  refine own_iload_n 16 X65 hx hby d2_15 rfl rfl ?_
  refine own_aaload 17 (.ref w_WATCH) X65 hx hby hZ e65 (W.2.2.2.2.2.2.2.2.2.2.2.2.2.2.2.2.2.2.2.2.2.2.2.2.2.2.2.2.2.2.2.2.2.2.2.2.2.2.2.2.2.2.2.2.2.2.2.2.2.2.2.2.2.2.2.2.2.2.2.2.2.2.2.2.2.2.2.ext O0.2) rfl d2_16 rfl (by decide) rfl ?_
  refine own_astore 19 #[oI x0, oA w_ALL, oI (22 : Int32), oI (9 : Int32), oA w_WATCH] X65 hx hby d2_17 rfl rfl rfl ?_
  refine own_aload 21 X65 hx hby d2_19 rfl rfl rfl ?_
  refine own_getF 24 X65 hx hby hZ hown (own_w hw 11 rfl) e65 (W.2.2.2.2.2.2.2.2.2.2.2.2.2.2.2.2.2.2.2.2.2.2.2.2.2.2.2.2.2.2.2.2.2.2.2.2.2.2.2.2.2.2.2.2.2.2.2.2.2.2.2.2.2.2.1.ext O0.2) d2_21 rfl ?_
  intro T67 X67 e67
  refine own_iload_n 25 X67 hx hby d2_24 rfl rfl ?_
  refine own_icY 31 X67 hx hby d2_25 (by decide) (by decide) (feq hc68).2 ?_
  refine own_iinc 34 #[oI x0, oA w_ALL, oI (22 : Int32), oI (10 : Int32), oA w_WATCH] X67 hx hby d2_31 rfl rfl rfl ?_
  refine own_goto 9 X67 hx hby d2_34 (by decide) (by decide) ?_
  refine own_iload_n 10 X67 hx hby d2_9 rfl rfl ?_
  refine own_iload_n 11 X67 hx hby d2_10 rfl rfl ?_
  refine own_icN 14 X67 hx hby d2_11 rfl (by decide) ?_
  refine own_aload_n 15 X67 hx hby d2_14 rfl rfl rfl ?_
  refine own_iload_n 16 X67 hx hby d2_15 rfl rfl ?_
  refine own_aaload 17 (.ref w_ACQUIRE) X67 hx hby hZ e67 (W.2.2.2.2.2.2.2.2.2.2.2.2.2.2.2.2.2.2.2.2.2.2.2.2.2.2.2.2.2.2.2.2.2.2.2.2.2.2.2.2.2.2.2.2.2.2.2.2.2.2.2.2.2.2.2.2.2.2.2.2.2.2.2.2.2.2.2.ext O0.2) rfl d2_16 rfl (by decide) rfl ?_
  refine own_astore 19 #[oI x0, oA w_ALL, oI (22 : Int32), oI (10 : Int32), oA w_ACQUIRE] X67 hx hby d2_17 rfl rfl rfl ?_
  refine own_aload 21 X67 hx hby d2_19 rfl rfl rfl ?_
  refine own_getF 24 X67 hx hby hZ hown (own_w hw 11 rfl) e67 (W.2.2.2.2.2.2.2.2.2.2.2.2.2.2.2.2.2.2.2.2.2.2.2.2.2.2.2.2.2.2.2.2.2.2.2.2.2.2.2.2.2.2.2.2.2.2.2.2.2.2.2.2.2.2.2.1.ext O0.2) d2_21 rfl ?_
  intro T69 X69 e69
  refine own_iload_n 25 X69 hx hby d2_24 rfl rfl ?_
  refine own_icN 28 X69 hx hby d2_25 rfl (teq hc70).2 ?_
  refine own_aload 30 X69 hx hby d2_28 rfl rfl rfl ?_
  exact own_ret (Q := own_Q _ n0 h0) X69 hx hby hret hlk d2_30 rfl (Or.inr (Or.inr (Or.inr (Or.inr ⟨rfl, rfl, rfl⟩)))) (by decide) (by decide) ⟨rfl, N0, e69⟩
set_option maxRecDepth 65536 in
set_option maxHeartbeats 40000000 in
theorem rm2_12 (l : Launch) (Z : State) (a0 : Array Value) (hw : ∀ d ∈ tables_1, d.before a0 Z = true) (ws : List Jvm.Cond) (w_HELLO w_ADD_SERVICE w_GET_SERVICE w_LIST_SERVICES w_TRANSLATE w_RESOLVE w_RELEASE w_STATUS w_WAITING w_WATCH w_ACQUIRE w_RETIRE w_RESULT w_FAILURE w_DEAD w_COUNT_WAITING w_CLOSING w_UNHELD w_OPEN w_TRANSACTION w_REPLY w_KNOCK w_ALL k_ALL : Addr) (W : own_W Z w_HELLO w_ADD_SERVICE w_GET_SERVICE w_LIST_SERVICES w_TRANSLATE w_RESOLVE w_RELEASE w_STATUS w_WAITING w_WATCH w_ACQUIRE w_RETIRE w_RESULT w_FAILURE w_DEAD w_COUNT_WAITING w_CLOSING w_UNHELD w_OPEN w_TRANSACTION w_REPLY w_KNOCK w_ALL k_ALL) (x0 : Int32) (h0 : Heap) (n0 : Nat) (O0 : Old Z n0 h0) (hc50 : ¬ ((1 : Int32) = x0)) (hc52 : ¬ ((2 : Int32) = x0)) (hc54 : ¬ ((3 : Int32) = x0)) (hc56 : ¬ ((4 : Int32) = x0)) (hc58 : ¬ ((5 : Int32) = x0)) (hc60 : ¬ ((6 : Int32) = x0)) (hc62 : ¬ ((7 : Int32) = x0)) (hc64 : ¬ ((8 : Int32) = x0)) (hc66 : ¬ ((9 : Int32) = x0)) (hc68 : ¬ ((10 : Int32) = x0)) (hc70 : ¬ ((11 : Int32) = x0)) (hc72 : (12 : Int32) = x0) :
    MetFree l (⟨"com/example/hop1/hop1/protocol/FrameKind", "of", "(I)Lcom/example/hop1/hop1/protocol/FrameKind;"⟩ : MethodName) (head1 (Jvm.Cond.code (⟨"com/example/hop1/hop1/protocol/FrameKind", "of", "(I)Lcom/example/hop1/hop1/protocol/FrameKind;"⟩ : MethodName) prog_113_method_5_code 5 (some (.object "com/example/hop1/hop1/protocol/FrameKind")) :: ws) ({ frames := 0, cells := 0, slots := 0, locals := 0 } : Room)) (fun a U => a = #[(.int x0)] ∧ Z.Warmed39 U.vm ∧ U.heap = h0) (fun _ _ _ _ _ => True) (fun _ U o U' => ∃ v L, o = .returned v ∧ own_Q (some (.ref w_RETIRE)) n0 h0 v U'.heap L ∧ FrameEnd U o U' L ({ frames := 0, cells := 0, slots := 0, locals := 0 } : Room).cells ({ frames := 0, cells := 0, slots := 0, locals := 0 } : Room).slots) := by
  refine MetFree.of_bodySF (plainFor_of_name pn_1) hisR ?_
  intro p e s m args below meth c s₁ Bd hml0 hP hK
  obtain ⟨rfl, hZ, hh⟩ := hP
  have hx := Bd.exec
  have hby := Bd.bytes
  have hml : c.maxLocals = 5 := hml0
  have hlk := BodyLoose.notSynchronized Bd
  have hret := Bd.returns
  have hown : s.vm.findClass "com/example/hop1/hop1/protocol/FrameKind" = some m.cls := findClass_of_methodNamed Bd.named
  have hnm := (name_of_methodNamed Bd.named Bd.method).1
  have X0 : Stand p l e ({ frames := 0, cells := 0, slots := 0, locals := 0 } : Room) s m #[(.int x0)] below meth c s₁ [] 0 0 := Stand.of_body Bd
  have e0 : s₁.heap = h0 := by rw [← hh, Bd.state]; rfl
  have N0 := Fr.nil n0
  rw [ef_2 m x0]
  show Go p e below _ (s₁.setTop (mkF m 0 #[oI x0, oU, oU, oU, oU] []))
  refine own_getS 3 X0 hx hby hZ hown (own_w hw 8 rfl) e0 (W.2.2.2.2.2.2.2.2.2.2.2.2.2.2.2.2.2.2.2.2.2.2.2.2.2.2.2.2.2.2.2.2.2.2.2.2.2.2.2.2.2.2.2.2.1.ext O0.2) d2_0 rfl ?_
  intro T48 X48 e48
  refine own_astore_n 4 #[oI x0, oA w_ALL, oU, oU, oU] X48 hx hby d2_3 rfl rfl rfl ?_
  refine own_aload_n 5 X48 hx hby d2_4 rfl rfl rfl ?_
  refine own_len 6 X48 hx hby hZ e48 (W.2.2.2.2.2.2.2.2.2.2.2.2.2.2.2.2.2.2.2.2.2.2.2.2.2.2.2.2.2.2.2.2.2.2.2.2.2.2.2.2.2.2.2.2.2.2.2.2.2.2.2.2.2.2.2.2.2.2.2.2.2.2.2.2.2.2.2.ext O0.2) d2_5 rfl ?_
  refine own_istore_n 7 #[oI x0, oA w_ALL, oI (22 : Int32), oU, oU] X48 hx hby d2_6 rfl rfl ?_
  refine own_iconst 8 (0 : Int32) X48 hx hby d2_7 rfl (by decide) ?_
  refine own_istore_n 9 #[oI x0, oA w_ALL, oI (22 : Int32), oI (0 : Int32), oU] X48 hx hby d2_8 rfl rfl ?_
  refine own_iload_n 10 X48 hx hby d2_9 rfl rfl ?_
  refine own_iload_n 11 X48 hx hby d2_10 rfl rfl ?_
  refine own_icN 14 X48 hx hby d2_11 rfl (by decide) ?_
  refine own_aload_n 15 X48 hx hby d2_14 rfl rfl rfl ?_
  refine own_iload_n 16 X48 hx hby d2_15 rfl rfl ?_
  refine own_aaload 17 (.ref w_HELLO) X48 hx hby hZ e48 (W.2.2.2.2.2.2.2.2.2.2.2.2.2.2.2.2.2.2.2.2.2.2.2.2.2.2.2.2.2.2.2.2.2.2.2.2.2.2.2.2.2.2.2.2.2.2.2.2.2.2.2.2.2.2.2.2.2.2.2.2.2.2.2.2.2.2.2.ext O0.2) rfl d2_16 rfl (by decide) rfl ?_
  refine own_astore 19 #[oI x0, oA w_ALL, oI (22 : Int32), oI (0 : Int32), oA w_HELLO] X48 hx hby d2_17 rfl rfl rfl ?_
  refine own_aload 21 X48 hx hby d2_19 rfl rfl rfl ?_
  refine own_getF 24 X48 hx hby hZ hown (own_w hw 11 rfl) e48 (W.2.2.2.2.2.2.2.2.2.2.2.2.2.2.2.2.2.2.2.2.2.2.2.2.2.2.2.2.2.2.2.2.2.2.2.2.2.2.2.2.2.2.2.2.2.1.ext O0.2) d2_21 rfl ?_
  intro T49 X49 e49
  refine own_iload_n 25 X49 hx hby d2_24 rfl rfl ?_
  refine own_icY 31 X49 hx hby d2_25 (by decide) (by decide) (feq hc50).2 ?_
  refine own_iinc 34 #[oI x0, oA w_ALL, oI (22 : Int32), oI (1 : Int32), oA w_HELLO] X49 hx hby d2_31 rfl rfl rfl ?_
  refine own_goto 9 X49 hx hby d2_34 (by decide) (by decide) ?_
  refine own_iload_n 10 X49 hx hby d2_9 rfl rfl ?_
  refine own_iload_n 11 X49 hx hby d2_10 rfl rfl ?_
  refine own_icN 14 X49 hx hby d2_11 rfl (by decide) ?_
  refine own_aload_n 15 X49 hx hby d2_14 rfl rfl rfl ?_
  refine own_iload_n 16 X49 hx hby d2_15 rfl rfl ?_
  refine own_aaload 17 (.ref w_ADD_SERVICE) X49 hx hby hZ e49 (W.2.2.2.2.2.2.2.2.2.2.2.2.2.2.2.2.2.2.2.2.2.2.2.2.2.2.2.2.2.2.2.2.2.2.2.2.2.2.2.2.2.2.2.2.2.2.2.2.2.2.2.2.2.2.2.2.2.2.2.2.2.2.2.2.2.2.2.ext O0.2) rfl d2_16 rfl (by decide) rfl ?_
  refine own_astore 19 #[oI x0, oA w_ALL, oI (22 : Int32), oI (1 : Int32), oA w_ADD_SERVICE] X49 hx hby d2_17 rfl rfl rfl ?_
  refine own_aload 21 X49 hx hby d2_19 rfl rfl rfl ?_
  refine own_getF 24 X49 hx hby hZ hown (own_w hw 11 rfl) e49 (W.2.2.2.2.2.2.2.2.2.2.2.2.2.2.2.2.2.2.2.2.2.2.2.2.2.2.2.2.2.2.2.2.2.2.2.2.2.2.2.2.2.2.2.2.2.2.1.ext O0.2) d2_21 rfl ?_
  intro T51 X51 e51
  refine own_iload_n 25 X51 hx hby d2_24 rfl rfl ?_
  refine own_icY 31 X51 hx hby d2_25 (by decide) (by decide) (feq hc52).2 ?_
  refine own_iinc 34 #[oI x0, oA w_ALL, oI (22 : Int32), oI (2 : Int32), oA w_ADD_SERVICE] X51 hx hby d2_31 rfl rfl rfl ?_
  refine own_goto 9 X51 hx hby d2_34 (by decide) (by decide) ?_
  refine own_iload_n 10 X51 hx hby d2_9 rfl rfl ?_
  refine own_iload_n 11 X51 hx hby d2_10 rfl rfl ?_
  refine own_icN 14 X51 hx hby d2_11 rfl (by decide) ?_
  refine own_aload_n 15 X51 hx hby d2_14 rfl rfl rfl ?_
  refine own_iload_n 16 X51 hx hby d2_15 rfl rfl ?_
  refine own_aaload 17 (.ref w_GET_SERVICE) X51 hx hby hZ e51 (W.2.2.2.2.2.2.2.2.2.2.2.2.2.2.2.2.2.2.2.2.2.2.2.2.2.2.2.2.2.2.2.2.2.2.2.2.2.2.2.2.2.2.2.2.2.2.2.2.2.2.2.2.2.2.2.2.2.2.2.2.2.2.2.2.2.2.2.ext O0.2) rfl d2_16 rfl (by decide) rfl ?_
  refine own_astore 19 #[oI x0, oA w_ALL, oI (22 : Int32), oI (2 : Int32), oA w_GET_SERVICE] X51 hx hby d2_17 rfl rfl rfl ?_
  refine own_aload 21 X51 hx hby d2_19 rfl rfl rfl ?_
  refine own_getF 24 X51 hx hby hZ hown (own_w hw 11 rfl) e51 (W.2.2.2.2.2.2.2.2.2.2.2.2.2.2.2.2.2.2.2.2.2.2.2.2.2.2.2.2.2.2.2.2.2.2.2.2.2.2.2.2.2.2.2.2.2.2.2.1.ext O0.2) d2_21 rfl ?_
  intro T53 X53 e53
  refine own_iload_n 25 X53 hx hby d2_24 rfl rfl ?_
  refine own_icY 31 X53 hx hby d2_25 (by decide) (by decide) (feq hc54).2 ?_
  refine own_iinc 34 #[oI x0, oA w_ALL, oI (22 : Int32), oI (3 : Int32), oA w_GET_SERVICE] X53 hx hby d2_31 rfl rfl rfl ?_
  refine own_goto 9 X53 hx hby d2_34 (by decide) (by decide) ?_
  refine own_iload_n 10 X53 hx hby d2_9 rfl rfl ?_
  refine own_iload_n 11 X53 hx hby d2_10 rfl rfl ?_
  refine own_icN 14 X53 hx hby d2_11 rfl (by decide) ?_
  refine own_aload_n 15 X53 hx hby d2_14 rfl rfl rfl ?_
  refine own_iload_n 16 X53 hx hby d2_15 rfl rfl ?_
  refine own_aaload 17 (.ref w_LIST_SERVICES) X53 hx hby hZ e53 (W.2.2.2.2.2.2.2.2.2.2.2.2.2.2.2.2.2.2.2.2.2.2.2.2.2.2.2.2.2.2.2.2.2.2.2.2.2.2.2.2.2.2.2.2.2.2.2.2.2.2.2.2.2.2.2.2.2.2.2.2.2.2.2.2.2.2.2.ext O0.2) rfl d2_16 rfl (by decide) rfl ?_
  refine own_astore 19 #[oI x0, oA w_ALL, oI (22 : Int32), oI (3 : Int32), oA w_LIST_SERVICES] X53 hx hby d2_17 rfl rfl rfl ?_
  refine own_aload 21 X53 hx hby d2_19 rfl rfl rfl ?_
  refine own_getF 24 X53 hx hby hZ hown (own_w hw 11 rfl) e53 (W.2.2.2.2.2.2.2.2.2.2.2.2.2.2.2.2.2.2.2.2.2.2.2.2.2.2.2.2.2.2.2.2.2.2.2.2.2.2.2.2.2.2.2.2.2.2.2.2.1.ext O0.2) d2_21 rfl ?_
  intro T55 X55 e55
  refine own_iload_n 25 X55 hx hby d2_24 rfl rfl ?_
  refine own_icY 31 X55 hx hby d2_25 (by decide) (by decide) (feq hc56).2 ?_
  refine own_iinc 34 #[oI x0, oA w_ALL, oI (22 : Int32), oI (4 : Int32), oA w_LIST_SERVICES] X55 hx hby d2_31 rfl rfl rfl ?_
  refine own_goto 9 X55 hx hby d2_34 (by decide) (by decide) ?_
  refine own_iload_n 10 X55 hx hby d2_9 rfl rfl ?_
  refine own_iload_n 11 X55 hx hby d2_10 rfl rfl ?_
  refine own_icN 14 X55 hx hby d2_11 rfl (by decide) ?_
  refine own_aload_n 15 X55 hx hby d2_14 rfl rfl rfl ?_
  refine own_iload_n 16 X55 hx hby d2_15 rfl rfl ?_
  refine own_aaload 17 (.ref w_TRANSLATE) X55 hx hby hZ e55 (W.2.2.2.2.2.2.2.2.2.2.2.2.2.2.2.2.2.2.2.2.2.2.2.2.2.2.2.2.2.2.2.2.2.2.2.2.2.2.2.2.2.2.2.2.2.2.2.2.2.2.2.2.2.2.2.2.2.2.2.2.2.2.2.2.2.2.2.ext O0.2) rfl d2_16 rfl (by decide) rfl ?_
  refine own_astore 19 #[oI x0, oA w_ALL, oI (22 : Int32), oI (4 : Int32), oA w_TRANSLATE] X55 hx hby d2_17 rfl rfl rfl ?_
  refine own_aload 21 X55 hx hby d2_19 rfl rfl rfl ?_
  refine own_getF 24 X55 hx hby hZ hown (own_w hw 11 rfl) e55 (W.2.2.2.2.2.2.2.2.2.2.2.2.2.2.2.2.2.2.2.2.2.2.2.2.2.2.2.2.2.2.2.2.2.2.2.2.2.2.2.2.2.2.2.2.2.2.2.2.2.1.ext O0.2) d2_21 rfl ?_
  intro T57 X57 e57
  refine own_iload_n 25 X57 hx hby d2_24 rfl rfl ?_
  refine own_icY 31 X57 hx hby d2_25 (by decide) (by decide) (feq hc58).2 ?_
  refine own_iinc 34 #[oI x0, oA w_ALL, oI (22 : Int32), oI (5 : Int32), oA w_TRANSLATE] X57 hx hby d2_31 rfl rfl rfl ?_
  refine own_goto 9 X57 hx hby d2_34 (by decide) (by decide) ?_
  refine own_iload_n 10 X57 hx hby d2_9 rfl rfl ?_
  refine own_iload_n 11 X57 hx hby d2_10 rfl rfl ?_
  refine own_icN 14 X57 hx hby d2_11 rfl (by decide) ?_
  refine own_aload_n 15 X57 hx hby d2_14 rfl rfl rfl ?_
  refine own_iload_n 16 X57 hx hby d2_15 rfl rfl ?_
  refine own_aaload 17 (.ref w_RESOLVE) X57 hx hby hZ e57 (W.2.2.2.2.2.2.2.2.2.2.2.2.2.2.2.2.2.2.2.2.2.2.2.2.2.2.2.2.2.2.2.2.2.2.2.2.2.2.2.2.2.2.2.2.2.2.2.2.2.2.2.2.2.2.2.2.2.2.2.2.2.2.2.2.2.2.2.ext O0.2) rfl d2_16 rfl (by decide) rfl ?_
  refine own_astore 19 #[oI x0, oA w_ALL, oI (22 : Int32), oI (5 : Int32), oA w_RESOLVE] X57 hx hby d2_17 rfl rfl rfl ?_
  refine own_aload 21 X57 hx hby d2_19 rfl rfl rfl ?_
  refine own_getF 24 X57 hx hby hZ hown (own_w hw 11 rfl) e57 (W.2.2.2.2.2.2.2.2.2.2.2.2.2.2.2.2.2.2.2.2.2.2.2.2.2.2.2.2.2.2.2.2.2.2.2.2.2.2.2.2.2.2.2.2.2.2.2.2.2.2.1.ext O0.2) d2_21 rfl ?_
  intro T59 X59 e59
  refine own_iload_n 25 X59 hx hby d2_24 rfl rfl ?_
  refine own_icY 31 X59 hx hby d2_25 (by decide) (by decide) (feq hc60).2 ?_
  refine own_iinc 34 #[oI x0, oA w_ALL, oI (22 : Int32), oI (6 : Int32), oA w_RESOLVE] X59 hx hby d2_31 rfl rfl rfl ?_
  refine own_goto 9 X59 hx hby d2_34 (by decide) (by decide) ?_
  refine own_iload_n 10 X59 hx hby d2_9 rfl rfl ?_
  refine own_iload_n 11 X59 hx hby d2_10 rfl rfl ?_
  refine own_icN 14 X59 hx hby d2_11 rfl (by decide) ?_
  refine own_aload_n 15 X59 hx hby d2_14 rfl rfl rfl ?_
  refine own_iload_n 16 X59 hx hby d2_15 rfl rfl ?_
  refine own_aaload 17 (.ref w_RELEASE) X59 hx hby hZ e59 (W.2.2.2.2.2.2.2.2.2.2.2.2.2.2.2.2.2.2.2.2.2.2.2.2.2.2.2.2.2.2.2.2.2.2.2.2.2.2.2.2.2.2.2.2.2.2.2.2.2.2.2.2.2.2.2.2.2.2.2.2.2.2.2.2.2.2.2.ext O0.2) rfl d2_16 rfl (by decide) rfl ?_
  refine own_astore 19 #[oI x0, oA w_ALL, oI (22 : Int32), oI (6 : Int32), oA w_RELEASE] X59 hx hby d2_17 rfl rfl rfl ?_
  refine own_aload 21 X59 hx hby d2_19 rfl rfl rfl ?_
  refine own_getF 24 X59 hx hby hZ hown (own_w hw 11 rfl) e59 (W.2.2.2.2.2.2.2.2.2.2.2.2.2.2.2.2.2.2.2.2.2.2.2.2.2.2.2.2.2.2.2.2.2.2.2.2.2.2.2.2.2.2.2.2.2.2.2.2.2.2.2.1.ext O0.2) d2_21 rfl ?_
  intro T61 X61 e61
  refine own_iload_n 25 X61 hx hby d2_24 rfl rfl ?_
  refine own_icY 31 X61 hx hby d2_25 (by decide) (by decide) (feq hc62).2 ?_
  refine own_iinc 34 #[oI x0, oA w_ALL, oI (22 : Int32), oI (7 : Int32), oA w_RELEASE] X61 hx hby d2_31 rfl rfl rfl ?_
  refine own_goto 9 X61 hx hby d2_34 (by decide) (by decide) ?_
  refine own_iload_n 10 X61 hx hby d2_9 rfl rfl ?_
  refine own_iload_n 11 X61 hx hby d2_10 rfl rfl ?_
  refine own_icN 14 X61 hx hby d2_11 rfl (by decide) ?_
  refine own_aload_n 15 X61 hx hby d2_14 rfl rfl rfl ?_
  refine own_iload_n 16 X61 hx hby d2_15 rfl rfl ?_
  refine own_aaload 17 (.ref w_STATUS) X61 hx hby hZ e61 (W.2.2.2.2.2.2.2.2.2.2.2.2.2.2.2.2.2.2.2.2.2.2.2.2.2.2.2.2.2.2.2.2.2.2.2.2.2.2.2.2.2.2.2.2.2.2.2.2.2.2.2.2.2.2.2.2.2.2.2.2.2.2.2.2.2.2.2.ext O0.2) rfl d2_16 rfl (by decide) rfl ?_
  refine own_astore 19 #[oI x0, oA w_ALL, oI (22 : Int32), oI (7 : Int32), oA w_STATUS] X61 hx hby d2_17 rfl rfl rfl ?_
  refine own_aload 21 X61 hx hby d2_19 rfl rfl rfl ?_
  refine own_getF 24 X61 hx hby hZ hown (own_w hw 11 rfl) e61 (W.2.2.2.2.2.2.2.2.2.2.2.2.2.2.2.2.2.2.2.2.2.2.2.2.2.2.2.2.2.2.2.2.2.2.2.2.2.2.2.2.2.2.2.2.2.2.2.2.2.2.2.2.1.ext O0.2) d2_21 rfl ?_
  intro T63 X63 e63
  refine own_iload_n 25 X63 hx hby d2_24 rfl rfl ?_
  refine own_icY 31 X63 hx hby d2_25 (by decide) (by decide) (feq hc64).2 ?_
  refine own_iinc 34 #[oI x0, oA w_ALL, oI (22 : Int32), oI (8 : Int32), oA w_STATUS] X63 hx hby d2_31 rfl rfl rfl ?_
  refine own_goto 9 X63 hx hby d2_34 (by decide) (by decide) ?_
  refine own_iload_n 10 X63 hx hby d2_9 rfl rfl ?_
  refine own_iload_n 11 X63 hx hby d2_10 rfl rfl ?_
  refine own_icN 14 X63 hx hby d2_11 rfl (by decide) ?_
  refine own_aload_n 15 X63 hx hby d2_14 rfl rfl rfl ?_
  refine own_iload_n 16 X63 hx hby d2_15 rfl rfl ?_
  refine own_aaload 17 (.ref w_WAITING) X63 hx hby hZ e63 (W.2.2.2.2.2.2.2.2.2.2.2.2.2.2.2.2.2.2.2.2.2.2.2.2.2.2.2.2.2.2.2.2.2.2.2.2.2.2.2.2.2.2.2.2.2.2.2.2.2.2.2.2.2.2.2.2.2.2.2.2.2.2.2.2.2.2.2.ext O0.2) rfl d2_16 rfl (by decide) rfl ?_
  refine own_astore 19 #[oI x0, oA w_ALL, oI (22 : Int32), oI (8 : Int32), oA w_WAITING] X63 hx hby d2_17 rfl rfl rfl ?_
  refine own_aload 21 X63 hx hby d2_19 rfl rfl rfl ?_
  refine own_getF 24 X63 hx hby hZ hown (own_w hw 11 rfl) e63 (W.2.2.2.2.2.2.2.2.2.2.2.2.2.2.2.2.2.2.2.2.2.2.2.2.2.2.2.2.2.2.2.2.2.2.2.2.2.2.2.2.2.2.2.2.2.2.2.2.2.2.2.2.2.1.ext O0.2) d2_21 rfl ?_
  intro T65 X65 e65
  refine own_iload_n 25 X65 hx hby d2_24 rfl rfl ?_
  refine own_icY 31 X65 hx hby d2_25 (by decide) (by decide) (feq hc66).2 ?_
  refine own_iinc 34 #[oI x0, oA w_ALL, oI (22 : Int32), oI (9 : Int32), oA w_WAITING] X65 hx hby d2_31 rfl rfl rfl ?_
  refine own_goto 9 X65 hx hby d2_34 (by decide) (by decide) ?_
  refine own_iload_n 10 X65 hx hby d2_9 rfl rfl ?_
  refine own_iload_n 11 X65 hx hby d2_10 rfl rfl ?_
  refine own_icN 14 X65 hx hby d2_11 rfl (by decide) ?_
  refine own_aload_n 15 X65 hx hby d2_14 rfl rfl rfl ?_
  refine own_iload_n 16 X65 hx hby d2_15 rfl rfl ?_
  refine own_aaload 17 (.ref w_WATCH) X65 hx hby hZ e65 (W.2.2.2.2.2.2.2.2.2.2.2.2.2.2.2.2.2.2.2.2.2.2.2.2.2.2.2.2.2.2.2.2.2.2.2.2.2.2.2.2.2.2.2.2.2.2.2.2.2.2.2.2.2.2.2.2.2.2.2.2.2.2.2.2.2.2.2.ext O0.2) rfl d2_16 rfl (by decide) rfl ?_
  refine own_astore 19 #[oI x0, oA w_ALL, oI (22 : Int32), oI (9 : Int32), oA w_WATCH] X65 hx hby d2_17 rfl rfl rfl ?_
  refine own_aload 21 X65 hx hby d2_19 rfl rfl rfl ?_
  refine own_getF 24 X65 hx hby hZ hown (own_w hw 11 rfl) e65 (W.2.2.2.2.2.2.2.2.2.2.2.2.2.2.2.2.2.2.2.2.2.2.2.2.2.2.2.2.2.2.2.2.2.2.2.2.2.2.2.2.2.2.2.2.2.2.2.2.2.2.2.2.2.2.1.ext O0.2) d2_21 rfl ?_
  intro T67 X67 e67
  refine own_iload_n 25 X67 hx hby d2_24 rfl rfl ?_
  refine own_icY 31 X67 hx hby d2_25 (by decide) (by decide) (feq hc68).2 ?_
  refine own_iinc 34 #[oI x0, oA w_ALL, oI (22 : Int32), oI (10 : Int32), oA w_WATCH] X67 hx hby d2_31 rfl rfl rfl ?_
  refine own_goto 9 X67 hx hby d2_34 (by decide) (by decide) ?_
  refine own_iload_n 10 X67 hx hby d2_9 rfl rfl ?_
  refine own_iload_n 11 X67 hx hby d2_10 rfl rfl ?_
  refine own_icN 14 X67 hx hby d2_11 rfl (by decide) ?_
  refine own_aload_n 15 X67 hx hby d2_14 rfl rfl rfl ?_
  refine own_iload_n 16 X67 hx hby d2_15 rfl rfl ?_
  refine own_aaload 17 (.ref w_ACQUIRE) X67 hx hby hZ e67 (W.2.2.2.2.2.2.2.2.2.2.2.2.2.2.2.2.2.2.2.2.2.2.2.2.2.2.2.2.2.2.2.2.2.2.2.2.2.2.2.2.2.2.2.2.2.2.2.2.2.2.2.2.2.2.2.2.2.2.2.2.2.2.2.2.2.2.2.ext O0.2) rfl d2_16 rfl (by decide) rfl ?_
  refine own_astore 19 #[oI x0, oA w_ALL, oI (22 : Int32), oI (10 : Int32), oA w_ACQUIRE] X67 hx hby d2_17 rfl rfl rfl ?_
  refine own_aload 21 X67 hx hby d2_19 rfl rfl rfl ?_
  refine own_getF 24 X67 hx hby hZ hown (own_w hw 11 rfl) e67 (W.2.2.2.2.2.2.2.2.2.2.2.2.2.2.2.2.2.2.2.2.2.2.2.2.2.2.2.2.2.2.2.2.2.2.2.2.2.2.2.2.2.2.2.2.2.2.2.2.2.2.2.2.2.2.2.1.ext O0.2) d2_21 rfl ?_
  intro T69 X69 e69
  refine own_iload_n 25 X69 hx hby d2_24 rfl rfl ?_
  refine own_icY 31 X69 hx hby d2_25 (by decide) (by decide) (feq hc70).2 ?_
  refine own_iinc 34 #[oI x0, oA w_ALL, oI (22 : Int32), oI (11 : Int32), oA w_ACQUIRE] X69 hx hby d2_31 rfl rfl rfl ?_
  refine own_goto 9 X69 hx hby d2_34 (by decide) (by decide) ?_
  refine own_iload_n 10 X69 hx hby d2_9 rfl rfl ?_
  refine own_iload_n 11 X69 hx hby d2_10 rfl rfl ?_
  refine own_icN 14 X69 hx hby d2_11 rfl (by decide) ?_
  refine own_aload_n 15 X69 hx hby d2_14 rfl rfl rfl ?_
  refine own_iload_n 16 X69 hx hby d2_15 rfl rfl ?_
  refine own_aaload 17 (.ref w_RETIRE) X69 hx hby hZ e69 (W.2.2.2.2.2.2.2.2.2.2.2.2.2.2.2.2.2.2.2.2.2.2.2.2.2.2.2.2.2.2.2.2.2.2.2.2.2.2.2.2.2.2.2.2.2.2.2.2.2.2.2.2.2.2.2.2.2.2.2.2.2.2.2.2.2.2.2.ext O0.2) rfl d2_16 rfl (by decide) rfl ?_
  refine own_astore 19 #[oI x0, oA w_ALL, oI (22 : Int32), oI (11 : Int32), oA w_RETIRE] X69 hx hby d2_17 rfl rfl rfl ?_
  refine own_aload 21 X69 hx hby d2_19 rfl rfl rfl ?_
  refine own_getF 24 X69 hx hby hZ hown (own_w hw 11 rfl) e69 (W.2.2.2.2.2.2.2.2.2.2.2.2.2.2.2.2.2.2.2.2.2.2.2.2.2.2.2.2.2.2.2.2.2.2.2.2.2.2.2.2.2.2.2.2.2.2.2.2.2.2.2.2.2.2.2.2.1.ext O0.2) d2_21 rfl ?_
  intro T71 X71 e71
  refine own_iload_n 25 X71 hx hby d2_24 rfl rfl ?_
  refine own_icN 28 X71 hx hby d2_25 rfl (teq hc72).2 ?_
  refine own_aload 30 X71 hx hby d2_28 rfl rfl rfl ?_
  exact own_ret (Q := own_Q _ n0 h0) X71 hx hby hret hlk d2_30 rfl (Or.inr (Or.inr (Or.inr (Or.inr ⟨rfl, rfl, rfl⟩)))) (by decide) (by decide) ⟨rfl, N0, e71⟩
set_option maxRecDepth 65536 in
set_option maxHeartbeats 40000000 in
theorem rm2_13 (l : Launch) (Z : State) (a0 : Array Value) (hw : ∀ d ∈ tables_1, d.before a0 Z = true) (ws : List Jvm.Cond) (w_HELLO w_ADD_SERVICE w_GET_SERVICE w_LIST_SERVICES w_TRANSLATE w_RESOLVE w_RELEASE w_STATUS w_WAITING w_WATCH w_ACQUIRE w_RETIRE w_RESULT w_FAILURE w_DEAD w_COUNT_WAITING w_CLOSING w_UNHELD w_OPEN w_TRANSACTION w_REPLY w_KNOCK w_ALL k_ALL : Addr) (W : own_W Z w_HELLO w_ADD_SERVICE w_GET_SERVICE w_LIST_SERVICES w_TRANSLATE w_RESOLVE w_RELEASE w_STATUS w_WAITING w_WATCH w_ACQUIRE w_RETIRE w_RESULT w_FAILURE w_DEAD w_COUNT_WAITING w_CLOSING w_UNHELD w_OPEN w_TRANSACTION w_REPLY w_KNOCK w_ALL k_ALL) (x0 : Int32) (h0 : Heap) (n0 : Nat) (O0 : Old Z n0 h0) (hc50 : ¬ ((1 : Int32) = x0)) (hc52 : ¬ ((2 : Int32) = x0)) (hc54 : ¬ ((3 : Int32) = x0)) (hc56 : ¬ ((4 : Int32) = x0)) (hc58 : ¬ ((5 : Int32) = x0)) (hc60 : ¬ ((6 : Int32) = x0)) (hc62 : ¬ ((7 : Int32) = x0)) (hc64 : ¬ ((8 : Int32) = x0)) (hc66 : ¬ ((9 : Int32) = x0)) (hc68 : ¬ ((10 : Int32) = x0)) (hc70 : ¬ ((11 : Int32) = x0)) (hc72 : ¬ ((12 : Int32) = x0)) (hc74 : (16 : Int32) = x0) :
    MetFree l (⟨"com/example/hop1/hop1/protocol/FrameKind", "of", "(I)Lcom/example/hop1/hop1/protocol/FrameKind;"⟩ : MethodName) (head1 (Jvm.Cond.code (⟨"com/example/hop1/hop1/protocol/FrameKind", "of", "(I)Lcom/example/hop1/hop1/protocol/FrameKind;"⟩ : MethodName) prog_113_method_5_code 5 (some (.object "com/example/hop1/hop1/protocol/FrameKind")) :: ws) ({ frames := 0, cells := 0, slots := 0, locals := 0 } : Room)) (fun a U => a = #[(.int x0)] ∧ Z.Warmed39 U.vm ∧ U.heap = h0) (fun _ _ _ _ _ => True) (fun _ U o U' => ∃ v L, o = .returned v ∧ own_Q (some (.ref w_RESULT)) n0 h0 v U'.heap L ∧ FrameEnd U o U' L ({ frames := 0, cells := 0, slots := 0, locals := 0 } : Room).cells ({ frames := 0, cells := 0, slots := 0, locals := 0 } : Room).slots) := by
  refine MetFree.of_bodySF (plainFor_of_name pn_1) hisR ?_
  intro p e s m args below meth c s₁ Bd hml0 hP hK
  obtain ⟨rfl, hZ, hh⟩ := hP
  have hx := Bd.exec
  have hby := Bd.bytes
  have hml : c.maxLocals = 5 := hml0
  have hlk := BodyLoose.notSynchronized Bd
  have hret := Bd.returns
  have hown : s.vm.findClass "com/example/hop1/hop1/protocol/FrameKind" = some m.cls := findClass_of_methodNamed Bd.named
  have hnm := (name_of_methodNamed Bd.named Bd.method).1
  have X0 : Stand p l e ({ frames := 0, cells := 0, slots := 0, locals := 0 } : Room) s m #[(.int x0)] below meth c s₁ [] 0 0 := Stand.of_body Bd
  have e0 : s₁.heap = h0 := by rw [← hh, Bd.state]; rfl
  have N0 := Fr.nil n0
  rw [ef_2 m x0]
  show Go p e below _ (s₁.setTop (mkF m 0 #[oI x0, oU, oU, oU, oU] []))
  refine own_getS 3 X0 hx hby hZ hown (own_w hw 8 rfl) e0 (W.2.2.2.2.2.2.2.2.2.2.2.2.2.2.2.2.2.2.2.2.2.2.2.2.2.2.2.2.2.2.2.2.2.2.2.2.2.2.2.2.2.2.2.2.1.ext O0.2) d2_0 rfl ?_
  intro T48 X48 e48
  refine own_astore_n 4 #[oI x0, oA w_ALL, oU, oU, oU] X48 hx hby d2_3 rfl rfl rfl ?_
  refine own_aload_n 5 X48 hx hby d2_4 rfl rfl rfl ?_
  refine own_len 6 X48 hx hby hZ e48 (W.2.2.2.2.2.2.2.2.2.2.2.2.2.2.2.2.2.2.2.2.2.2.2.2.2.2.2.2.2.2.2.2.2.2.2.2.2.2.2.2.2.2.2.2.2.2.2.2.2.2.2.2.2.2.2.2.2.2.2.2.2.2.2.2.2.2.2.ext O0.2) d2_5 rfl ?_
  refine own_istore_n 7 #[oI x0, oA w_ALL, oI (22 : Int32), oU, oU] X48 hx hby d2_6 rfl rfl ?_
  refine own_iconst 8 (0 : Int32) X48 hx hby d2_7 rfl (by decide) ?_
  refine own_istore_n 9 #[oI x0, oA w_ALL, oI (22 : Int32), oI (0 : Int32), oU] X48 hx hby d2_8 rfl rfl ?_
  refine own_iload_n 10 X48 hx hby d2_9 rfl rfl ?_
  refine own_iload_n 11 X48 hx hby d2_10 rfl rfl ?_
  refine own_icN 14 X48 hx hby d2_11 rfl (by decide) ?_
  refine own_aload_n 15 X48 hx hby d2_14 rfl rfl rfl ?_
  refine own_iload_n 16 X48 hx hby d2_15 rfl rfl ?_
  refine own_aaload 17 (.ref w_HELLO) X48 hx hby hZ e48 (W.2.2.2.2.2.2.2.2.2.2.2.2.2.2.2.2.2.2.2.2.2.2.2.2.2.2.2.2.2.2.2.2.2.2.2.2.2.2.2.2.2.2.2.2.2.2.2.2.2.2.2.2.2.2.2.2.2.2.2.2.2.2.2.2.2.2.2.ext O0.2) rfl d2_16 rfl (by decide) rfl ?_
  refine own_astore 19 #[oI x0, oA w_ALL, oI (22 : Int32), oI (0 : Int32), oA w_HELLO] X48 hx hby d2_17 rfl rfl rfl ?_
  refine own_aload 21 X48 hx hby d2_19 rfl rfl rfl ?_
  refine own_getF 24 X48 hx hby hZ hown (own_w hw 11 rfl) e48 (W.2.2.2.2.2.2.2.2.2.2.2.2.2.2.2.2.2.2.2.2.2.2.2.2.2.2.2.2.2.2.2.2.2.2.2.2.2.2.2.2.2.2.2.2.2.1.ext O0.2) d2_21 rfl ?_
  intro T49 X49 e49
  refine own_iload_n 25 X49 hx hby d2_24 rfl rfl ?_
  refine own_icY 31 X49 hx hby d2_25 (by decide) (by decide) (feq hc50).2 ?_
  refine own_iinc 34 #[oI x0, oA w_ALL, oI (22 : Int32), oI (1 : Int32), oA w_HELLO] X49 hx hby d2_31 rfl rfl rfl ?_
  refine own_goto 9 X49 hx hby d2_34 (by decide) (by decide) ?_
  refine own_iload_n 10 X49 hx hby d2_9 rfl rfl ?_
  refine own_iload_n 11 X49 hx hby d2_10 rfl rfl ?_
  refine own_icN 14 X49 hx hby d2_11 rfl (by decide) ?_
  refine own_aload_n 15 X49 hx hby d2_14 rfl rfl rfl ?_
  refine own_iload_n 16 X49 hx hby d2_15 rfl rfl ?_
  refine own_aaload 17 (.ref w_ADD_SERVICE) X49 hx hby hZ e49 (W.2.2.2.2.2.2.2.2.2.2.2.2.2.2.2.2.2.2.2.2.2.2.2.2.2.2.2.2.2.2.2.2.2.2.2.2.2.2.2.2.2.2.2.2.2.2.2.2.2.2.2.2.2.2.2.2.2.2.2.2.2.2.2.2.2.2.2.ext O0.2) rfl d2_16 rfl (by decide) rfl ?_
  refine own_astore 19 #[oI x0, oA w_ALL, oI (22 : Int32), oI (1 : Int32), oA w_ADD_SERVICE] X49 hx hby d2_17 rfl rfl rfl ?_
  refine own_aload 21 X49 hx hby d2_19 rfl rfl rfl ?_
  refine own_getF 24 X49 hx hby hZ hown (own_w hw 11 rfl) e49 (W.2.2.2.2.2.2.2.2.2.2.2.2.2.2.2.2.2.2.2.2.2.2.2.2.2.2.2.2.2.2.2.2.2.2.2.2.2.2.2.2.2.2.2.2.2.2.1.ext O0.2) d2_21 rfl ?_
  intro T51 X51 e51
  refine own_iload_n 25 X51 hx hby d2_24 rfl rfl ?_
  refine own_icY 31 X51 hx hby d2_25 (by decide) (by decide) (feq hc52).2 ?_
  refine own_iinc 34 #[oI x0, oA w_ALL, oI (22 : Int32), oI (2 : Int32), oA w_ADD_SERVICE] X51 hx hby d2_31 rfl rfl rfl ?_
  refine own_goto 9 X51 hx hby d2_34 (by decide) (by decide) ?_
  refine own_iload_n 10 X51 hx hby d2_9 rfl rfl ?_
  refine own_iload_n 11 X51 hx hby d2_10 rfl rfl ?_
  refine own_icN 14 X51 hx hby d2_11 rfl (by decide) ?_
  refine own_aload_n 15 X51 hx hby d2_14 rfl rfl rfl ?_
  refine own_iload_n 16 X51 hx hby d2_15 rfl rfl ?_
  refine own_aaload 17 (.ref w_GET_SERVICE) X51 hx hby hZ e51 (W.2.2.2.2.2.2.2.2.2.2.2.2.2.2.2.2.2.2.2.2.2.2.2.2.2.2.2.2.2.2.2.2.2.2.2.2.2.2.2.2.2.2.2.2.2.2.2.2.2.2.2.2.2.2.2.2.2.2.2.2.2.2.2.2.2.2.2.ext O0.2) rfl d2_16 rfl (by decide) rfl ?_
  refine own_astore 19 #[oI x0, oA w_ALL, oI (22 : Int32), oI (2 : Int32), oA w_GET_SERVICE] X51 hx hby d2_17 rfl rfl rfl ?_
  refine own_aload 21 X51 hx hby d2_19 rfl rfl rfl ?_
  refine own_getF 24 X51 hx hby hZ hown (own_w hw 11 rfl) e51 (W.2.2.2.2.2.2.2.2.2.2.2.2.2.2.2.2.2.2.2.2.2.2.2.2.2.2.2.2.2.2.2.2.2.2.2.2.2.2.2.2.2.2.2.2.2.2.2.1.ext O0.2) d2_21 rfl ?_
  intro T53 X53 e53
  refine own_iload_n 25 X53 hx hby d2_24 rfl rfl ?_
  refine own_icY 31 X53 hx hby d2_25 (by decide) (by decide) (feq hc54).2 ?_
  refine own_iinc 34 #[oI x0, oA w_ALL, oI (22 : Int32), oI (3 : Int32), oA w_GET_SERVICE] X53 hx hby d2_31 rfl rfl rfl ?_
  refine own_goto 9 X53 hx hby d2_34 (by decide) (by decide) ?_
  refine own_iload_n 10 X53 hx hby d2_9 rfl rfl ?_
  refine own_iload_n 11 X53 hx hby d2_10 rfl rfl ?_
  refine own_icN 14 X53 hx hby d2_11 rfl (by decide) ?_
  refine own_aload_n 15 X53 hx hby d2_14 rfl rfl rfl ?_
  refine own_iload_n 16 X53 hx hby d2_15 rfl rfl ?_
  refine own_aaload 17 (.ref w_LIST_SERVICES) X53 hx hby hZ e53 (W.2.2.2.2.2.2.2.2.2.2.2.2.2.2.2.2.2.2.2.2.2.2.2.2.2.2.2.2.2.2.2.2.2.2.2.2.2.2.2.2.2.2.2.2.2.2.2.2.2.2.2.2.2.2.2.2.2.2.2.2.2.2.2.2.2.2.2.ext O0.2) rfl d2_16 rfl (by decide) rfl ?_
  refine own_astore 19 #[oI x0, oA w_ALL, oI (22 : Int32), oI (3 : Int32), oA w_LIST_SERVICES] X53 hx hby d2_17 rfl rfl rfl ?_
  refine own_aload 21 X53 hx hby d2_19 rfl rfl rfl ?_
  refine own_getF 24 X53 hx hby hZ hown (own_w hw 11 rfl) e53 (W.2.2.2.2.2.2.2.2.2.2.2.2.2.2.2.2.2.2.2.2.2.2.2.2.2.2.2.2.2.2.2.2.2.2.2.2.2.2.2.2.2.2.2.2.2.2.2.2.1.ext O0.2) d2_21 rfl ?_
  intro T55 X55 e55
  refine own_iload_n 25 X55 hx hby d2_24 rfl rfl ?_
  refine own_icY 31 X55 hx hby d2_25 (by decide) (by decide) (feq hc56).2 ?_
  refine own_iinc 34 #[oI x0, oA w_ALL, oI (22 : Int32), oI (4 : Int32), oA w_LIST_SERVICES] X55 hx hby d2_31 rfl rfl rfl ?_
  refine own_goto 9 X55 hx hby d2_34 (by decide) (by decide) ?_
  refine own_iload_n 10 X55 hx hby d2_9 rfl rfl ?_
  refine own_iload_n 11 X55 hx hby d2_10 rfl rfl ?_
  refine own_icN 14 X55 hx hby d2_11 rfl (by decide) ?_
  refine own_aload_n 15 X55 hx hby d2_14 rfl rfl rfl ?_
  refine own_iload_n 16 X55 hx hby d2_15 rfl rfl ?_
  refine own_aaload 17 (.ref w_TRANSLATE) X55 hx hby hZ e55 (W.2.2.2.2.2.2.2.2.2.2.2.2.2.2.2.2.2.2.2.2.2.2.2.2.2.2.2.2.2.2.2.2.2.2.2.2.2.2.2.2.2.2.2.2.2.2.2.2.2.2.2.2.2.2.2.2.2.2.2.2.2.2.2.2.2.2.2.ext O0.2) rfl d2_16 rfl (by decide) rfl ?_
  refine own_astore 19 #[oI x0, oA w_ALL, oI (22 : Int32), oI (4 : Int32), oA w_TRANSLATE] X55 hx hby d2_17 rfl rfl rfl ?_
  refine own_aload 21 X55 hx hby d2_19 rfl rfl rfl ?_
  refine own_getF 24 X55 hx hby hZ hown (own_w hw 11 rfl) e55 (W.2.2.2.2.2.2.2.2.2.2.2.2.2.2.2.2.2.2.2.2.2.2.2.2.2.2.2.2.2.2.2.2.2.2.2.2.2.2.2.2.2.2.2.2.2.2.2.2.2.1.ext O0.2) d2_21 rfl ?_
  intro T57 X57 e57
  refine own_iload_n 25 X57 hx hby d2_24 rfl rfl ?_
  refine own_icY 31 X57 hx hby d2_25 (by decide) (by decide) (feq hc58).2 ?_
  refine own_iinc 34 #[oI x0, oA w_ALL, oI (22 : Int32), oI (5 : Int32), oA w_TRANSLATE] X57 hx hby d2_31 rfl rfl rfl ?_
  refine own_goto 9 X57 hx hby d2_34 (by decide) (by decide) ?_
  refine own_iload_n 10 X57 hx hby d2_9 rfl rfl ?_
  refine own_iload_n 11 X57 hx hby d2_10 rfl rfl ?_
  refine own_icN 14 X57 hx hby d2_11 rfl (by decide) ?_
  refine own_aload_n 15 X57 hx hby d2_14 rfl rfl rfl ?_
  refine own_iload_n 16 X57 hx hby d2_15 rfl rfl ?_
  refine own_aaload 17 (.ref w_RESOLVE) X57 hx hby hZ e57 (W.2.2.2.2.2.2.2.2.2.2.2.2.2.2.2.2.2.2.2.2.2.2.2.2.2.2.2.2.2.2.2.2.2.2.2.2.2.2.2.2.2.2.2.2.2.2.2.2.2.2.2.2.2.2.2.2.2.2.2.2.2.2.2.2.2.2.2.ext O0.2) rfl d2_16 rfl (by decide) rfl ?_
  refine own_astore 19 #[oI x0, oA w_ALL, oI (22 : Int32), oI (5 : Int32), oA w_RESOLVE] X57 hx hby d2_17 rfl rfl rfl ?_
  refine own_aload 21 X57 hx hby d2_19 rfl rfl rfl ?_
  refine own_getF 24 X57 hx hby hZ hown (own_w hw 11 rfl) e57 (W.2.2.2.2.2.2.2.2.2.2.2.2.2.2.2.2.2.2.2.2.2.2.2.2.2.2.2.2.2.2.2.2.2.2.2.2.2.2.2.2.2.2.2.2.2.2.2.2.2.2.1.ext O0.2) d2_21 rfl ?_
  intro T59 X59 e59
  refine own_iload_n 25 X59 hx hby d2_24 rfl rfl ?_
  refine own_icY 31 X59 hx hby d2_25 (by decide) (by decide) (feq hc60).2 ?_
  refine own_iinc 34 #[oI x0, oA w_ALL, oI (22 : Int32), oI (6 : Int32), oA w_RESOLVE] X59 hx hby d2_31 rfl rfl rfl ?_
  refine own_goto 9 X59 hx hby d2_34 (by decide) (by decide) ?_
  refine own_iload_n 10 X59 hx hby d2_9 rfl rfl ?_
  refine own_iload_n 11 X59 hx hby d2_10 rfl rfl ?_
  refine own_icN 14 X59 hx hby d2_11 rfl (by decide) ?_
  refine own_aload_n 15 X59 hx hby d2_14 rfl rfl rfl ?_
  refine own_iload_n 16 X59 hx hby d2_15 rfl rfl ?_
  refine own_aaload 17 (.ref w_RELEASE) X59 hx hby hZ e59 (W.2.2.2.2.2.2.2.2.2.2.2.2.2.2.2.2.2.2.2.2.2.2.2.2.2.2.2.2.2.2.2.2.2.2.2.2.2.2.2.2.2.2.2.2.2.2.2.2.2.2.2.2.2.2.2.2.2.2.2.2.2.2.2.2.2.2.2.ext O0.2) rfl d2_16 rfl (by decide) rfl ?_
  refine own_astore 19 #[oI x0, oA w_ALL, oI (22 : Int32), oI (6 : Int32), oA w_RELEASE] X59 hx hby d2_17 rfl rfl rfl ?_
  refine own_aload 21 X59 hx hby d2_19 rfl rfl rfl ?_
  refine own_getF 24 X59 hx hby hZ hown (own_w hw 11 rfl) e59 (W.2.2.2.2.2.2.2.2.2.2.2.2.2.2.2.2.2.2.2.2.2.2.2.2.2.2.2.2.2.2.2.2.2.2.2.2.2.2.2.2.2.2.2.2.2.2.2.2.2.2.2.1.ext O0.2) d2_21 rfl ?_
  intro T61 X61 e61
  refine own_iload_n 25 X61 hx hby d2_24 rfl rfl ?_
  refine own_icY 31 X61 hx hby d2_25 (by decide) (by decide) (feq hc62).2 ?_
  refine own_iinc 34 #[oI x0, oA w_ALL, oI (22 : Int32), oI (7 : Int32), oA w_RELEASE] X61 hx hby d2_31 rfl rfl rfl ?_
  refine own_goto 9 X61 hx hby d2_34 (by decide) (by decide) ?_
  refine own_iload_n 10 X61 hx hby d2_9 rfl rfl ?_
  refine own_iload_n 11 X61 hx hby d2_10 rfl rfl ?_
  refine own_icN 14 X61 hx hby d2_11 rfl (by decide) ?_
  refine own_aload_n 15 X61 hx hby d2_14 rfl rfl rfl ?_
  refine own_iload_n 16 X61 hx hby d2_15 rfl rfl ?_
  refine own_aaload 17 (.ref w_STATUS) X61 hx hby hZ e61 (W.2.2.2.2.2.2.2.2.2.2.2.2.2.2.2.2.2.2.2.2.2.2.2.2.2.2.2.2.2.2.2.2.2.2.2.2.2.2.2.2.2.2.2.2.2.2.2.2.2.2.2.2.2.2.2.2.2.2.2.2.2.2.2.2.2.2.2.ext O0.2) rfl d2_16 rfl (by decide) rfl ?_
  refine own_astore 19 #[oI x0, oA w_ALL, oI (22 : Int32), oI (7 : Int32), oA w_STATUS] X61 hx hby d2_17 rfl rfl rfl ?_
  refine own_aload 21 X61 hx hby d2_19 rfl rfl rfl ?_
  refine own_getF 24 X61 hx hby hZ hown (own_w hw 11 rfl) e61 (W.2.2.2.2.2.2.2.2.2.2.2.2.2.2.2.2.2.2.2.2.2.2.2.2.2.2.2.2.2.2.2.2.2.2.2.2.2.2.2.2.2.2.2.2.2.2.2.2.2.2.2.2.1.ext O0.2) d2_21 rfl ?_
  intro T63 X63 e63
  refine own_iload_n 25 X63 hx hby d2_24 rfl rfl ?_
  refine own_icY 31 X63 hx hby d2_25 (by decide) (by decide) (feq hc64).2 ?_
  refine own_iinc 34 #[oI x0, oA w_ALL, oI (22 : Int32), oI (8 : Int32), oA w_STATUS] X63 hx hby d2_31 rfl rfl rfl ?_
  refine own_goto 9 X63 hx hby d2_34 (by decide) (by decide) ?_
  refine own_iload_n 10 X63 hx hby d2_9 rfl rfl ?_
  refine own_iload_n 11 X63 hx hby d2_10 rfl rfl ?_
  refine own_icN 14 X63 hx hby d2_11 rfl (by decide) ?_
  refine own_aload_n 15 X63 hx hby d2_14 rfl rfl rfl ?_
  refine own_iload_n 16 X63 hx hby d2_15 rfl rfl ?_
  refine own_aaload 17 (.ref w_WAITING) X63 hx hby hZ e63 (W.2.2.2.2.2.2.2.2.2.2.2.2.2.2.2.2.2.2.2.2.2.2.2.2.2.2.2.2.2.2.2.2.2.2.2.2.2.2.2.2.2.2.2.2.2.2.2.2.2.2.2.2.2.2.2.2.2.2.2.2.2.2.2.2.2.2.2.ext O0.2) rfl d2_16 rfl (by decide) rfl ?_
  refine own_astore 19 #[oI x0, oA w_ALL, oI (22 : Int32), oI (8 : Int32), oA w_WAITING] X63 hx hby d2_17 rfl rfl rfl ?_
  refine own_aload 21 X63 hx hby d2_19 rfl rfl rfl ?_
  refine own_getF 24 X63 hx hby hZ hown (own_w hw 11 rfl) e63 (W.2.2.2.2.2.2.2.2.2.2.2.2.2.2.2.2.2.2.2.2.2.2.2.2.2.2.2.2.2.2.2.2.2.2.2.2.2.2.2.2.2.2.2.2.2.2.2.2.2.2.2.2.2.1.ext O0.2) d2_21 rfl ?_
  intro T65 X65 e65
  refine own_iload_n 25 X65 hx hby d2_24 rfl rfl ?_
  refine own_icY 31 X65 hx hby d2_25 (by decide) (by decide) (feq hc66).2 ?_
  refine own_iinc 34 #[oI x0, oA w_ALL, oI (22 : Int32), oI (9 : Int32), oA w_WAITING] X65 hx hby d2_31 rfl rfl rfl ?_
  refine own_goto 9 X65 hx hby d2_34 (by decide) (by decide) ?_
  refine own_iload_n 10 X65 hx hby d2_9 rfl rfl ?_
  refine own_iload_n 11 X65 hx hby d2_10 rfl rfl ?_
  refine own_icN 14 X65 hx hby d2_11 rfl (by decide) ?_
  refine own_aload_n 15 X65 hx hby d2_14 rfl rfl rfl ?_
  refine own_iload_n 16 X65 hx hby d2_15 rfl rfl ?_
  refine own_aaload 17 (.ref w_WATCH) X65 hx hby hZ e65 (W.2.2.2.2.2.2.2.2.2.2.2.2.2.2.2.2.2.2.2.2.2.2.2.2.2.2.2.2.2.2.2.2.2.2.2.2.2.2.2.2.2.2.2.2.2.2.2.2.2.2.2.2.2.2.2.2.2.2.2.2.2.2.2.2.2.2.2.ext O0.2) rfl d2_16 rfl (by decide) rfl ?_
  refine own_astore 19 #[oI x0, oA w_ALL, oI (22 : Int32), oI (9 : Int32), oA w_WATCH] X65 hx hby d2_17 rfl rfl rfl ?_
  refine own_aload 21 X65 hx hby d2_19 rfl rfl rfl ?_
  refine own_getF 24 X65 hx hby hZ hown (own_w hw 11 rfl) e65 (W.2.2.2.2.2.2.2.2.2.2.2.2.2.2.2.2.2.2.2.2.2.2.2.2.2.2.2.2.2.2.2.2.2.2.2.2.2.2.2.2.2.2.2.2.2.2.2.2.2.2.2.2.2.2.1.ext O0.2) d2_21 rfl ?_
  intro T67 X67 e67
  refine own_iload_n 25 X67 hx hby d2_24 rfl rfl ?_
  refine own_icY 31 X67 hx hby d2_25 (by decide) (by decide) (feq hc68).2 ?_
  refine own_iinc 34 #[oI x0, oA w_ALL, oI (22 : Int32), oI (10 : Int32), oA w_WATCH] X67 hx hby d2_31 rfl rfl rfl ?_
  refine own_goto 9 X67 hx hby d2_34 (by decide) (by decide) ?_
  refine own_iload_n 10 X67 hx hby d2_9 rfl rfl ?_
  refine own_iload_n 11 X67 hx hby d2_10 rfl rfl ?_
  refine own_icN 14 X67 hx hby d2_11 rfl (by decide) ?_
  refine own_aload_n 15 X67 hx hby d2_14 rfl rfl rfl ?_
  refine own_iload_n 16 X67 hx hby d2_15 rfl rfl ?_
  refine own_aaload 17 (.ref w_ACQUIRE) X67 hx hby hZ e67 (W.2.2.2.2.2.2.2.2.2.2.2.2.2.2.2.2.2.2.2.2.2.2.2.2.2.2.2.2.2.2.2.2.2.2.2.2.2.2.2.2.2.2.2.2.2.2.2.2.2.2.2.2.2.2.2.2.2.2.2.2.2.2.2.2.2.2.2.ext O0.2) rfl d2_16 rfl (by decide) rfl ?_
  refine own_astore 19 #[oI x0, oA w_ALL, oI (22 : Int32), oI (10 : Int32), oA w_ACQUIRE] X67 hx hby d2_17 rfl rfl rfl ?_
  refine own_aload 21 X67 hx hby d2_19 rfl rfl rfl ?_
  refine own_getF 24 X67 hx hby hZ hown (own_w hw 11 rfl) e67 (W.2.2.2.2.2.2.2.2.2.2.2.2.2.2.2.2.2.2.2.2.2.2.2.2.2.2.2.2.2.2.2.2.2.2.2.2.2.2.2.2.2.2.2.2.2.2.2.2.2.2.2.2.2.2.2.1.ext O0.2) d2_21 rfl ?_
  intro T69 X69 e69
  refine own_iload_n 25 X69 hx hby d2_24 rfl rfl ?_
  refine own_icY 31 X69 hx hby d2_25 (by decide) (by decide) (feq hc70).2 ?_
  refine own_iinc 34 #[oI x0, oA w_ALL, oI (22 : Int32), oI (11 : Int32), oA w_ACQUIRE] X69 hx hby d2_31 rfl rfl rfl ?_
  refine own_goto 9 X69 hx hby d2_34 (by decide) (by decide) ?_
  refine own_iload_n 10 X69 hx hby d2_9 rfl rfl ?_
  refine own_iload_n 11 X69 hx hby d2_10 rfl rfl ?_
  refine own_icN 14 X69 hx hby d2_11 rfl (by decide) ?_
  refine own_aload_n 15 X69 hx hby d2_14 rfl rfl rfl ?_
  refine own_iload_n 16 X69 hx hby d2_15 rfl rfl ?_
  refine own_aaload 17 (.ref w_RETIRE) X69 hx hby hZ e69 (W.2.2.2.2.2.2.2.2.2.2.2.2.2.2.2.2.2.2.2.2.2.2.2.2.2.2.2.2.2.2.2.2.2.2.2.2.2.2.2.2.2.2.2.2.2.2.2.2.2.2.2.2.2.2.2.2.2.2.2.2.2.2.2.2.2.2.2.ext O0.2) rfl d2_16 rfl (by decide) rfl ?_
  refine own_astore 19 #[oI x0, oA w_ALL, oI (22 : Int32), oI (11 : Int32), oA w_RETIRE] X69 hx hby d2_17 rfl rfl rfl ?_
  refine own_aload 21 X69 hx hby d2_19 rfl rfl rfl ?_
  refine own_getF 24 X69 hx hby hZ hown (own_w hw 11 rfl) e69 (W.2.2.2.2.2.2.2.2.2.2.2.2.2.2.2.2.2.2.2.2.2.2.2.2.2.2.2.2.2.2.2.2.2.2.2.2.2.2.2.2.2.2.2.2.2.2.2.2.2.2.2.2.2.2.2.2.1.ext O0.2) d2_21 rfl ?_
  intro T71 X71 e71
  refine own_iload_n 25 X71 hx hby d2_24 rfl rfl ?_
  refine own_icY 31 X71 hx hby d2_25 (by decide) (by decide) (feq hc72).2 ?_
  refine own_iinc 34 #[oI x0, oA w_ALL, oI (22 : Int32), oI (12 : Int32), oA w_RETIRE] X71 hx hby d2_31 rfl rfl rfl ?_
  refine own_goto 9 X71 hx hby d2_34 (by decide) (by decide) ?_
  refine own_iload_n 10 X71 hx hby d2_9 rfl rfl ?_
  refine own_iload_n 11 X71 hx hby d2_10 rfl rfl ?_
  refine own_icN 14 X71 hx hby d2_11 rfl (by decide) ?_
  refine own_aload_n 15 X71 hx hby d2_14 rfl rfl rfl ?_
  refine own_iload_n 16 X71 hx hby d2_15 rfl rfl ?_
  refine own_aaload 17 (.ref w_RESULT) X71 hx hby hZ e71 (W.2.2.2.2.2.2.2.2.2.2.2.2.2.2.2.2.2.2.2.2.2.2.2.2.2.2.2.2.2.2.2.2.2.2.2.2.2.2.2.2.2.2.2.2.2.2.2.2.2.2.2.2.2.2.2.2.2.2.2.2.2.2.2.2.2.2.2.ext O0.2) rfl d2_16 rfl (by decide) rfl ?_
  refine own_astore 19 #[oI x0, oA w_ALL, oI (22 : Int32), oI (12 : Int32), oA w_RESULT] X71 hx hby d2_17 rfl rfl rfl ?_
  refine own_aload 21 X71 hx hby d2_19 rfl rfl rfl ?_
  refine own_getF 24 X71 hx hby hZ hown (own_w hw 11 rfl) e71 (W.2.2.2.2.2.2.2.2.2.2.2.2.2.2.2.2.2.2.2.2.2.2.2.2.2.2.2.2.2.2.2.2.2.2.2.2.2.2.2.2.2.2.2.2.2.2.2.2.2.2.2.2.2.2.2.2.2.1.ext O0.2) d2_21 rfl ?_
  intro T73 X73 e73
  refine own_iload_n 25 X73 hx hby d2_24 rfl rfl ?_
  refine own_icN 28 X73 hx hby d2_25 rfl (teq hc74).2 ?_
  refine own_aload 30 X73 hx hby d2_28 rfl rfl rfl ?_
  exact own_ret (Q := own_Q _ n0 h0) X73 hx hby hret hlk d2_30 rfl (Or.inr (Or.inr (Or.inr (Or.inr ⟨rfl, rfl, rfl⟩)))) (by decide) (by decide) ⟨rfl, N0, e73⟩
set_option maxRecDepth 65536 in
set_option maxHeartbeats 40000000 in
theorem rm2_14 (l : Launch) (Z : State) (a0 : Array Value) (hw : ∀ d ∈ tables_1, d.before a0 Z = true) (ws : List Jvm.Cond) (w_HELLO w_ADD_SERVICE w_GET_SERVICE w_LIST_SERVICES w_TRANSLATE w_RESOLVE w_RELEASE w_STATUS w_WAITING w_WATCH w_ACQUIRE w_RETIRE w_RESULT w_FAILURE w_DEAD w_COUNT_WAITING w_CLOSING w_UNHELD w_OPEN w_TRANSACTION w_REPLY w_KNOCK w_ALL k_ALL : Addr) (W : own_W Z w_HELLO w_ADD_SERVICE w_GET_SERVICE w_LIST_SERVICES w_TRANSLATE w_RESOLVE w_RELEASE w_STATUS w_WAITING w_WATCH w_ACQUIRE w_RETIRE w_RESULT w_FAILURE w_DEAD w_COUNT_WAITING w_CLOSING w_UNHELD w_OPEN w_TRANSACTION w_REPLY w_KNOCK w_ALL k_ALL) (x0 : Int32) (h0 : Heap) (n0 : Nat) (O0 : Old Z n0 h0) (hc50 : ¬ ((1 : Int32) = x0)) (hc52 : ¬ ((2 : Int32) = x0)) (hc54 : ¬ ((3 : Int32) = x0)) (hc56 : ¬ ((4 : Int32) = x0)) (hc58 : ¬ ((5 : Int32) = x0)) (hc60 : ¬ ((6 : Int32) = x0)) (hc62 : ¬ ((7 : Int32) = x0)) (hc64 : ¬ ((8 : Int32) = x0)) (hc66 : ¬ ((9 : Int32) = x0)) (hc68 : ¬ ((10 : Int32) = x0)) (hc70 : ¬ ((11 : Int32) = x0)) (hc72 : ¬ ((12 : Int32) = x0)) (hc74 : ¬ ((16 : Int32) = x0)) (hc76 : (17 : Int32) = x0) :
    MetFree l (⟨"com/example/hop1/hop1/protocol/FrameKind", "of", "(I)Lcom/example/hop1/hop1/protocol/FrameKind;"⟩ : MethodName) (head1 (Jvm.Cond.code (⟨"com/example/hop1/hop1/protocol/FrameKind", "of", "(I)Lcom/example/hop1/hop1/protocol/FrameKind;"⟩ : MethodName) prog_113_method_5_code 5 (some (.object "com/example/hop1/hop1/protocol/FrameKind")) :: ws) ({ frames := 0, cells := 0, slots := 0, locals := 0 } : Room)) (fun a U => a = #[(.int x0)] ∧ Z.Warmed39 U.vm ∧ U.heap = h0) (fun _ _ _ _ _ => True) (fun _ U o U' => ∃ v L, o = .returned v ∧ own_Q (some (.ref w_FAILURE)) n0 h0 v U'.heap L ∧ FrameEnd U o U' L ({ frames := 0, cells := 0, slots := 0, locals := 0 } : Room).cells ({ frames := 0, cells := 0, slots := 0, locals := 0 } : Room).slots) := by
  refine MetFree.of_bodySF (plainFor_of_name pn_1) hisR ?_
  intro p e s m args below meth c s₁ Bd hml0 hP hK
  obtain ⟨rfl, hZ, hh⟩ := hP
  have hx := Bd.exec
  have hby := Bd.bytes
  have hml : c.maxLocals = 5 := hml0
  have hlk := BodyLoose.notSynchronized Bd
  have hret := Bd.returns
  have hown : s.vm.findClass "com/example/hop1/hop1/protocol/FrameKind" = some m.cls := findClass_of_methodNamed Bd.named
  have hnm := (name_of_methodNamed Bd.named Bd.method).1
  have X0 : Stand p l e ({ frames := 0, cells := 0, slots := 0, locals := 0 } : Room) s m #[(.int x0)] below meth c s₁ [] 0 0 := Stand.of_body Bd
  have e0 : s₁.heap = h0 := by rw [← hh, Bd.state]; rfl
  have N0 := Fr.nil n0
  rw [ef_2 m x0]
  show Go p e below _ (s₁.setTop (mkF m 0 #[oI x0, oU, oU, oU, oU] []))
  refine own_getS 3 X0 hx hby hZ hown (own_w hw 8 rfl) e0 (W.2.2.2.2.2.2.2.2.2.2.2.2.2.2.2.2.2.2.2.2.2.2.2.2.2.2.2.2.2.2.2.2.2.2.2.2.2.2.2.2.2.2.2.2.1.ext O0.2) d2_0 rfl ?_
  intro T48 X48 e48
  refine own_astore_n 4 #[oI x0, oA w_ALL, oU, oU, oU] X48 hx hby d2_3 rfl rfl rfl ?_
  refine own_aload_n 5 X48 hx hby d2_4 rfl rfl rfl ?_
  refine own_len 6 X48 hx hby hZ e48 (W.2.2.2.2.2.2.2.2.2.2.2.2.2.2.2.2.2.2.2.2.2.2.2.2.2.2.2.2.2.2.2.2.2.2.2.2.2.2.2.2.2.2.2.2.2.2.2.2.2.2.2.2.2.2.2.2.2.2.2.2.2.2.2.2.2.2.2.ext O0.2) d2_5 rfl ?_
  refine own_istore_n 7 #[oI x0, oA w_ALL, oI (22 : Int32), oU, oU] X48 hx hby d2_6 rfl rfl ?_
  refine own_iconst 8 (0 : Int32) X48 hx hby d2_7 rfl (by decide) ?_
  refine own_istore_n 9 #[oI x0, oA w_ALL, oI (22 : Int32), oI (0 : Int32), oU] X48 hx hby d2_8 rfl rfl ?_
  refine own_iload_n 10 X48 hx hby d2_9 rfl rfl ?_
  refine own_iload_n 11 X48 hx hby d2_10 rfl rfl ?_
  refine own_icN 14 X48 hx hby d2_11 rfl (by decide) ?_
  refine own_aload_n 15 X48 hx hby d2_14 rfl rfl rfl ?_
  refine own_iload_n 16 X48 hx hby d2_15 rfl rfl ?_
  refine own_aaload 17 (.ref w_HELLO) X48 hx hby hZ e48 (W.2.2.2.2.2.2.2.2.2.2.2.2.2.2.2.2.2.2.2.2.2.2.2.2.2.2.2.2.2.2.2.2.2.2.2.2.2.2.2.2.2.2.2.2.2.2.2.2.2.2.2.2.2.2.2.2.2.2.2.2.2.2.2.2.2.2.2.ext O0.2) rfl d2_16 rfl (by decide) rfl ?_
  refine own_astore 19 #[oI x0, oA w_ALL, oI (22 : Int32), oI (0 : Int32), oA w_HELLO] X48 hx hby d2_17 rfl rfl rfl ?_
  refine own_aload 21 X48 hx hby d2_19 rfl rfl rfl ?_
  refine own_getF 24 X48 hx hby hZ hown (own_w hw 11 rfl) e48 (W.2.2.2.2.2.2.2.2.2.2.2.2.2.2.2.2.2.2.2.2.2.2.2.2.2.2.2.2.2.2.2.2.2.2.2.2.2.2.2.2.2.2.2.2.2.1.ext O0.2) d2_21 rfl ?_
  intro T49 X49 e49
  refine own_iload_n 25 X49 hx hby d2_24 rfl rfl ?_
  refine own_icY 31 X49 hx hby d2_25 (by decide) (by decide) (feq hc50).2 ?_
  refine own_iinc 34 #[oI x0, oA w_ALL, oI (22 : Int32), oI (1 : Int32), oA w_HELLO] X49 hx hby d2_31 rfl rfl rfl ?_
  refine own_goto 9 X49 hx hby d2_34 (by decide) (by decide) ?_
  refine own_iload_n 10 X49 hx hby d2_9 rfl rfl ?_
  refine own_iload_n 11 X49 hx hby d2_10 rfl rfl ?_
  refine own_icN 14 X49 hx hby d2_11 rfl (by decide) ?_
  refine own_aload_n 15 X49 hx hby d2_14 rfl rfl rfl ?_
  refine own_iload_n 16 X49 hx hby d2_15 rfl rfl ?_
  refine own_aaload 17 (.ref w_ADD_SERVICE) X49 hx hby hZ e49 (W.2.2.2.2.2.2.2.2.2.2.2.2.2.2.2.2.2.2.2.2.2.2.2.2.2.2.2.2.2.2.2.2.2.2.2.2.2.2.2.2.2.2.2.2.2.2.2.2.2.2.2.2.2.2.2.2.2.2.2.2.2.2.2.2.2.2.2.ext O0.2) rfl d2_16 rfl (by decide) rfl ?_
  refine own_astore 19 #[oI x0, oA w_ALL, oI (22 : Int32), oI (1 : Int32), oA w_ADD_SERVICE] X49 hx hby d2_17 rfl rfl rfl ?_
  refine own_aload 21 X49 hx hby d2_19 rfl rfl rfl ?_
  refine own_getF 24 X49 hx hby hZ hown (own_w hw 11 rfl) e49 (W.2.2.2.2.2.2.2.2.2.2.2.2.2.2.2.2.2.2.2.2.2.2.2.2.2.2.2.2.2.2.2.2.2.2.2.2.2.2.2.2.2.2.2.2.2.2.1.ext O0.2) d2_21 rfl ?_
  intro T51 X51 e51
  refine own_iload_n 25 X51 hx hby d2_24 rfl rfl ?_
  refine own_icY 31 X51 hx hby d2_25 (by decide) (by decide) (feq hc52).2 ?_
  refine own_iinc 34 #[oI x0, oA w_ALL, oI (22 : Int32), oI (2 : Int32), oA w_ADD_SERVICE] X51 hx hby d2_31 rfl rfl rfl ?_
  refine own_goto 9 X51 hx hby d2_34 (by decide) (by decide) ?_
  refine own_iload_n 10 X51 hx hby d2_9 rfl rfl ?_
  refine own_iload_n 11 X51 hx hby d2_10 rfl rfl ?_
  refine own_icN 14 X51 hx hby d2_11 rfl (by decide) ?_
  refine own_aload_n 15 X51 hx hby d2_14 rfl rfl rfl ?_
  refine own_iload_n 16 X51 hx hby d2_15 rfl rfl ?_
  refine own_aaload 17 (.ref w_GET_SERVICE) X51 hx hby hZ e51 (W.2.2.2.2.2.2.2.2.2.2.2.2.2.2.2.2.2.2.2.2.2.2.2.2.2.2.2.2.2.2.2.2.2.2.2.2.2.2.2.2.2.2.2.2.2.2.2.2.2.2.2.2.2.2.2.2.2.2.2.2.2.2.2.2.2.2.2.ext O0.2) rfl d2_16 rfl (by decide) rfl ?_
  refine own_astore 19 #[oI x0, oA w_ALL, oI (22 : Int32), oI (2 : Int32), oA w_GET_SERVICE] X51 hx hby d2_17 rfl rfl rfl ?_
  refine own_aload 21 X51 hx hby d2_19 rfl rfl rfl ?_
  refine own_getF 24 X51 hx hby hZ hown (own_w hw 11 rfl) e51 (W.2.2.2.2.2.2.2.2.2.2.2.2.2.2.2.2.2.2.2.2.2.2.2.2.2.2.2.2.2.2.2.2.2.2.2.2.2.2.2.2.2.2.2.2.2.2.2.1.ext O0.2) d2_21 rfl ?_
  intro T53 X53 e53
  refine own_iload_n 25 X53 hx hby d2_24 rfl rfl ?_
  refine own_icY 31 X53 hx hby d2_25 (by decide) (by decide) (feq hc54).2 ?_
  refine own_iinc 34 #[oI x0, oA w_ALL, oI (22 : Int32), oI (3 : Int32), oA w_GET_SERVICE] X53 hx hby d2_31 rfl rfl rfl ?_
  refine own_goto 9 X53 hx hby d2_34 (by decide) (by decide) ?_
  refine own_iload_n 10 X53 hx hby d2_9 rfl rfl ?_
  refine own_iload_n 11 X53 hx hby d2_10 rfl rfl ?_
  refine own_icN 14 X53 hx hby d2_11 rfl (by decide) ?_
  refine own_aload_n 15 X53 hx hby d2_14 rfl rfl rfl ?_
  refine own_iload_n 16 X53 hx hby d2_15 rfl rfl ?_
  refine own_aaload 17 (.ref w_LIST_SERVICES) X53 hx hby hZ e53 (W.2.2.2.2.2.2.2.2.2.2.2.2.2.2.2.2.2.2.2.2.2.2.2.2.2.2.2.2.2.2.2.2.2.2.2.2.2.2.2.2.2.2.2.2.2.2.2.2.2.2.2.2.2.2.2.2.2.2.2.2.2.2.2.2.2.2.2.ext O0.2) rfl d2_16 rfl (by decide) rfl ?_
  refine own_astore 19 #[oI x0, oA w_ALL, oI (22 : Int32), oI (3 : Int32), oA w_LIST_SERVICES] X53 hx hby d2_17 rfl rfl rfl ?_
  refine own_aload 21 X53 hx hby d2_19 rfl rfl rfl ?_
  refine own_getF 24 X53 hx hby hZ hown (own_w hw 11 rfl) e53 (W.2.2.2.2.2.2.2.2.2.2.2.2.2.2.2.2.2.2.2.2.2.2.2.2.2.2.2.2.2.2.2.2.2.2.2.2.2.2.2.2.2.2.2.2.2.2.2.2.1.ext O0.2) d2_21 rfl ?_
  intro T55 X55 e55
  refine own_iload_n 25 X55 hx hby d2_24 rfl rfl ?_
  refine own_icY 31 X55 hx hby d2_25 (by decide) (by decide) (feq hc56).2 ?_
  refine own_iinc 34 #[oI x0, oA w_ALL, oI (22 : Int32), oI (4 : Int32), oA w_LIST_SERVICES] X55 hx hby d2_31 rfl rfl rfl ?_
  refine own_goto 9 X55 hx hby d2_34 (by decide) (by decide) ?_
  refine own_iload_n 10 X55 hx hby d2_9 rfl rfl ?_
  refine own_iload_n 11 X55 hx hby d2_10 rfl rfl ?_
  refine own_icN 14 X55 hx hby d2_11 rfl (by decide) ?_
  refine own_aload_n 15 X55 hx hby d2_14 rfl rfl rfl ?_
  refine own_iload_n 16 X55 hx hby d2_15 rfl rfl ?_
  refine own_aaload 17 (.ref w_TRANSLATE) X55 hx hby hZ e55 (W.2.2.2.2.2.2.2.2.2.2.2.2.2.2.2.2.2.2.2.2.2.2.2.2.2.2.2.2.2.2.2.2.2.2.2.2.2.2.2.2.2.2.2.2.2.2.2.2.2.2.2.2.2.2.2.2.2.2.2.2.2.2.2.2.2.2.2.ext O0.2) rfl d2_16 rfl (by decide) rfl ?_
  refine own_astore 19 #[oI x0, oA w_ALL, oI (22 : Int32), oI (4 : Int32), oA w_TRANSLATE] X55 hx hby d2_17 rfl rfl rfl ?_
  refine own_aload 21 X55 hx hby d2_19 rfl rfl rfl ?_
  refine own_getF 24 X55 hx hby hZ hown (own_w hw 11 rfl) e55 (W.2.2.2.2.2.2.2.2.2.2.2.2.2.2.2.2.2.2.2.2.2.2.2.2.2.2.2.2.2.2.2.2.2.2.2.2.2.2.2.2.2.2.2.2.2.2.2.2.2.1.ext O0.2) d2_21 rfl ?_
  intro T57 X57 e57
  refine own_iload_n 25 X57 hx hby d2_24 rfl rfl ?_
  refine own_icY 31 X57 hx hby d2_25 (by decide) (by decide) (feq hc58).2 ?_
  refine own_iinc 34 #[oI x0, oA w_ALL, oI (22 : Int32), oI (5 : Int32), oA w_TRANSLATE] X57 hx hby d2_31 rfl rfl rfl ?_
  refine own_goto 9 X57 hx hby d2_34 (by decide) (by decide) ?_
  refine own_iload_n 10 X57 hx hby d2_9 rfl rfl ?_
  refine own_iload_n 11 X57 hx hby d2_10 rfl rfl ?_
  refine own_icN 14 X57 hx hby d2_11 rfl (by decide) ?_
  refine own_aload_n 15 X57 hx hby d2_14 rfl rfl rfl ?_
  refine own_iload_n 16 X57 hx hby d2_15 rfl rfl ?_
  refine own_aaload 17 (.ref w_RESOLVE) X57 hx hby hZ e57 (W.2.2.2.2.2.2.2.2.2.2.2.2.2.2.2.2.2.2.2.2.2.2.2.2.2.2.2.2.2.2.2.2.2.2.2.2.2.2.2.2.2.2.2.2.2.2.2.2.2.2.2.2.2.2.2.2.2.2.2.2.2.2.2.2.2.2.2.ext O0.2) rfl d2_16 rfl (by decide) rfl ?_
  refine own_astore 19 #[oI x0, oA w_ALL, oI (22 : Int32), oI (5 : Int32), oA w_RESOLVE] X57 hx hby d2_17 rfl rfl rfl ?_
  refine own_aload 21 X57 hx hby d2_19 rfl rfl rfl ?_
  refine own_getF 24 X57 hx hby hZ hown (own_w hw 11 rfl) e57 (W.2.2.2.2.2.2.2.2.2.2.2.2.2.2.2.2.2.2.2.2.2.2.2.2.2.2.2.2.2.2.2.2.2.2.2.2.2.2.2.2.2.2.2.2.2.2.2.2.2.2.1.ext O0.2) d2_21 rfl ?_
  intro T59 X59 e59
  refine own_iload_n 25 X59 hx hby d2_24 rfl rfl ?_
  refine own_icY 31 X59 hx hby d2_25 (by decide) (by decide) (feq hc60).2 ?_
  refine own_iinc 34 #[oI x0, oA w_ALL, oI (22 : Int32), oI (6 : Int32), oA w_RESOLVE] X59 hx hby d2_31 rfl rfl rfl ?_
  refine own_goto 9 X59 hx hby d2_34 (by decide) (by decide) ?_
  refine own_iload_n 10 X59 hx hby d2_9 rfl rfl ?_
  refine own_iload_n 11 X59 hx hby d2_10 rfl rfl ?_
  refine own_icN 14 X59 hx hby d2_11 rfl (by decide) ?_
  refine own_aload_n 15 X59 hx hby d2_14 rfl rfl rfl ?_
  refine own_iload_n 16 X59 hx hby d2_15 rfl rfl ?_
  refine own_aaload 17 (.ref w_RELEASE) X59 hx hby hZ e59 (W.2.2.2.2.2.2.2.2.2.2.2.2.2.2.2.2.2.2.2.2.2.2.2.2.2.2.2.2.2.2.2.2.2.2.2.2.2.2.2.2.2.2.2.2.2.2.2.2.2.2.2.2.2.2.2.2.2.2.2.2.2.2.2.2.2.2.2.ext O0.2) rfl d2_16 rfl (by decide) rfl ?_
  refine own_astore 19 #[oI x0, oA w_ALL, oI (22 : Int32), oI (6 : Int32), oA w_RELEASE] X59 hx hby d2_17 rfl rfl rfl ?_
  refine own_aload 21 X59 hx hby d2_19 rfl rfl rfl ?_
  refine own_getF 24 X59 hx hby hZ hown (own_w hw 11 rfl) e59 (W.2.2.2.2.2.2.2.2.2.2.2.2.2.2.2.2.2.2.2.2.2.2.2.2.2.2.2.2.2.2.2.2.2.2.2.2.2.2.2.2.2.2.2.2.2.2.2.2.2.2.2.1.ext O0.2) d2_21 rfl ?_
  intro T61 X61 e61
  refine own_iload_n 25 X61 hx hby d2_24 rfl rfl ?_
  refine own_icY 31 X61 hx hby d2_25 (by decide) (by decide) (feq hc62).2 ?_
  refine own_iinc 34 #[oI x0, oA w_ALL, oI (22 : Int32), oI (7 : Int32), oA w_RELEASE] X61 hx hby d2_31 rfl rfl rfl ?_
  refine own_goto 9 X61 hx hby d2_34 (by decide) (by decide) ?_
  refine own_iload_n 10 X61 hx hby d2_9 rfl rfl ?_
  refine own_iload_n 11 X61 hx hby d2_10 rfl rfl ?_
  refine own_icN 14 X61 hx hby d2_11 rfl (by decide) ?_
  refine own_aload_n 15 X61 hx hby d2_14 rfl rfl rfl ?_
  refine own_iload_n 16 X61 hx hby d2_15 rfl rfl ?_
  refine own_aaload 17 (.ref w_STATUS) X61 hx hby hZ e61 (W.2.2.2.2.2.2.2.2.2.2.2.2.2.2.2.2.2.2.2.2.2.2.2.2.2.2.2.2.2.2.2.2.2.2.2.2.2.2.2.2.2.2.2.2.2.2.2.2.2.2.2.2.2.2.2.2.2.2.2.2.2.2.2.2.2.2.2.ext O0.2) rfl d2_16 rfl (by decide) rfl ?_
  refine own_astore 19 #[oI x0, oA w_ALL, oI (22 : Int32), oI (7 : Int32), oA w_STATUS] X61 hx hby d2_17 rfl rfl rfl ?_
  refine own_aload 21 X61 hx hby d2_19 rfl rfl rfl ?_
  refine own_getF 24 X61 hx hby hZ hown (own_w hw 11 rfl) e61 (W.2.2.2.2.2.2.2.2.2.2.2.2.2.2.2.2.2.2.2.2.2.2.2.2.2.2.2.2.2.2.2.2.2.2.2.2.2.2.2.2.2.2.2.2.2.2.2.2.2.2.2.2.1.ext O0.2) d2_21 rfl ?_
  intro T63 X63 e63
  refine own_iload_n 25 X63 hx hby d2_24 rfl rfl ?_
  refine own_icY 31 X63 hx hby d2_25 (by decide) (by decide) (feq hc64).2 ?_
  refine own_iinc 34 #[oI x0, oA w_ALL, oI (22 : Int32), oI (8 : Int32), oA w_STATUS] X63 hx hby d2_31 rfl rfl rfl ?_
  refine own_goto 9 X63 hx hby d2_34 (by decide) (by decide) ?_
  refine own_iload_n 10 X63 hx hby d2_9 rfl rfl ?_
  refine own_iload_n 11 X63 hx hby d2_10 rfl rfl ?_
  refine own_icN 14 X63 hx hby d2_11 rfl (by decide) ?_
  refine own_aload_n 15 X63 hx hby d2_14 rfl rfl rfl ?_
  refine own_iload_n 16 X63 hx hby d2_15 rfl rfl ?_
  refine own_aaload 17 (.ref w_WAITING) X63 hx hby hZ e63 (W.2.2.2.2.2.2.2.2.2.2.2.2.2.2.2.2.2.2.2.2.2.2.2.2.2.2.2.2.2.2.2.2.2.2.2.2.2.2.2.2.2.2.2.2.2.2.2.2.2.2.2.2.2.2.2.2.2.2.2.2.2.2.2.2.2.2.2.ext O0.2) rfl d2_16 rfl (by decide) rfl ?_
  refine own_astore 19 #[oI x0, oA w_ALL, oI (22 : Int32), oI (8 : Int32), oA w_WAITING] X63 hx hby d2_17 rfl rfl rfl ?_
  refine own_aload 21 X63 hx hby d2_19 rfl rfl rfl ?_
  refine own_getF 24 X63 hx hby hZ hown (own_w hw 11 rfl) e63 (W.2.2.2.2.2.2.2.2.2.2.2.2.2.2.2.2.2.2.2.2.2.2.2.2.2.2.2.2.2.2.2.2.2.2.2.2.2.2.2.2.2.2.2.2.2.2.2.2.2.2.2.2.2.1.ext O0.2) d2_21 rfl ?_
  intro T65 X65 e65
  refine own_iload_n 25 X65 hx hby d2_24 rfl rfl ?_
  refine own_icY 31 X65 hx hby d2_25 (by decide) (by decide) (feq hc66).2 ?_
  refine own_iinc 34 #[oI x0, oA w_ALL, oI (22 : Int32), oI (9 : Int32), oA w_WAITING] X65 hx hby d2_31 rfl rfl rfl ?_
  refine own_goto 9 X65 hx hby d2_34 (by decide) (by decide) ?_
  refine own_iload_n 10 X65 hx hby d2_9 rfl rfl ?_
  refine own_iload_n 11 X65 hx hby d2_10 rfl rfl ?_
  refine own_icN 14 X65 hx hby d2_11 rfl (by decide) ?_
  refine own_aload_n 15 X65 hx hby d2_14 rfl rfl rfl ?_
  refine own_iload_n 16 X65 hx hby d2_15 rfl rfl ?_
  refine own_aaload 17 (.ref w_WATCH) X65 hx hby hZ e65 (W.2.2.2.2.2.2.2.2.2.2.2.2.2.2.2.2.2.2.2.2.2.2.2.2.2.2.2.2.2.2.2.2.2.2.2.2.2.2.2.2.2.2.2.2.2.2.2.2.2.2.2.2.2.2.2.2.2.2.2.2.2.2.2.2.2.2.2.ext O0.2) rfl d2_16 rfl (by decide) rfl ?_
  refine own_astore 19 #[oI x0, oA w_ALL, oI (22 : Int32), oI (9 : Int32), oA w_WATCH] X65 hx hby d2_17 rfl rfl rfl ?_
  refine own_aload 21 X65 hx hby d2_19 rfl rfl rfl ?_
  refine own_getF 24 X65 hx hby hZ hown (own_w hw 11 rfl) e65 (W.2.2.2.2.2.2.2.2.2.2.2.2.2.2.2.2.2.2.2.2.2.2.2.2.2.2.2.2.2.2.2.2.2.2.2.2.2.2.2.2.2.2.2.2.2.2.2.2.2.2.2.2.2.2.1.ext O0.2) d2_21 rfl ?_
  intro T67 X67 e67
  refine own_iload_n 25 X67 hx hby d2_24 rfl rfl ?_
  refine own_icY 31 X67 hx hby d2_25 (by decide) (by decide) (feq hc68).2 ?_
  refine own_iinc 34 #[oI x0, oA w_ALL, oI (22 : Int32), oI (10 : Int32), oA w_WATCH] X67 hx hby d2_31 rfl rfl rfl ?_
  refine own_goto 9 X67 hx hby d2_34 (by decide) (by decide) ?_
  refine own_iload_n 10 X67 hx hby d2_9 rfl rfl ?_
  refine own_iload_n 11 X67 hx hby d2_10 rfl rfl ?_
  refine own_icN 14 X67 hx hby d2_11 rfl (by decide) ?_
  refine own_aload_n 15 X67 hx hby d2_14 rfl rfl rfl ?_
  refine own_iload_n 16 X67 hx hby d2_15 rfl rfl ?_
  refine own_aaload 17 (.ref w_ACQUIRE) X67 hx hby hZ e67 (W.2.2.2.2.2.2.2.2.2.2.2.2.2.2.2.2.2.2.2.2.2.2.2.2.2.2.2.2.2.2.2.2.2.2.2.2.2.2.2.2.2.2.2.2.2.2.2.2.2.2.2.2.2.2.2.2.2.2.2.2.2.2.2.2.2.2.2.ext O0.2) rfl d2_16 rfl (by decide) rfl ?_
  refine own_astore 19 #[oI x0, oA w_ALL, oI (22 : Int32), oI (10 : Int32), oA w_ACQUIRE] X67 hx hby d2_17 rfl rfl rfl ?_
  refine own_aload 21 X67 hx hby d2_19 rfl rfl rfl ?_
  refine own_getF 24 X67 hx hby hZ hown (own_w hw 11 rfl) e67 (W.2.2.2.2.2.2.2.2.2.2.2.2.2.2.2.2.2.2.2.2.2.2.2.2.2.2.2.2.2.2.2.2.2.2.2.2.2.2.2.2.2.2.2.2.2.2.2.2.2.2.2.2.2.2.2.1.ext O0.2) d2_21 rfl ?_
  intro T69 X69 e69
  refine own_iload_n 25 X69 hx hby d2_24 rfl rfl ?_
  refine own_icY 31 X69 hx hby d2_25 (by decide) (by decide) (feq hc70).2 ?_
  refine own_iinc 34 #[oI x0, oA w_ALL, oI (22 : Int32), oI (11 : Int32), oA w_ACQUIRE] X69 hx hby d2_31 rfl rfl rfl ?_
  refine own_goto 9 X69 hx hby d2_34 (by decide) (by decide) ?_
  refine own_iload_n 10 X69 hx hby d2_9 rfl rfl ?_
  refine own_iload_n 11 X69 hx hby d2_10 rfl rfl ?_
  refine own_icN 14 X69 hx hby d2_11 rfl (by decide) ?_
  refine own_aload_n 15 X69 hx hby d2_14 rfl rfl rfl ?_
  refine own_iload_n 16 X69 hx hby d2_15 rfl rfl ?_
  refine own_aaload 17 (.ref w_RETIRE) X69 hx hby hZ e69 (W.2.2.2.2.2.2.2.2.2.2.2.2.2.2.2.2.2.2.2.2.2.2.2.2.2.2.2.2.2.2.2.2.2.2.2.2.2.2.2.2.2.2.2.2.2.2.2.2.2.2.2.2.2.2.2.2.2.2.2.2.2.2.2.2.2.2.2.ext O0.2) rfl d2_16 rfl (by decide) rfl ?_
  refine own_astore 19 #[oI x0, oA w_ALL, oI (22 : Int32), oI (11 : Int32), oA w_RETIRE] X69 hx hby d2_17 rfl rfl rfl ?_
  refine own_aload 21 X69 hx hby d2_19 rfl rfl rfl ?_
  refine own_getF 24 X69 hx hby hZ hown (own_w hw 11 rfl) e69 (W.2.2.2.2.2.2.2.2.2.2.2.2.2.2.2.2.2.2.2.2.2.2.2.2.2.2.2.2.2.2.2.2.2.2.2.2.2.2.2.2.2.2.2.2.2.2.2.2.2.2.2.2.2.2.2.2.1.ext O0.2) d2_21 rfl ?_
  intro T71 X71 e71
  refine own_iload_n 25 X71 hx hby d2_24 rfl rfl ?_
  refine own_icY 31 X71 hx hby d2_25 (by decide) (by decide) (feq hc72).2 ?_
  refine own_iinc 34 #[oI x0, oA w_ALL, oI (22 : Int32), oI (12 : Int32), oA w_RETIRE] X71 hx hby d2_31 rfl rfl rfl ?_
  refine own_goto 9 X71 hx hby d2_34 (by decide) (by decide) ?_
  refine own_iload_n 10 X71 hx hby d2_9 rfl rfl ?_
  refine own_iload_n 11 X71 hx hby d2_10 rfl rfl ?_
  refine own_icN 14 X71 hx hby d2_11 rfl (by decide) ?_
  refine own_aload_n 15 X71 hx hby d2_14 rfl rfl rfl ?_
  refine own_iload_n 16 X71 hx hby d2_15 rfl rfl ?_
  refine own_aaload 17 (.ref w_RESULT) X71 hx hby hZ e71 (W.2.2.2.2.2.2.2.2.2.2.2.2.2.2.2.2.2.2.2.2.2.2.2.2.2.2.2.2.2.2.2.2.2.2.2.2.2.2.2.2.2.2.2.2.2.2.2.2.2.2.2.2.2.2.2.2.2.2.2.2.2.2.2.2.2.2.2.ext O0.2) rfl d2_16 rfl (by decide) rfl ?_
  refine own_astore 19 #[oI x0, oA w_ALL, oI (22 : Int32), oI (12 : Int32), oA w_RESULT] X71 hx hby d2_17 rfl rfl rfl ?_
  refine own_aload 21 X71 hx hby d2_19 rfl rfl rfl ?_
  refine own_getF 24 X71 hx hby hZ hown (own_w hw 11 rfl) e71 (W.2.2.2.2.2.2.2.2.2.2.2.2.2.2.2.2.2.2.2.2.2.2.2.2.2.2.2.2.2.2.2.2.2.2.2.2.2.2.2.2.2.2.2.2.2.2.2.2.2.2.2.2.2.2.2.2.2.1.ext O0.2) d2_21 rfl ?_
  intro T73 X73 e73
  refine own_iload_n 25 X73 hx hby d2_24 rfl rfl ?_
  refine own_icY 31 X73 hx hby d2_25 (by decide) (by decide) (feq hc74).2 ?_
  refine own_iinc 34 #[oI x0, oA w_ALL, oI (22 : Int32), oI (13 : Int32), oA w_RESULT] X73 hx hby d2_31 rfl rfl rfl ?_
  refine own_goto 9 X73 hx hby d2_34 (by decide) (by decide) ?_
  refine own_iload_n 10 X73 hx hby d2_9 rfl rfl ?_
  refine own_iload_n 11 X73 hx hby d2_10 rfl rfl ?_
  refine own_icN 14 X73 hx hby d2_11 rfl (by decide) ?_
  refine own_aload_n 15 X73 hx hby d2_14 rfl rfl rfl ?_
  refine own_iload_n 16 X73 hx hby d2_15 rfl rfl ?_
  refine own_aaload 17 (.ref w_FAILURE) X73 hx hby hZ e73 (W.2.2.2.2.2.2.2.2.2.2.2.2.2.2.2.2.2.2.2.2.2.2.2.2.2.2.2.2.2.2.2.2.2.2.2.2.2.2.2.2.2.2.2.2.2.2.2.2.2.2.2.2.2.2.2.2.2.2.2.2.2.2.2.2.2.2.2.ext O0.2) rfl d2_16 rfl (by decide) rfl ?_
  refine own_astore 19 #[oI x0, oA w_ALL, oI (22 : Int32), oI (13 : Int32), oA w_FAILURE] X73 hx hby d2_17 rfl rfl rfl ?_
  refine own_aload 21 X73 hx hby d2_19 rfl rfl rfl ?_
  refine own_getF 24 X73 hx hby hZ hown (own_w hw 11 rfl) e73 (W.2.2.2.2.2.2.2.2.2.2.2.2.2.2.2.2.2.2.2.2.2.2.2.2.2.2.2.2.2.2.2.2.2.2.2.2.2.2.2.2.2.2.2.2.2.2.2.2.2.2.2.2.2.2.2.2.2.2.1.ext O0.2) d2_21 rfl ?_
  intro T75 X75 e75
  refine own_iload_n 25 X75 hx hby d2_24 rfl rfl ?_
  refine own_icN 28 X75 hx hby d2_25 rfl (teq hc76).2 ?_
  refine own_aload 30 X75 hx hby d2_28 rfl rfl rfl ?_
  exact own_ret (Q := own_Q _ n0 h0) X75 hx hby hret hlk d2_30 rfl (Or.inr (Or.inr (Or.inr (Or.inr ⟨rfl, rfl, rfl⟩)))) (by decide) (by decide) ⟨rfl, N0, e75⟩
set_option maxRecDepth 65536 in
set_option maxHeartbeats 40000000 in
theorem rm2_15 (l : Launch) (Z : State) (a0 : Array Value) (hw : ∀ d ∈ tables_1, d.before a0 Z = true) (ws : List Jvm.Cond) (w_HELLO w_ADD_SERVICE w_GET_SERVICE w_LIST_SERVICES w_TRANSLATE w_RESOLVE w_RELEASE w_STATUS w_WAITING w_WATCH w_ACQUIRE w_RETIRE w_RESULT w_FAILURE w_DEAD w_COUNT_WAITING w_CLOSING w_UNHELD w_OPEN w_TRANSACTION w_REPLY w_KNOCK w_ALL k_ALL : Addr) (W : own_W Z w_HELLO w_ADD_SERVICE w_GET_SERVICE w_LIST_SERVICES w_TRANSLATE w_RESOLVE w_RELEASE w_STATUS w_WAITING w_WATCH w_ACQUIRE w_RETIRE w_RESULT w_FAILURE w_DEAD w_COUNT_WAITING w_CLOSING w_UNHELD w_OPEN w_TRANSACTION w_REPLY w_KNOCK w_ALL k_ALL) (x0 : Int32) (h0 : Heap) (n0 : Nat) (O0 : Old Z n0 h0) (hc50 : ¬ ((1 : Int32) = x0)) (hc52 : ¬ ((2 : Int32) = x0)) (hc54 : ¬ ((3 : Int32) = x0)) (hc56 : ¬ ((4 : Int32) = x0)) (hc58 : ¬ ((5 : Int32) = x0)) (hc60 : ¬ ((6 : Int32) = x0)) (hc62 : ¬ ((7 : Int32) = x0)) (hc64 : ¬ ((8 : Int32) = x0)) (hc66 : ¬ ((9 : Int32) = x0)) (hc68 : ¬ ((10 : Int32) = x0)) (hc70 : ¬ ((11 : Int32) = x0)) (hc72 : ¬ ((12 : Int32) = x0)) (hc74 : ¬ ((16 : Int32) = x0)) (hc76 : ¬ ((17 : Int32) = x0)) (hc78 : (18 : Int32) = x0) :
    MetFree l (⟨"com/example/hop1/hop1/protocol/FrameKind", "of", "(I)Lcom/example/hop1/hop1/protocol/FrameKind;"⟩ : MethodName) (head1 (Jvm.Cond.code (⟨"com/example/hop1/hop1/protocol/FrameKind", "of", "(I)Lcom/example/hop1/hop1/protocol/FrameKind;"⟩ : MethodName) prog_113_method_5_code 5 (some (.object "com/example/hop1/hop1/protocol/FrameKind")) :: ws) ({ frames := 0, cells := 0, slots := 0, locals := 0 } : Room)) (fun a U => a = #[(.int x0)] ∧ Z.Warmed39 U.vm ∧ U.heap = h0) (fun _ _ _ _ _ => True) (fun _ U o U' => ∃ v L, o = .returned v ∧ own_Q (some (.ref w_DEAD)) n0 h0 v U'.heap L ∧ FrameEnd U o U' L ({ frames := 0, cells := 0, slots := 0, locals := 0 } : Room).cells ({ frames := 0, cells := 0, slots := 0, locals := 0 } : Room).slots) := by
  refine MetFree.of_bodySF (plainFor_of_name pn_1) hisR ?_
  intro p e s m args below meth c s₁ Bd hml0 hP hK
  obtain ⟨rfl, hZ, hh⟩ := hP
  have hx := Bd.exec
  have hby := Bd.bytes
  have hml : c.maxLocals = 5 := hml0
  have hlk := BodyLoose.notSynchronized Bd
  have hret := Bd.returns
  have hown : s.vm.findClass "com/example/hop1/hop1/protocol/FrameKind" = some m.cls := findClass_of_methodNamed Bd.named
  have hnm := (name_of_methodNamed Bd.named Bd.method).1
  have X0 : Stand p l e ({ frames := 0, cells := 0, slots := 0, locals := 0 } : Room) s m #[(.int x0)] below meth c s₁ [] 0 0 := Stand.of_body Bd
  have e0 : s₁.heap = h0 := by rw [← hh, Bd.state]; rfl
  have N0 := Fr.nil n0
  rw [ef_2 m x0]
  show Go p e below _ (s₁.setTop (mkF m 0 #[oI x0, oU, oU, oU, oU] []))
  refine own_getS 3 X0 hx hby hZ hown (own_w hw 8 rfl) e0 (W.2.2.2.2.2.2.2.2.2.2.2.2.2.2.2.2.2.2.2.2.2.2.2.2.2.2.2.2.2.2.2.2.2.2.2.2.2.2.2.2.2.2.2.2.1.ext O0.2) d2_0 rfl ?_
  intro T48 X48 e48
  refine own_astore_n 4 #[oI x0, oA w_ALL, oU, oU, oU] X48 hx hby d2_3 rfl rfl rfl ?_
  refine own_aload_n 5 X48 hx hby d2_4 rfl rfl rfl ?_
  refine own_len 6 X48 hx hby hZ e48 (W.2.2.2.2.2.2.2.2.2.2.2.2.2.2.2.2.2.2.2.2.2.2.2.2.2.2.2.2.2.2.2.2.2.2.2.2.2.2.2.2.2.2.2.2.2.2.2.2.2.2.2.2.2.2.2.2.2.2.2.2.2.2.2.2.2.2.2.ext O0.2) d2_5 rfl ?_
  refine own_istore_n 7 #[oI x0, oA w_ALL, oI (22 : Int32), oU, oU] X48 hx hby d2_6 rfl rfl ?_
  refine own_iconst 8 (0 : Int32) X48 hx hby d2_7 rfl (by decide) ?_
  refine own_istore_n 9 #[oI x0, oA w_ALL, oI (22 : Int32), oI (0 : Int32), oU] X48 hx hby d2_8 rfl rfl ?_
  refine own_iload_n 10 X48 hx hby d2_9 rfl rfl ?_
  refine own_iload_n 11 X48 hx hby d2_10 rfl rfl ?_
  refine own_icN 14 X48 hx hby d2_11 rfl (by decide) ?_
  refine own_aload_n 15 X48 hx hby d2_14 rfl rfl rfl ?_
  refine own_iload_n 16 X48 hx hby d2_15 rfl rfl ?_
  refine own_aaload 17 (.ref w_HELLO) X48 hx hby hZ e48 (W.2.2.2.2.2.2.2.2.2.2.2.2.2.2.2.2.2.2.2.2.2.2.2.2.2.2.2.2.2.2.2.2.2.2.2.2.2.2.2.2.2.2.2.2.2.2.2.2.2.2.2.2.2.2.2.2.2.2.2.2.2.2.2.2.2.2.2.ext O0.2) rfl d2_16 rfl (by decide) rfl ?_
  refine own_astore 19 #[oI x0, oA w_ALL, oI (22 : Int32), oI (0 : Int32), oA w_HELLO] X48 hx hby d2_17 rfl rfl rfl ?_
  refine own_aload 21 X48 hx hby d2_19 rfl rfl rfl ?_
  refine own_getF 24 X48 hx hby hZ hown (own_w hw 11 rfl) e48 (W.2.2.2.2.2.2.2.2.2.2.2.2.2.2.2.2.2.2.2.2.2.2.2.2.2.2.2.2.2.2.2.2.2.2.2.2.2.2.2.2.2.2.2.2.2.1.ext O0.2) d2_21 rfl ?_
  intro T49 X49 e49
  refine own_iload_n 25 X49 hx hby d2_24 rfl rfl ?_
  refine own_icY 31 X49 hx hby d2_25 (by decide) (by decide) (feq hc50).2 ?_
  refine own_iinc 34 #[oI x0, oA w_ALL, oI (22 : Int32), oI (1 : Int32), oA w_HELLO] X49 hx hby d2_31 rfl rfl rfl ?_
  refine own_goto 9 X49 hx hby d2_34 (by decide) (by decide) ?_
  refine own_iload_n 10 X49 hx hby d2_9 rfl rfl ?_
  refine own_iload_n 11 X49 hx hby d2_10 rfl rfl ?_
  refine own_icN 14 X49 hx hby d2_11 rfl (by decide) ?_
  refine own_aload_n 15 X49 hx hby d2_14 rfl rfl rfl ?_
  refine own_iload_n 16 X49 hx hby d2_15 rfl rfl ?_
  refine own_aaload 17 (.ref w_ADD_SERVICE) X49 hx hby hZ e49 (W.2.2.2.2.2.2.2.2.2.2.2.2.2.2.2.2.2.2.2.2.2.2.2.2.2.2.2.2.2.2.2.2.2.2.2.2.2.2.2.2.2.2.2.2.2.2.2.2.2.2.2.2.2.2.2.2.2.2.2.2.2.2.2.2.2.2.2.ext O0.2) rfl d2_16 rfl (by decide) rfl ?_
  refine own_astore 19 #[oI x0, oA w_ALL, oI (22 : Int32), oI (1 : Int32), oA w_ADD_SERVICE] X49 hx hby d2_17 rfl rfl rfl ?_
  refine own_aload 21 X49 hx hby d2_19 rfl rfl rfl ?_
  refine own_getF 24 X49 hx hby hZ hown (own_w hw 11 rfl) e49 (W.2.2.2.2.2.2.2.2.2.2.2.2.2.2.2.2.2.2.2.2.2.2.2.2.2.2.2.2.2.2.2.2.2.2.2.2.2.2.2.2.2.2.2.2.2.2.1.ext O0.2) d2_21 rfl ?_
  intro T51 X51 e51
  refine own_iload_n 25 X51 hx hby d2_24 rfl rfl ?_
  refine own_icY 31 X51 hx hby d2_25 (by decide) (by decide) (feq hc52).2 ?_
  refine own_iinc 34 #[oI x0, oA w_ALL, oI (22 : Int32), oI (2 : Int32), oA w_ADD_SERVICE] X51 hx hby d2_31 rfl rfl rfl ?_
  refine own_goto 9 X51 hx hby d2_34 (by decide) (by decide) ?_
  refine own_iload_n 10 X51 hx hby d2_9 rfl rfl ?_
  refine own_iload_n 11 X51 hx hby d2_10 rfl rfl ?_
  refine own_icN 14 X51 hx hby d2_11 rfl (by decide) ?_
  refine own_aload_n 15 X51 hx hby d2_14 rfl rfl rfl ?_
  refine own_iload_n 16 X51 hx hby d2_15 rfl rfl ?_
  refine own_aaload 17 (.ref w_GET_SERVICE) X51 hx hby hZ e51 (W.2.2.2.2.2.2.2.2.2.2.2.2.2.2.2.2.2.2.2.2.2.2.2.2.2.2.2.2.2.2.2.2.2.2.2.2.2.2.2.2.2.2.2.2.2.2.2.2.2.2.2.2.2.2.2.2.2.2.2.2.2.2.2.2.2.2.2.ext O0.2) rfl d2_16 rfl (by decide) rfl ?_
  refine own_astore 19 #[oI x0, oA w_ALL, oI (22 : Int32), oI (2 : Int32), oA w_GET_SERVICE] X51 hx hby d2_17 rfl rfl rfl ?_
  refine own_aload 21 X51 hx hby d2_19 rfl rfl rfl ?_
  refine own_getF 24 X51 hx hby hZ hown (own_w hw 11 rfl) e51 (W.2.2.2.2.2.2.2.2.2.2.2.2.2.2.2.2.2.2.2.2.2.2.2.2.2.2.2.2.2.2.2.2.2.2.2.2.2.2.2.2.2.2.2.2.2.2.2.1.ext O0.2) d2_21 rfl ?_
  intro T53 X53 e53
  refine own_iload_n 25 X53 hx hby d2_24 rfl rfl ?_
  refine own_icY 31 X53 hx hby d2_25 (by decide) (by decide) (feq hc54).2 ?_
  refine own_iinc 34 #[oI x0, oA w_ALL, oI (22 : Int32), oI (3 : Int32), oA w_GET_SERVICE] X53 hx hby d2_31 rfl rfl rfl ?_
  refine own_goto 9 X53 hx hby d2_34 (by decide) (by decide) ?_
  refine own_iload_n 10 X53 hx hby d2_9 rfl rfl ?_
  refine own_iload_n 11 X53 hx hby d2_10 rfl rfl ?_
  refine own_icN 14 X53 hx hby d2_11 rfl (by decide) ?_
  refine own_aload_n 15 X53 hx hby d2_14 rfl rfl rfl ?_
  refine own_iload_n 16 X53 hx hby d2_15 rfl rfl ?_
  refine own_aaload 17 (.ref w_LIST_SERVICES) X53 hx hby hZ e53 (W.2.2.2.2.2.2.2.2.2.2.2.2.2.2.2.2.2.2.2.2.2.2.2.2.2.2.2.2.2.2.2.2.2.2.2.2.2.2.2.2.2.2.2.2.2.2.2.2.2.2.2.2.2.2.2.2.2.2.2.2.2.2.2.2.2.2.2.ext O0.2) rfl d2_16 rfl (by decide) rfl ?_
  refine own_astore 19 #[oI x0, oA w_ALL, oI (22 : Int32), oI (3 : Int32), oA w_LIST_SERVICES] X53 hx hby d2_17 rfl rfl rfl ?_
  refine own_aload 21 X53 hx hby d2_19 rfl rfl rfl ?_
  refine own_getF 24 X53 hx hby hZ hown (own_w hw 11 rfl) e53 (W.2.2.2.2.2.2.2.2.2.2.2.2.2.2.2.2.2.2.2.2.2.2.2.2.2.2.2.2.2.2.2.2.2.2.2.2.2.2.2.2.2.2.2.2.2.2.2.2.1.ext O0.2) d2_21 rfl ?_
  intro T55 X55 e55
  refine own_iload_n 25 X55 hx hby d2_24 rfl rfl ?_
  refine own_icY 31 X55 hx hby d2_25 (by decide) (by decide) (feq hc56).2 ?_
  refine own_iinc 34 #[oI x0, oA w_ALL, oI (22 : Int32), oI (4 : Int32), oA w_LIST_SERVICES] X55 hx hby d2_31 rfl rfl rfl ?_
  refine own_goto 9 X55 hx hby d2_34 (by decide) (by decide) ?_
  refine own_iload_n 10 X55 hx hby d2_9 rfl rfl ?_
  refine own_iload_n 11 X55 hx hby d2_10 rfl rfl ?_
  refine own_icN 14 X55 hx hby d2_11 rfl (by decide) ?_
  refine own_aload_n 15 X55 hx hby d2_14 rfl rfl rfl ?_
  refine own_iload_n 16 X55 hx hby d2_15 rfl rfl ?_
  refine own_aaload 17 (.ref w_TRANSLATE) X55 hx hby hZ e55 (W.2.2.2.2.2.2.2.2.2.2.2.2.2.2.2.2.2.2.2.2.2.2.2.2.2.2.2.2.2.2.2.2.2.2.2.2.2.2.2.2.2.2.2.2.2.2.2.2.2.2.2.2.2.2.2.2.2.2.2.2.2.2.2.2.2.2.2.ext O0.2) rfl d2_16 rfl (by decide) rfl ?_
  refine own_astore 19 #[oI x0, oA w_ALL, oI (22 : Int32), oI (4 : Int32), oA w_TRANSLATE] X55 hx hby d2_17 rfl rfl rfl ?_
  refine own_aload 21 X55 hx hby d2_19 rfl rfl rfl ?_
  refine own_getF 24 X55 hx hby hZ hown (own_w hw 11 rfl) e55 (W.2.2.2.2.2.2.2.2.2.2.2.2.2.2.2.2.2.2.2.2.2.2.2.2.2.2.2.2.2.2.2.2.2.2.2.2.2.2.2.2.2.2.2.2.2.2.2.2.2.1.ext O0.2) d2_21 rfl ?_
  intro T57 X57 e57
  refine own_iload_n 25 X57 hx hby d2_24 rfl rfl ?_
  refine own_icY 31 X57 hx hby d2_25 (by decide) (by decide) (feq hc58).2 ?_
  refine own_iinc 34 #[oI x0, oA w_ALL, oI (22 : Int32), oI (5 : Int32), oA w_TRANSLATE] X57 hx hby d2_31 rfl rfl rfl ?_
  refine own_goto 9 X57 hx hby d2_34 (by decide) (by decide) ?_
  refine own_iload_n 10 X57 hx hby d2_9 rfl rfl ?_
  refine own_iload_n 11 X57 hx hby d2_10 rfl rfl ?_
  refine own_icN 14 X57 hx hby d2_11 rfl (by decide) ?_
  refine own_aload_n 15 X57 hx hby d2_14 rfl rfl rfl ?_
  refine own_iload_n 16 X57 hx hby d2_15 rfl rfl ?_
  refine own_aaload 17 (.ref w_RESOLVE) X57 hx hby hZ e57 (W.2.2.2.2.2.2.2.2.2.2.2.2.2.2.2.2.2.2.2.2.2.2.2.2.2.2.2.2.2.2.2.2.2.2.2.2.2.2.2.2.2.2.2.2.2.2.2.2.2.2.2.2.2.2.2.2.2.2.2.2.2.2.2.2.2.2.2.ext O0.2) rfl d2_16 rfl (by decide) rfl ?_
  refine own_astore 19 #[oI x0, oA w_ALL, oI (22 : Int32), oI (5 : Int32), oA w_RESOLVE] X57 hx hby d2_17 rfl rfl rfl ?_
  refine own_aload 21 X57 hx hby d2_19 rfl rfl rfl ?_
  refine own_getF 24 X57 hx hby hZ hown (own_w hw 11 rfl) e57 (W.2.2.2.2.2.2.2.2.2.2.2.2.2.2.2.2.2.2.2.2.2.2.2.2.2.2.2.2.2.2.2.2.2.2.2.2.2.2.2.2.2.2.2.2.2.2.2.2.2.2.1.ext O0.2) d2_21 rfl ?_
  intro T59 X59 e59
  refine own_iload_n 25 X59 hx hby d2_24 rfl rfl ?_
  refine own_icY 31 X59 hx hby d2_25 (by decide) (by decide) (feq hc60).2 ?_
  refine own_iinc 34 #[oI x0, oA w_ALL, oI (22 : Int32), oI (6 : Int32), oA w_RESOLVE] X59 hx hby d2_31 rfl rfl rfl ?_
  refine own_goto 9 X59 hx hby d2_34 (by decide) (by decide) ?_
  refine own_iload_n 10 X59 hx hby d2_9 rfl rfl ?_
  refine own_iload_n 11 X59 hx hby d2_10 rfl rfl ?_
  refine own_icN 14 X59 hx hby d2_11 rfl (by decide) ?_
  refine own_aload_n 15 X59 hx hby d2_14 rfl rfl rfl ?_
  refine own_iload_n 16 X59 hx hby d2_15 rfl rfl ?_
  refine own_aaload 17 (.ref w_RELEASE) X59 hx hby hZ e59 (W.2.2.2.2.2.2.2.2.2.2.2.2.2.2.2.2.2.2.2.2.2.2.2.2.2.2.2.2.2.2.2.2.2.2.2.2.2.2.2.2.2.2.2.2.2.2.2.2.2.2.2.2.2.2.2.2.2.2.2.2.2.2.2.2.2.2.2.ext O0.2) rfl d2_16 rfl (by decide) rfl ?_
  refine own_astore 19 #[oI x0, oA w_ALL, oI (22 : Int32), oI (6 : Int32), oA w_RELEASE] X59 hx hby d2_17 rfl rfl rfl ?_
  refine own_aload 21 X59 hx hby d2_19 rfl rfl rfl ?_
  refine own_getF 24 X59 hx hby hZ hown (own_w hw 11 rfl) e59 (W.2.2.2.2.2.2.2.2.2.2.2.2.2.2.2.2.2.2.2.2.2.2.2.2.2.2.2.2.2.2.2.2.2.2.2.2.2.2.2.2.2.2.2.2.2.2.2.2.2.2.2.1.ext O0.2) d2_21 rfl ?_
  intro T61 X61 e61
  refine own_iload_n 25 X61 hx hby d2_24 rfl rfl ?_
  refine own_icY 31 X61 hx hby d2_25 (by decide) (by decide) (feq hc62).2 ?_
  refine own_iinc 34 #[oI x0, oA w_ALL, oI (22 : Int32), oI (7 : Int32), oA w_RELEASE] X61 hx hby d2_31 rfl rfl rfl ?_
  refine own_goto 9 X61 hx hby d2_34 (by decide) (by decide) ?_
  refine own_iload_n 10 X61 hx hby d2_9 rfl rfl ?_
  refine own_iload_n 11 X61 hx hby d2_10 rfl rfl ?_
  refine own_icN 14 X61 hx hby d2_11 rfl (by decide) ?_
  refine own_aload_n 15 X61 hx hby d2_14 rfl rfl rfl ?_
  refine own_iload_n 16 X61 hx hby d2_15 rfl rfl ?_
  refine own_aaload 17 (.ref w_STATUS) X61 hx hby hZ e61 (W.2.2.2.2.2.2.2.2.2.2.2.2.2.2.2.2.2.2.2.2.2.2.2.2.2.2.2.2.2.2.2.2.2.2.2.2.2.2.2.2.2.2.2.2.2.2.2.2.2.2.2.2.2.2.2.2.2.2.2.2.2.2.2.2.2.2.2.ext O0.2) rfl d2_16 rfl (by decide) rfl ?_
  refine own_astore 19 #[oI x0, oA w_ALL, oI (22 : Int32), oI (7 : Int32), oA w_STATUS] X61 hx hby d2_17 rfl rfl rfl ?_
  refine own_aload 21 X61 hx hby d2_19 rfl rfl rfl ?_
  refine own_getF 24 X61 hx hby hZ hown (own_w hw 11 rfl) e61 (W.2.2.2.2.2.2.2.2.2.2.2.2.2.2.2.2.2.2.2.2.2.2.2.2.2.2.2.2.2.2.2.2.2.2.2.2.2.2.2.2.2.2.2.2.2.2.2.2.2.2.2.2.1.ext O0.2) d2_21 rfl ?_
  intro T63 X63 e63
  refine own_iload_n 25 X63 hx hby d2_24 rfl rfl ?_
  refine own_icY 31 X63 hx hby d2_25 (by decide) (by decide) (feq hc64).2 ?_
  refine own_iinc 34 #[oI x0, oA w_ALL, oI (22 : Int32), oI (8 : Int32), oA w_STATUS] X63 hx hby d2_31 rfl rfl rfl ?_
  refine own_goto 9 X63 hx hby d2_34 (by decide) (by decide) ?_
  refine own_iload_n 10 X63 hx hby d2_9 rfl rfl ?_
  refine own_iload_n 11 X63 hx hby d2_10 rfl rfl ?_
  refine own_icN 14 X63 hx hby d2_11 rfl (by decide) ?_
  refine own_aload_n 15 X63 hx hby d2_14 rfl rfl rfl ?_
  refine own_iload_n 16 X63 hx hby d2_15 rfl rfl ?_
  refine own_aaload 17 (.ref w_WAITING) X63 hx hby hZ e63 (W.2.2.2.2.2.2.2.2.2.2.2.2.2.2.2.2.2.2.2.2.2.2.2.2.2.2.2.2.2.2.2.2.2.2.2.2.2.2.2.2.2.2.2.2.2.2.2.2.2.2.2.2.2.2.2.2.2.2.2.2.2.2.2.2.2.2.2.ext O0.2) rfl d2_16 rfl (by decide) rfl ?_
  refine own_astore 19 #[oI x0, oA w_ALL, oI (22 : Int32), oI (8 : Int32), oA w_WAITING] X63 hx hby d2_17 rfl rfl rfl ?_
  refine own_aload 21 X63 hx hby d2_19 rfl rfl rfl ?_
  refine own_getF 24 X63 hx hby hZ hown (own_w hw 11 rfl) e63 (W.2.2.2.2.2.2.2.2.2.2.2.2.2.2.2.2.2.2.2.2.2.2.2.2.2.2.2.2.2.2.2.2.2.2.2.2.2.2.2.2.2.2.2.2.2.2.2.2.2.2.2.2.2.1.ext O0.2) d2_21 rfl ?_
  intro T65 X65 e65
  refine own_iload_n 25 X65 hx hby d2_24 rfl rfl ?_
  refine own_icY 31 X65 hx hby d2_25 (by decide) (by decide) (feq hc66).2 ?_
  refine own_iinc 34 #[oI x0, oA w_ALL, oI (22 : Int32), oI (9 : Int32), oA w_WAITING] X65 hx hby d2_31 rfl rfl rfl ?_
  refine own_goto 9 X65 hx hby d2_34 (by decide) (by decide) ?_
  refine own_iload_n 10 X65 hx hby d2_9 rfl rfl ?_
  refine own_iload_n 11 X65 hx hby d2_10 rfl rfl ?_
  refine own_icN 14 X65 hx hby d2_11 rfl (by decide) ?_
  refine own_aload_n 15 X65 hx hby d2_14 rfl rfl rfl ?_
  refine own_iload_n 16 X65 hx hby d2_15 rfl rfl ?_
  refine own_aaload 17 (.ref w_WATCH) X65 hx hby hZ e65 (W.2.2.2.2.2.2.2.2.2.2.2.2.2.2.2.2.2.2.2.2.2.2.2.2.2.2.2.2.2.2.2.2.2.2.2.2.2.2.2.2.2.2.2.2.2.2.2.2.2.2.2.2.2.2.2.2.2.2.2.2.2.2.2.2.2.2.2.ext O0.2) rfl d2_16 rfl (by decide) rfl ?_
  refine own_astore 19 #[oI x0, oA w_ALL, oI (22 : Int32), oI (9 : Int32), oA w_WATCH] X65 hx hby d2_17 rfl rfl rfl ?_
  refine own_aload 21 X65 hx hby d2_19 rfl rfl rfl ?_
  refine own_getF 24 X65 hx hby hZ hown (own_w hw 11 rfl) e65 (W.2.2.2.2.2.2.2.2.2.2.2.2.2.2.2.2.2.2.2.2.2.2.2.2.2.2.2.2.2.2.2.2.2.2.2.2.2.2.2.2.2.2.2.2.2.2.2.2.2.2.2.2.2.2.1.ext O0.2) d2_21 rfl ?_
  intro T67 X67 e67
  refine own_iload_n 25 X67 hx hby d2_24 rfl rfl ?_
  refine own_icY 31 X67 hx hby d2_25 (by decide) (by decide) (feq hc68).2 ?_
  refine own_iinc 34 #[oI x0, oA w_ALL, oI (22 : Int32), oI (10 : Int32), oA w_WATCH] X67 hx hby d2_31 rfl rfl rfl ?_
  refine own_goto 9 X67 hx hby d2_34 (by decide) (by decide) ?_
  refine own_iload_n 10 X67 hx hby d2_9 rfl rfl ?_
  refine own_iload_n 11 X67 hx hby d2_10 rfl rfl ?_
  refine own_icN 14 X67 hx hby d2_11 rfl (by decide) ?_
  refine own_aload_n 15 X67 hx hby d2_14 rfl rfl rfl ?_
  refine own_iload_n 16 X67 hx hby d2_15 rfl rfl ?_
  refine own_aaload 17 (.ref w_ACQUIRE) X67 hx hby hZ e67 (W.2.2.2.2.2.2.2.2.2.2.2.2.2.2.2.2.2.2.2.2.2.2.2.2.2.2.2.2.2.2.2.2.2.2.2.2.2.2.2.2.2.2.2.2.2.2.2.2.2.2.2.2.2.2.2.2.2.2.2.2.2.2.2.2.2.2.2.ext O0.2) rfl d2_16 rfl (by decide) rfl ?_
  refine own_astore 19 #[oI x0, oA w_ALL, oI (22 : Int32), oI (10 : Int32), oA w_ACQUIRE] X67 hx hby d2_17 rfl rfl rfl ?_
  refine own_aload 21 X67 hx hby d2_19 rfl rfl rfl ?_
  refine own_getF 24 X67 hx hby hZ hown (own_w hw 11 rfl) e67 (W.2.2.2.2.2.2.2.2.2.2.2.2.2.2.2.2.2.2.2.2.2.2.2.2.2.2.2.2.2.2.2.2.2.2.2.2.2.2.2.2.2.2.2.2.2.2.2.2.2.2.2.2.2.2.2.1.ext O0.2) d2_21 rfl ?_
  intro T69 X69 e69
  refine own_iload_n 25 X69 hx hby d2_24 rfl rfl ?_
  refine own_icY 31 X69 hx hby d2_25 (by decide) (by decide) (feq hc70).2 ?_
  refine own_iinc 34 #[oI x0, oA w_ALL, oI (22 : Int32), oI (11 : Int32), oA w_ACQUIRE] X69 hx hby d2_31 rfl rfl rfl ?_
  refine own_goto 9 X69 hx hby d2_34 (by decide) (by decide) ?_
  refine own_iload_n 10 X69 hx hby d2_9 rfl rfl ?_
  refine own_iload_n 11 X69 hx hby d2_10 rfl rfl ?_
  refine own_icN 14 X69 hx hby d2_11 rfl (by decide) ?_
  refine own_aload_n 15 X69 hx hby d2_14 rfl rfl rfl ?_
  refine own_iload_n 16 X69 hx hby d2_15 rfl rfl ?_
  refine own_aaload 17 (.ref w_RETIRE) X69 hx hby hZ e69 (W.2.2.2.2.2.2.2.2.2.2.2.2.2.2.2.2.2.2.2.2.2.2.2.2.2.2.2.2.2.2.2.2.2.2.2.2.2.2.2.2.2.2.2.2.2.2.2.2.2.2.2.2.2.2.2.2.2.2.2.2.2.2.2.2.2.2.2.ext O0.2) rfl d2_16 rfl (by decide) rfl ?_
  refine own_astore 19 #[oI x0, oA w_ALL, oI (22 : Int32), oI (11 : Int32), oA w_RETIRE] X69 hx hby d2_17 rfl rfl rfl ?_
  refine own_aload 21 X69 hx hby d2_19 rfl rfl rfl ?_
  refine own_getF 24 X69 hx hby hZ hown (own_w hw 11 rfl) e69 (W.2.2.2.2.2.2.2.2.2.2.2.2.2.2.2.2.2.2.2.2.2.2.2.2.2.2.2.2.2.2.2.2.2.2.2.2.2.2.2.2.2.2.2.2.2.2.2.2.2.2.2.2.2.2.2.2.1.ext O0.2) d2_21 rfl ?_
  intro T71 X71 e71
  refine own_iload_n 25 X71 hx hby d2_24 rfl rfl ?_
  refine own_icY 31 X71 hx hby d2_25 (by decide) (by decide) (feq hc72).2 ?_
  refine own_iinc 34 #[oI x0, oA w_ALL, oI (22 : Int32), oI (12 : Int32), oA w_RETIRE] X71 hx hby d2_31 rfl rfl rfl ?_
  refine own_goto 9 X71 hx hby d2_34 (by decide) (by decide) ?_
  refine own_iload_n 10 X71 hx hby d2_9 rfl rfl ?_
  refine own_iload_n 11 X71 hx hby d2_10 rfl rfl ?_
  refine own_icN 14 X71 hx hby d2_11 rfl (by decide) ?_
  refine own_aload_n 15 X71 hx hby d2_14 rfl rfl rfl ?_
  refine own_iload_n 16 X71 hx hby d2_15 rfl rfl ?_
  refine own_aaload 17 (.ref w_RESULT) X71 hx hby hZ e71 (W.2.2.2.2.2.2.2.2.2.2.2.2.2.2.2.2.2.2.2.2.2.2.2.2.2.2.2.2.2.2.2.2.2.2.2.2.2.2.2.2.2.2.2.2.2.2.2.2.2.2.2.2.2.2.2.2.2.2.2.2.2.2.2.2.2.2.2.ext O0.2) rfl d2_16 rfl (by decide) rfl ?_
  refine own_astore 19 #[oI x0, oA w_ALL, oI (22 : Int32), oI (12 : Int32), oA w_RESULT] X71 hx hby d2_17 rfl rfl rfl ?_
  refine own_aload 21 X71 hx hby d2_19 rfl rfl rfl ?_
  refine own_getF 24 X71 hx hby hZ hown (own_w hw 11 rfl) e71 (W.2.2.2.2.2.2.2.2.2.2.2.2.2.2.2.2.2.2.2.2.2.2.2.2.2.2.2.2.2.2.2.2.2.2.2.2.2.2.2.2.2.2.2.2.2.2.2.2.2.2.2.2.2.2.2.2.2.1.ext O0.2) d2_21 rfl ?_
  intro T73 X73 e73
  refine own_iload_n 25 X73 hx hby d2_24 rfl rfl ?_
  refine own_icY 31 X73 hx hby d2_25 (by decide) (by decide) (feq hc74).2 ?_
  refine own_iinc 34 #[oI x0, oA w_ALL, oI (22 : Int32), oI (13 : Int32), oA w_RESULT] X73 hx hby d2_31 rfl rfl rfl ?_
  refine own_goto 9 X73 hx hby d2_34 (by decide) (by decide) ?_
  refine own_iload_n 10 X73 hx hby d2_9 rfl rfl ?_
  refine own_iload_n 11 X73 hx hby d2_10 rfl rfl ?_
  refine own_icN 14 X73 hx hby d2_11 rfl (by decide) ?_
  refine own_aload_n 15 X73 hx hby d2_14 rfl rfl rfl ?_
  refine own_iload_n 16 X73 hx hby d2_15 rfl rfl ?_
  refine own_aaload 17 (.ref w_FAILURE) X73 hx hby hZ e73 (W.2.2.2.2.2.2.2.2.2.2.2.2.2.2.2.2.2.2.2.2.2.2.2.2.2.2.2.2.2.2.2.2.2.2.2.2.2.2.2.2.2.2.2.2.2.2.2.2.2.2.2.2.2.2.2.2.2.2.2.2.2.2.2.2.2.2.2.ext O0.2) rfl d2_16 rfl (by decide) rfl ?_
  refine own_astore 19 #[oI x0, oA w_ALL, oI (22 : Int32), oI (13 : Int32), oA w_FAILURE] X73 hx hby d2_17 rfl rfl rfl ?_
  refine own_aload 21 X73 hx hby d2_19 rfl rfl rfl ?_
  refine own_getF 24 X73 hx hby hZ hown (own_w hw 11 rfl) e73 (W.2.2.2.2.2.2.2.2.2.2.2.2.2.2.2.2.2.2.2.2.2.2.2.2.2.2.2.2.2.2.2.2.2.2.2.2.2.2.2.2.2.2.2.2.2.2.2.2.2.2.2.2.2.2.2.2.2.2.1.ext O0.2) d2_21 rfl ?_
  intro T75 X75 e75
  refine own_iload_n 25 X75 hx hby d2_24 rfl rfl ?_
  refine own_icY 31 X75 hx hby d2_25 (by decide) (by decide) (feq hc76).2 ?_
  refine own_iinc 34 #[oI x0, oA w_ALL, oI (22 : Int32), oI (14 : Int32), oA w_FAILURE] X75 hx hby d2_31 rfl rfl rfl ?_
  refine own_goto 9 X75 hx hby d2_34 (by decide) (by decide) ?_
  refine own_iload_n 10 X75 hx hby d2_9 rfl rfl ?_
  refine own_iload_n 11 X75 hx hby d2_10 rfl rfl ?_
  refine own_icN 14 X75 hx hby d2_11 rfl (by decide) ?_
  refine own_aload_n 15 X75 hx hby d2_14 rfl rfl rfl ?_
  refine own_iload_n 16 X75 hx hby d2_15 rfl rfl ?_
  refine own_aaload 17 (.ref w_DEAD) X75 hx hby hZ e75 (W.2.2.2.2.2.2.2.2.2.2.2.2.2.2.2.2.2.2.2.2.2.2.2.2.2.2.2.2.2.2.2.2.2.2.2.2.2.2.2.2.2.2.2.2.2.2.2.2.2.2.2.2.2.2.2.2.2.2.2.2.2.2.2.2.2.2.2.ext O0.2) rfl d2_16 rfl (by decide) rfl ?_
  refine own_astore 19 #[oI x0, oA w_ALL, oI (22 : Int32), oI (14 : Int32), oA w_DEAD] X75 hx hby d2_17 rfl rfl rfl ?_
  refine own_aload 21 X75 hx hby d2_19 rfl rfl rfl ?_
  refine own_getF 24 X75 hx hby hZ hown (own_w hw 11 rfl) e75 (W.2.2.2.2.2.2.2.2.2.2.2.2.2.2.2.2.2.2.2.2.2.2.2.2.2.2.2.2.2.2.2.2.2.2.2.2.2.2.2.2.2.2.2.2.2.2.2.2.2.2.2.2.2.2.2.2.2.2.2.1.ext O0.2) d2_21 rfl ?_
  intro T77 X77 e77
  refine own_iload_n 25 X77 hx hby d2_24 rfl rfl ?_
  refine own_icN 28 X77 hx hby d2_25 rfl (teq hc78).2 ?_
  refine own_aload 30 X77 hx hby d2_28 rfl rfl rfl ?_
  exact own_ret (Q := own_Q _ n0 h0) X77 hx hby hret hlk d2_30 rfl (Or.inr (Or.inr (Or.inr (Or.inr ⟨rfl, rfl, rfl⟩)))) (by decide) (by decide) ⟨rfl, N0, e77⟩
set_option maxRecDepth 65536 in
set_option maxHeartbeats 40000000 in
theorem rm2_16 (l : Launch) (Z : State) (a0 : Array Value) (hw : ∀ d ∈ tables_1, d.before a0 Z = true) (ws : List Jvm.Cond) (w_HELLO w_ADD_SERVICE w_GET_SERVICE w_LIST_SERVICES w_TRANSLATE w_RESOLVE w_RELEASE w_STATUS w_WAITING w_WATCH w_ACQUIRE w_RETIRE w_RESULT w_FAILURE w_DEAD w_COUNT_WAITING w_CLOSING w_UNHELD w_OPEN w_TRANSACTION w_REPLY w_KNOCK w_ALL k_ALL : Addr) (W : own_W Z w_HELLO w_ADD_SERVICE w_GET_SERVICE w_LIST_SERVICES w_TRANSLATE w_RESOLVE w_RELEASE w_STATUS w_WAITING w_WATCH w_ACQUIRE w_RETIRE w_RESULT w_FAILURE w_DEAD w_COUNT_WAITING w_CLOSING w_UNHELD w_OPEN w_TRANSACTION w_REPLY w_KNOCK w_ALL k_ALL) (x0 : Int32) (h0 : Heap) (n0 : Nat) (O0 : Old Z n0 h0) (hc50 : ¬ ((1 : Int32) = x0)) (hc52 : ¬ ((2 : Int32) = x0)) (hc54 : ¬ ((3 : Int32) = x0)) (hc56 : ¬ ((4 : Int32) = x0)) (hc58 : ¬ ((5 : Int32) = x0)) (hc60 : ¬ ((6 : Int32) = x0)) (hc62 : ¬ ((7 : Int32) = x0)) (hc64 : ¬ ((8 : Int32) = x0)) (hc66 : ¬ ((9 : Int32) = x0)) (hc68 : ¬ ((10 : Int32) = x0)) (hc70 : ¬ ((11 : Int32) = x0)) (hc72 : ¬ ((12 : Int32) = x0)) (hc74 : ¬ ((16 : Int32) = x0)) (hc76 : ¬ ((17 : Int32) = x0)) (hc78 : ¬ ((18 : Int32) = x0)) (hc80 : (19 : Int32) = x0) :
    MetFree l (⟨"com/example/hop1/hop1/protocol/FrameKind", "of", "(I)Lcom/example/hop1/hop1/protocol/FrameKind;"⟩ : MethodName) (head1 (Jvm.Cond.code (⟨"com/example/hop1/hop1/protocol/FrameKind", "of", "(I)Lcom/example/hop1/hop1/protocol/FrameKind;"⟩ : MethodName) prog_113_method_5_code 5 (some (.object "com/example/hop1/hop1/protocol/FrameKind")) :: ws) ({ frames := 0, cells := 0, slots := 0, locals := 0 } : Room)) (fun a U => a = #[(.int x0)] ∧ Z.Warmed39 U.vm ∧ U.heap = h0) (fun _ _ _ _ _ => True) (fun _ U o U' => ∃ v L, o = .returned v ∧ own_Q (some (.ref w_COUNT_WAITING)) n0 h0 v U'.heap L ∧ FrameEnd U o U' L ({ frames := 0, cells := 0, slots := 0, locals := 0 } : Room).cells ({ frames := 0, cells := 0, slots := 0, locals := 0 } : Room).slots) := by
  refine MetFree.of_bodySF (plainFor_of_name pn_1) hisR ?_
  intro p e s m args below meth c s₁ Bd hml0 hP hK
  obtain ⟨rfl, hZ, hh⟩ := hP
  have hx := Bd.exec
  have hby := Bd.bytes
  have hml : c.maxLocals = 5 := hml0
  have hlk := BodyLoose.notSynchronized Bd
  have hret := Bd.returns
  have hown : s.vm.findClass "com/example/hop1/hop1/protocol/FrameKind" = some m.cls := findClass_of_methodNamed Bd.named
  have hnm := (name_of_methodNamed Bd.named Bd.method).1
  have X0 : Stand p l e ({ frames := 0, cells := 0, slots := 0, locals := 0 } : Room) s m #[(.int x0)] below meth c s₁ [] 0 0 := Stand.of_body Bd
  have e0 : s₁.heap = h0 := by rw [← hh, Bd.state]; rfl
  have N0 := Fr.nil n0
  rw [ef_2 m x0]
  show Go p e below _ (s₁.setTop (mkF m 0 #[oI x0, oU, oU, oU, oU] []))
  refine own_getS 3 X0 hx hby hZ hown (own_w hw 8 rfl) e0 (W.2.2.2.2.2.2.2.2.2.2.2.2.2.2.2.2.2.2.2.2.2.2.2.2.2.2.2.2.2.2.2.2.2.2.2.2.2.2.2.2.2.2.2.2.1.ext O0.2) d2_0 rfl ?_
  intro T48 X48 e48
  refine own_astore_n 4 #[oI x0, oA w_ALL, oU, oU, oU] X48 hx hby d2_3 rfl rfl rfl ?_
  refine own_aload_n 5 X48 hx hby d2_4 rfl rfl rfl ?_
  refine own_len 6 X48 hx hby hZ e48 (W.2.2.2.2.2.2.2.2.2.2.2.2.2.2.2.2.2.2.2.2.2.2.2.2.2.2.2.2.2.2.2.2.2.2.2.2.2.2.2.2.2.2.2.2.2.2.2.2.2.2.2.2.2.2.2.2.2.2.2.2.2.2.2.2.2.2.2.ext O0.2) d2_5 rfl ?_
  refine own_istore_n 7 #[oI x0, oA w_ALL, oI (22 : Int32), oU, oU] X48 hx hby d2_6 rfl rfl ?_
  refine own_iconst 8 (0 : Int32) X48 hx hby d2_7 rfl (by decide) ?_
  refine own_istore_n 9 #[oI x0, oA w_ALL, oI (22 : Int32), oI (0 : Int32), oU] X48 hx hby d2_8 rfl rfl ?_
  refine own_iload_n 10 X48 hx hby d2_9 rfl rfl ?_
  refine own_iload_n 11 X48 hx hby d2_10 rfl rfl ?_
  refine own_icN 14 X48 hx hby d2_11 rfl (by decide) ?_
  refine own_aload_n 15 X48 hx hby d2_14 rfl rfl rfl ?_
  refine own_iload_n 16 X48 hx hby d2_15 rfl rfl ?_
  refine own_aaload 17 (.ref w_HELLO) X48 hx hby hZ e48 (W.2.2.2.2.2.2.2.2.2.2.2.2.2.2.2.2.2.2.2.2.2.2.2.2.2.2.2.2.2.2.2.2.2.2.2.2.2.2.2.2.2.2.2.2.2.2.2.2.2.2.2.2.2.2.2.2.2.2.2.2.2.2.2.2.2.2.2.ext O0.2) rfl d2_16 rfl (by decide) rfl ?_
  refine own_astore 19 #[oI x0, oA w_ALL, oI (22 : Int32), oI (0 : Int32), oA w_HELLO] X48 hx hby d2_17 rfl rfl rfl ?_
  refine own_aload 21 X48 hx hby d2_19 rfl rfl rfl ?_
  refine own_getF 24 X48 hx hby hZ hown (own_w hw 11 rfl) e48 (W.2.2.2.2.2.2.2.2.2.2.2.2.2.2.2.2.2.2.2.2.2.2.2.2.2.2.2.2.2.2.2.2.2.2.2.2.2.2.2.2.2.2.2.2.2.1.ext O0.2) d2_21 rfl ?_
  intro T49 X49 e49
  refine own_iload_n 25 X49 hx hby d2_24 rfl rfl ?_
  refine own_icY 31 X49 hx hby d2_25 (by decide) (by decide) (feq hc50).2 ?_
  refine own_iinc 34 #[oI x0, oA w_ALL, oI (22 : Int32), oI (1 : Int32), oA w_HELLO] X49 hx hby d2_31 rfl rfl rfl ?_
  refine own_goto 9 X49 hx hby d2_34 (by decide) (by decide) ?_
  refine own_iload_n 10 X49 hx hby d2_9 rfl rfl ?_
  refine own_iload_n 11 X49 hx hby d2_10 rfl rfl ?_
  refine own_icN 14 X49 hx hby d2_11 rfl (by decide) ?_
  refine own_aload_n 15 X49 hx hby d2_14 rfl rfl rfl ?_
  refine own_iload_n 16 X49 hx hby d2_15 rfl rfl ?_
  refine own_aaload 17 (.ref w_ADD_SERVICE) X49 hx hby hZ e49 (W.2.2.2.2.2.2.2.2.2.2.2.2.2.2.2.2.2.2.2.2.2.2.2.2.2.2.2.2.2.2.2.2.2.2.2.2.2.2.2.2.2.2.2.2.2.2.2.2.2.2.2.2.2.2.2.2.2.2.2.2.2.2.2.2.2.2.2.ext O0.2) rfl d2_16 rfl (by decide) rfl ?_
  refine own_astore 19 #[oI x0, oA w_ALL, oI (22 : Int32), oI (1 : Int32), oA w_ADD_SERVICE] X49 hx hby d2_17 rfl rfl rfl ?_
  refine own_aload 21 X49 hx hby d2_19 rfl rfl rfl ?_
  refine own_getF 24 X49 hx hby hZ hown (own_w hw 11 rfl) e49 (W.2.2.2.2.2.2.2.2.2.2.2.2.2.2.2.2.2.2.2.2.2.2.2.2.2.2.2.2.2.2.2.2.2.2.2.2.2.2.2.2.2.2.2.2.2.2.1.ext O0.2) d2_21 rfl ?_
  intro T51 X51 e51
  refine own_iload_n 25 X51 hx hby d2_24 rfl rfl ?_
  refine own_icY 31 X51 hx hby d2_25 (by decide) (by decide) (feq hc52).2 ?_
  refine own_iinc 34 #[oI x0, oA w_ALL, oI (22 : Int32), oI (2 : Int32), oA w_ADD_SERVICE] X51 hx hby d2_31 rfl rfl rfl ?_
  refine own_goto 9 X51 hx hby d2_34 (by decide) (by decide) ?_
  refine own_iload_n 10 X51 hx hby d2_9 rfl rfl ?_
  refine own_iload_n 11 X51 hx hby d2_10 rfl rfl ?_
  refine own_icN 14 X51 hx hby d2_11 rfl (by decide) ?_
  refine own_aload_n 15 X51 hx hby d2_14 rfl rfl rfl ?_
  refine own_iload_n 16 X51 hx hby d2_15 rfl rfl ?_
  refine own_aaload 17 (.ref w_GET_SERVICE) X51 hx hby hZ e51 (W.2.2.2.2.2.2.2.2.2.2.2.2.2.2.2.2.2.2.2.2.2.2.2.2.2.2.2.2.2.2.2.2.2.2.2.2.2.2.2.2.2.2.2.2.2.2.2.2.2.2.2.2.2.2.2.2.2.2.2.2.2.2.2.2.2.2.2.ext O0.2) rfl d2_16 rfl (by decide) rfl ?_
  refine own_astore 19 #[oI x0, oA w_ALL, oI (22 : Int32), oI (2 : Int32), oA w_GET_SERVICE] X51 hx hby d2_17 rfl rfl rfl ?_
  refine own_aload 21 X51 hx hby d2_19 rfl rfl rfl ?_
  refine own_getF 24 X51 hx hby hZ hown (own_w hw 11 rfl) e51 (W.2.2.2.2.2.2.2.2.2.2.2.2.2.2.2.2.2.2.2.2.2.2.2.2.2.2.2.2.2.2.2.2.2.2.2.2.2.2.2.2.2.2.2.2.2.2.2.1.ext O0.2) d2_21 rfl ?_
  intro T53 X53 e53
  refine own_iload_n 25 X53 hx hby d2_24 rfl rfl ?_
  refine own_icY 31 X53 hx hby d2_25 (by decide) (by decide) (feq hc54).2 ?_
  refine own_iinc 34 #[oI x0, oA w_ALL, oI (22 : Int32), oI (3 : Int32), oA w_GET_SERVICE] X53 hx hby d2_31 rfl rfl rfl ?_
  refine own_goto 9 X53 hx hby d2_34 (by decide) (by decide) ?_
  refine own_iload_n 10 X53 hx hby d2_9 rfl rfl ?_
  refine own_iload_n 11 X53 hx hby d2_10 rfl rfl ?_
  refine own_icN 14 X53 hx hby d2_11 rfl (by decide) ?_
  refine own_aload_n 15 X53 hx hby d2_14 rfl rfl rfl ?_
  refine own_iload_n 16 X53 hx hby d2_15 rfl rfl ?_
  refine own_aaload 17 (.ref w_LIST_SERVICES) X53 hx hby hZ e53 (W.2.2.2.2.2.2.2.2.2.2.2.2.2.2.2.2.2.2.2.2.2.2.2.2.2.2.2.2.2.2.2.2.2.2.2.2.2.2.2.2.2.2.2.2.2.2.2.2.2.2.2.2.2.2.2.2.2.2.2.2.2.2.2.2.2.2.2.ext O0.2) rfl d2_16 rfl (by decide) rfl ?_
  refine own_astore 19 #[oI x0, oA w_ALL, oI (22 : Int32), oI (3 : Int32), oA w_LIST_SERVICES] X53 hx hby d2_17 rfl rfl rfl ?_
  refine own_aload 21 X53 hx hby d2_19 rfl rfl rfl ?_
  refine own_getF 24 X53 hx hby hZ hown (own_w hw 11 rfl) e53 (W.2.2.2.2.2.2.2.2.2.2.2.2.2.2.2.2.2.2.2.2.2.2.2.2.2.2.2.2.2.2.2.2.2.2.2.2.2.2.2.2.2.2.2.2.2.2.2.2.1.ext O0.2) d2_21 rfl ?_
  intro T55 X55 e55
  refine own_iload_n 25 X55 hx hby d2_24 rfl rfl ?_
  refine own_icY 31 X55 hx hby d2_25 (by decide) (by decide) (feq hc56).2 ?_
  refine own_iinc 34 #[oI x0, oA w_ALL, oI (22 : Int32), oI (4 : Int32), oA w_LIST_SERVICES] X55 hx hby d2_31 rfl rfl rfl ?_
  refine own_goto 9 X55 hx hby d2_34 (by decide) (by decide) ?_
  refine own_iload_n 10 X55 hx hby d2_9 rfl rfl ?_
  refine own_iload_n 11 X55 hx hby d2_10 rfl rfl ?_
  refine own_icN 14 X55 hx hby d2_11 rfl (by decide) ?_
  refine own_aload_n 15 X55 hx hby d2_14 rfl rfl rfl ?_
  refine own_iload_n 16 X55 hx hby d2_15 rfl rfl ?_
  refine own_aaload 17 (.ref w_TRANSLATE) X55 hx hby hZ e55 (W.2.2.2.2.2.2.2.2.2.2.2.2.2.2.2.2.2.2.2.2.2.2.2.2.2.2.2.2.2.2.2.2.2.2.2.2.2.2.2.2.2.2.2.2.2.2.2.2.2.2.2.2.2.2.2.2.2.2.2.2.2.2.2.2.2.2.2.ext O0.2) rfl d2_16 rfl (by decide) rfl ?_
  refine own_astore 19 #[oI x0, oA w_ALL, oI (22 : Int32), oI (4 : Int32), oA w_TRANSLATE] X55 hx hby d2_17 rfl rfl rfl ?_
  refine own_aload 21 X55 hx hby d2_19 rfl rfl rfl ?_
  refine own_getF 24 X55 hx hby hZ hown (own_w hw 11 rfl) e55 (W.2.2.2.2.2.2.2.2.2.2.2.2.2.2.2.2.2.2.2.2.2.2.2.2.2.2.2.2.2.2.2.2.2.2.2.2.2.2.2.2.2.2.2.2.2.2.2.2.2.1.ext O0.2) d2_21 rfl ?_
  intro T57 X57 e57
  refine own_iload_n 25 X57 hx hby d2_24 rfl rfl ?_
  refine own_icY 31 X57 hx hby d2_25 (by decide) (by decide) (feq hc58).2 ?_
  refine own_iinc 34 #[oI x0, oA w_ALL, oI (22 : Int32), oI (5 : Int32), oA w_TRANSLATE] X57 hx hby d2_31 rfl rfl rfl ?_
  refine own_goto 9 X57 hx hby d2_34 (by decide) (by decide) ?_
  refine own_iload_n 10 X57 hx hby d2_9 rfl rfl ?_
  refine own_iload_n 11 X57 hx hby d2_10 rfl rfl ?_
  refine own_icN 14 X57 hx hby d2_11 rfl (by decide) ?_
  refine own_aload_n 15 X57 hx hby d2_14 rfl rfl rfl ?_
  refine own_iload_n 16 X57 hx hby d2_15 rfl rfl ?_
  refine own_aaload 17 (.ref w_RESOLVE) X57 hx hby hZ e57 (W.2.2.2.2.2.2.2.2.2.2.2.2.2.2.2.2.2.2.2.2.2.2.2.2.2.2.2.2.2.2.2.2.2.2.2.2.2.2.2.2.2.2.2.2.2.2.2.2.2.2.2.2.2.2.2.2.2.2.2.2.2.2.2.2.2.2.2.ext O0.2) rfl d2_16 rfl (by decide) rfl ?_
  refine own_astore 19 #[oI x0, oA w_ALL, oI (22 : Int32), oI (5 : Int32), oA w_RESOLVE] X57 hx hby d2_17 rfl rfl rfl ?_
  refine own_aload 21 X57 hx hby d2_19 rfl rfl rfl ?_
  refine own_getF 24 X57 hx hby hZ hown (own_w hw 11 rfl) e57 (W.2.2.2.2.2.2.2.2.2.2.2.2.2.2.2.2.2.2.2.2.2.2.2.2.2.2.2.2.2.2.2.2.2.2.2.2.2.2.2.2.2.2.2.2.2.2.2.2.2.2.1.ext O0.2) d2_21 rfl ?_
  intro T59 X59 e59
  refine own_iload_n 25 X59 hx hby d2_24 rfl rfl ?_
  refine own_icY 31 X59 hx hby d2_25 (by decide) (by decide) (feq hc60).2 ?_
  refine own_iinc 34 #[oI x0, oA w_ALL, oI (22 : Int32), oI (6 : Int32), oA w_RESOLVE] X59 hx hby d2_31 rfl rfl rfl ?_
  refine own_goto 9 X59 hx hby d2_34 (by decide) (by decide) ?_
  refine own_iload_n 10 X59 hx hby d2_9 rfl rfl ?_
  refine own_iload_n 11 X59 hx hby d2_10 rfl rfl ?_
  refine own_icN 14 X59 hx hby d2_11 rfl (by decide) ?_
  refine own_aload_n 15 X59 hx hby d2_14 rfl rfl rfl ?_
  refine own_iload_n 16 X59 hx hby d2_15 rfl rfl ?_
  refine own_aaload 17 (.ref w_RELEASE) X59 hx hby hZ e59 (W.2.2.2.2.2.2.2.2.2.2.2.2.2.2.2.2.2.2.2.2.2.2.2.2.2.2.2.2.2.2.2.2.2.2.2.2.2.2.2.2.2.2.2.2.2.2.2.2.2.2.2.2.2.2.2.2.2.2.2.2.2.2.2.2.2.2.2.ext O0.2) rfl d2_16 rfl (by decide) rfl ?_
  refine own_astore 19 #[oI x0, oA w_ALL, oI (22 : Int32), oI (6 : Int32), oA w_RELEASE] X59 hx hby d2_17 rfl rfl rfl ?_
  refine own_aload 21 X59 hx hby d2_19 rfl rfl rfl ?_
  refine own_getF 24 X59 hx hby hZ hown (own_w hw 11 rfl) e59 (W.2.2.2.2.2.2.2.2.2.2.2.2.2.2.2.2.2.2.2.2.2.2.2.2.2.2.2.2.2.2.2.2.2.2.2.2.2.2.2.2.2.2.2.2.2.2.2.2.2.2.2.1.ext O0.2) d2_21 rfl ?_
  intro T61 X61 e61
  refine own_iload_n 25 X61 hx hby d2_24 rfl rfl ?_
  refine own_icY 31 X61 hx hby d2_25 (by decide) (by decide) (feq hc62).2 ?_
  refine own_iinc 34 #[oI x0, oA w_ALL, oI (22 : Int32), oI (7 : Int32), oA w_RELEASE] X61 hx hby d2_31 rfl rfl rfl ?_
  refine own_goto 9 X61 hx hby d2_34 (by decide) (by decide) ?_
  refine own_iload_n 10 X61 hx hby d2_9 rfl rfl ?_
  refine own_iload_n 11 X61 hx hby d2_10 rfl rfl ?_
  refine own_icN 14 X61 hx hby d2_11 rfl (by decide) ?_
  refine own_aload_n 15 X61 hx hby d2_14 rfl rfl rfl ?_
  refine own_iload_n 16 X61 hx hby d2_15 rfl rfl ?_
  refine own_aaload 17 (.ref w_STATUS) X61 hx hby hZ e61 (W.2.2.2.2.2.2.2.2.2.2.2.2.2.2.2.2.2.2.2.2.2.2.2.2.2.2.2.2.2.2.2.2.2.2.2.2.2.2.2.2.2.2.2.2.2.2.2.2.2.2.2.2.2.2.2.2.2.2.2.2.2.2.2.2.2.2.2.ext O0.2) rfl d2_16 rfl (by decide) rfl ?_
  refine own_astore 19 #[oI x0, oA w_ALL, oI (22 : Int32), oI (7 : Int32), oA w_STATUS] X61 hx hby d2_17 rfl rfl rfl ?_
  refine own_aload 21 X61 hx hby d2_19 rfl rfl rfl ?_
  refine own_getF 24 X61 hx hby hZ hown (own_w hw 11 rfl) e61 (W.2.2.2.2.2.2.2.2.2.2.2.2.2.2.2.2.2.2.2.2.2.2.2.2.2.2.2.2.2.2.2.2.2.2.2.2.2.2.2.2.2.2.2.2.2.2.2.2.2.2.2.2.1.ext O0.2) d2_21 rfl ?_
  intro T63 X63 e63
  refine own_iload_n 25 X63 hx hby d2_24 rfl rfl ?_
  refine own_icY 31 X63 hx hby d2_25 (by decide) (by decide) (feq hc64).2 ?_
  refine own_iinc 34 #[oI x0, oA w_ALL, oI (22 : Int32), oI (8 : Int32), oA w_STATUS] X63 hx hby d2_31 rfl rfl rfl ?_
  refine own_goto 9 X63 hx hby d2_34 (by decide) (by decide) ?_
  refine own_iload_n 10 X63 hx hby d2_9 rfl rfl ?_
  refine own_iload_n 11 X63 hx hby d2_10 rfl rfl ?_
  refine own_icN 14 X63 hx hby d2_11 rfl (by decide) ?_
  refine own_aload_n 15 X63 hx hby d2_14 rfl rfl rfl ?_
  refine own_iload_n 16 X63 hx hby d2_15 rfl rfl ?_
  refine own_aaload 17 (.ref w_WAITING) X63 hx hby hZ e63 (W.2.2.2.2.2.2.2.2.2.2.2.2.2.2.2.2.2.2.2.2.2.2.2.2.2.2.2.2.2.2.2.2.2.2.2.2.2.2.2.2.2.2.2.2.2.2.2.2.2.2.2.2.2.2.2.2.2.2.2.2.2.2.2.2.2.2.2.ext O0.2) rfl d2_16 rfl (by decide) rfl ?_
  refine own_astore 19 #[oI x0, oA w_ALL, oI (22 : Int32), oI (8 : Int32), oA w_WAITING] X63 hx hby d2_17 rfl rfl rfl ?_
  refine own_aload 21 X63 hx hby d2_19 rfl rfl rfl ?_
  refine own_getF 24 X63 hx hby hZ hown (own_w hw 11 rfl) e63 (W.2.2.2.2.2.2.2.2.2.2.2.2.2.2.2.2.2.2.2.2.2.2.2.2.2.2.2.2.2.2.2.2.2.2.2.2.2.2.2.2.2.2.2.2.2.2.2.2.2.2.2.2.2.1.ext O0.2) d2_21 rfl ?_
  intro T65 X65 e65
  refine own_iload_n 25 X65 hx hby d2_24 rfl rfl ?_
  refine own_icY 31 X65 hx hby d2_25 (by decide) (by decide) (feq hc66).2 ?_
  refine own_iinc 34 #[oI x0, oA w_ALL, oI (22 : Int32), oI (9 : Int32), oA w_WAITING] X65 hx hby d2_31 rfl rfl rfl ?_
  refine own_goto 9 X65 hx hby d2_34 (by decide) (by decide) ?_
  refine own_iload_n 10 X65 hx hby d2_9 rfl rfl ?_
  refine own_iload_n 11 X65 hx hby d2_10 rfl rfl ?_
  refine own_icN 14 X65 hx hby d2_11 rfl (by decide) ?_
  refine own_aload_n 15 X65 hx hby d2_14 rfl rfl rfl ?_
  refine own_iload_n 16 X65 hx hby d2_15 rfl rfl ?_
  refine own_aaload 17 (.ref w_WATCH) X65 hx hby hZ e65 (W.2.2.2.2.2.2.2.2.2.2.2.2.2.2.2.2.2.2.2.2.2.2.2.2.2.2.2.2.2.2.2.2.2.2.2.2.2.2.2.2.2.2.2.2.2.2.2.2.2.2.2.2.2.2.2.2.2.2.2.2.2.2.2.2.2.2.2.ext O0.2) rfl d2_16 rfl (by decide) rfl ?_
  refine own_astore 19 #[oI x0, oA w_ALL, oI (22 : Int32), oI (9 : Int32), oA w_WATCH] X65 hx hby d2_17 rfl rfl rfl ?_
  refine own_aload 21 X65 hx hby d2_19 rfl rfl rfl ?_
  refine own_getF 24 X65 hx hby hZ hown (own_w hw 11 rfl) e65 (W.2.2.2.2.2.2.2.2.2.2.2.2.2.2.2.2.2.2.2.2.2.2.2.2.2.2.2.2.2.2.2.2.2.2.2.2.2.2.2.2.2.2.2.2.2.2.2.2.2.2.2.2.2.2.1.ext O0.2) d2_21 rfl ?_
  intro T67 X67 e67
  refine own_iload_n 25 X67 hx hby d2_24 rfl rfl ?_
  refine own_icY 31 X67 hx hby d2_25 (by decide) (by decide) (feq hc68).2 ?_
  refine own_iinc 34 #[oI x0, oA w_ALL, oI (22 : Int32), oI (10 : Int32), oA w_WATCH] X67 hx hby d2_31 rfl rfl rfl ?_
  refine own_goto 9 X67 hx hby d2_34 (by decide) (by decide) ?_
  refine own_iload_n 10 X67 hx hby d2_9 rfl rfl ?_
  refine own_iload_n 11 X67 hx hby d2_10 rfl rfl ?_
  refine own_icN 14 X67 hx hby d2_11 rfl (by decide) ?_
  refine own_aload_n 15 X67 hx hby d2_14 rfl rfl rfl ?_
  refine own_iload_n 16 X67 hx hby d2_15 rfl rfl ?_
  refine own_aaload 17 (.ref w_ACQUIRE) X67 hx hby hZ e67 (W.2.2.2.2.2.2.2.2.2.2.2.2.2.2.2.2.2.2.2.2.2.2.2.2.2.2.2.2.2.2.2.2.2.2.2.2.2.2.2.2.2.2.2.2.2.2.2.2.2.2.2.2.2.2.2.2.2.2.2.2.2.2.2.2.2.2.2.ext O0.2) rfl d2_16 rfl (by decide) rfl ?_
  refine own_astore 19 #[oI x0, oA w_ALL, oI (22 : Int32), oI (10 : Int32), oA w_ACQUIRE] X67 hx hby d2_17 rfl rfl rfl ?_
  refine own_aload 21 X67 hx hby d2_19 rfl rfl rfl ?_
  refine own_getF 24 X67 hx hby hZ hown (own_w hw 11 rfl) e67 (W.2.2.2.2.2.2.2.2.2.2.2.2.2.2.2.2.2.2.2.2.2.2.2.2.2.2.2.2.2.2.2.2.2.2.2.2.2.2.2.2.2.2.2.2.2.2.2.2.2.2.2.2.2.2.2.1.ext O0.2) d2_21 rfl ?_
  intro T69 X69 e69
  refine own_iload_n 25 X69 hx hby d2_24 rfl rfl ?_
  refine own_icY 31 X69 hx hby d2_25 (by decide) (by decide) (feq hc70).2 ?_
  refine own_iinc 34 #[oI x0, oA w_ALL, oI (22 : Int32), oI (11 : Int32), oA w_ACQUIRE] X69 hx hby d2_31 rfl rfl rfl ?_
  refine own_goto 9 X69 hx hby d2_34 (by decide) (by decide) ?_
  refine own_iload_n 10 X69 hx hby d2_9 rfl rfl ?_
  refine own_iload_n 11 X69 hx hby d2_10 rfl rfl ?_
  refine own_icN 14 X69 hx hby d2_11 rfl (by decide) ?_
  refine own_aload_n 15 X69 hx hby d2_14 rfl rfl rfl ?_
  refine own_iload_n 16 X69 hx hby d2_15 rfl rfl ?_
  refine own_aaload 17 (.ref w_RETIRE) X69 hx hby hZ e69 (W.2.2.2.2.2.2.2.2.2.2.2.2.2.2.2.2.2.2.2.2.2.2.2.2.2.2.2.2.2.2.2.2.2.2.2.2.2.2.2.2.2.2.2.2.2.2.2.2.2.2.2.2.2.2.2.2.2.2.2.2.2.2.2.2.2.2.2.ext O0.2) rfl d2_16 rfl (by decide) rfl ?_
  refine own_astore 19 #[oI x0, oA w_ALL, oI (22 : Int32), oI (11 : Int32), oA w_RETIRE] X69 hx hby d2_17 rfl rfl rfl ?_
  refine own_aload 21 X69 hx hby d2_19 rfl rfl rfl ?_
  refine own_getF 24 X69 hx hby hZ hown (own_w hw 11 rfl) e69 (W.2.2.2.2.2.2.2.2.2.2.2.2.2.2.2.2.2.2.2.2.2.2.2.2.2.2.2.2.2.2.2.2.2.2.2.2.2.2.2.2.2.2.2.2.2.2.2.2.2.2.2.2.2.2.2.2.1.ext O0.2) d2_21 rfl ?_
  intro T71 X71 e71
  refine own_iload_n 25 X71 hx hby d2_24 rfl rfl ?_
  refine own_icY 31 X71 hx hby d2_25 (by decide) (by decide) (feq hc72).2 ?_
  refine own_iinc 34 #[oI x0, oA w_ALL, oI (22 : Int32), oI (12 : Int32), oA w_RETIRE] X71 hx hby d2_31 rfl rfl rfl ?_
  refine own_goto 9 X71 hx hby d2_34 (by decide) (by decide) ?_
  refine own_iload_n 10 X71 hx hby d2_9 rfl rfl ?_
  refine own_iload_n 11 X71 hx hby d2_10 rfl rfl ?_
  refine own_icN 14 X71 hx hby d2_11 rfl (by decide) ?_
  refine own_aload_n 15 X71 hx hby d2_14 rfl rfl rfl ?_
  refine own_iload_n 16 X71 hx hby d2_15 rfl rfl ?_
  refine own_aaload 17 (.ref w_RESULT) X71 hx hby hZ e71 (W.2.2.2.2.2.2.2.2.2.2.2.2.2.2.2.2.2.2.2.2.2.2.2.2.2.2.2.2.2.2.2.2.2.2.2.2.2.2.2.2.2.2.2.2.2.2.2.2.2.2.2.2.2.2.2.2.2.2.2.2.2.2.2.2.2.2.2.ext O0.2) rfl d2_16 rfl (by decide) rfl ?_
  refine own_astore 19 #[oI x0, oA w_ALL, oI (22 : Int32), oI (12 : Int32), oA w_RESULT] X71 hx hby d2_17 rfl rfl rfl ?_
  refine own_aload 21 X71 hx hby d2_19 rfl rfl rfl ?_
  refine own_getF 24 X71 hx hby hZ hown (own_w hw 11 rfl) e71 (W.2.2.2.2.2.2.2.2.2.2.2.2.2.2.2.2.2.2.2.2.2.2.2.2.2.2.2.2.2.2.2.2.2.2.2.2.2.2.2.2.2.2.2.2.2.2.2.2.2.2.2.2.2.2.2.2.2.1.ext O0.2) d2_21 rfl ?_
  intro T73 X73 e73
  refine own_iload_n 25 X73 hx hby d2_24 rfl rfl ?_
  refine own_icY 31 X73 hx hby d2_25 (by decide) (by decide) (feq hc74).2 ?_
  refine own_iinc 34 #[oI x0, oA w_ALL, oI (22 : Int32), oI (13 : Int32), oA w_RESULT] X73 hx hby d2_31 rfl rfl rfl ?_
  refine own_goto 9 X73 hx hby d2_34 (by decide) (by decide) ?_
  refine own_iload_n 10 X73 hx hby d2_9 rfl rfl ?_
  refine own_iload_n 11 X73 hx hby d2_10 rfl rfl ?_
  refine own_icN 14 X73 hx hby d2_11 rfl (by decide) ?_
  refine own_aload_n 15 X73 hx hby d2_14 rfl rfl rfl ?_
  refine own_iload_n 16 X73 hx hby d2_15 rfl rfl ?_
  refine own_aaload 17 (.ref w_FAILURE) X73 hx hby hZ e73 (W.2.2.2.2.2.2.2.2.2.2.2.2.2.2.2.2.2.2.2.2.2.2.2.2.2.2.2.2.2.2.2.2.2.2.2.2.2.2.2.2.2.2.2.2.2.2.2.2.2.2.2.2.2.2.2.2.2.2.2.2.2.2.2.2.2.2.2.ext O0.2) rfl d2_16 rfl (by decide) rfl ?_
  refine own_astore 19 #[oI x0, oA w_ALL, oI (22 : Int32), oI (13 : Int32), oA w_FAILURE] X73 hx hby d2_17 rfl rfl rfl ?_
  refine own_aload 21 X73 hx hby d2_19 rfl rfl rfl ?_
  refine own_getF 24 X73 hx hby hZ hown (own_w hw 11 rfl) e73 (W.2.2.2.2.2.2.2.2.2.2.2.2.2.2.2.2.2.2.2.2.2.2.2.2.2.2.2.2.2.2.2.2.2.2.2.2.2.2.2.2.2.2.2.2.2.2.2.2.2.2.2.2.2.2.2.2.2.2.1.ext O0.2) d2_21 rfl ?_
  intro T75 X75 e75
  refine own_iload_n 25 X75 hx hby d2_24 rfl rfl ?_
  refine own_icY 31 X75 hx hby d2_25 (by decide) (by decide) (feq hc76).2 ?_
  refine own_iinc 34 #[oI x0, oA w_ALL, oI (22 : Int32), oI (14 : Int32), oA w_FAILURE] X75 hx hby d2_31 rfl rfl rfl ?_
  refine own_goto 9 X75 hx hby d2_34 (by decide) (by decide) ?_
  refine own_iload_n 10 X75 hx hby d2_9 rfl rfl ?_
  refine own_iload_n 11 X75 hx hby d2_10 rfl rfl ?_
  refine own_icN 14 X75 hx hby d2_11 rfl (by decide) ?_
  refine own_aload_n 15 X75 hx hby d2_14 rfl rfl rfl ?_
  refine own_iload_n 16 X75 hx hby d2_15 rfl rfl ?_
  refine own_aaload 17 (.ref w_DEAD) X75 hx hby hZ e75 (W.2.2.2.2.2.2.2.2.2.2.2.2.2.2.2.2.2.2.2.2.2.2.2.2.2.2.2.2.2.2.2.2.2.2.2.2.2.2.2.2.2.2.2.2.2.2.2.2.2.2.2.2.2.2.2.2.2.2.2.2.2.2.2.2.2.2.2.ext O0.2) rfl d2_16 rfl (by decide) rfl ?_
  refine own_astore 19 #[oI x0, oA w_ALL, oI (22 : Int32), oI (14 : Int32), oA w_DEAD] X75 hx hby d2_17 rfl rfl rfl ?_
  refine own_aload 21 X75 hx hby d2_19 rfl rfl rfl ?_
  refine own_getF 24 X75 hx hby hZ hown (own_w hw 11 rfl) e75 (W.2.2.2.2.2.2.2.2.2.2.2.2.2.2.2.2.2.2.2.2.2.2.2.2.2.2.2.2.2.2.2.2.2.2.2.2.2.2.2.2.2.2.2.2.2.2.2.2.2.2.2.2.2.2.2.2.2.2.2.1.ext O0.2) d2_21 rfl ?_
  intro T77 X77 e77
  refine own_iload_n 25 X77 hx hby d2_24 rfl rfl ?_
  refine own_icY 31 X77 hx hby d2_25 (by decide) (by decide) (feq hc78).2 ?_
  refine own_iinc 34 #[oI x0, oA w_ALL, oI (22 : Int32), oI (15 : Int32), oA w_DEAD] X77 hx hby d2_31 rfl rfl rfl ?_
  refine own_goto 9 X77 hx hby d2_34 (by decide) (by decide) ?_
  refine own_iload_n 10 X77 hx hby d2_9 rfl rfl ?_
  refine own_iload_n 11 X77 hx hby d2_10 rfl rfl ?_
  refine own_icN 14 X77 hx hby d2_11 rfl (by decide) ?_
  refine own_aload_n 15 X77 hx hby d2_14 rfl rfl rfl ?_
  refine own_iload_n 16 X77 hx hby d2_15 rfl rfl ?_
  refine own_aaload 17 (.ref w_COUNT_WAITING) X77 hx hby hZ e77 (W.2.2.2.2.2.2.2.2.2.2.2.2.2.2.2.2.2.2.2.2.2.2.2.2.2.2.2.2.2.2.2.2.2.2.2.2.2.2.2.2.2.2.2.2.2.2.2.2.2.2.2.2.2.2.2.2.2.2.2.2.2.2.2.2.2.2.2.ext O0.2) rfl d2_16 rfl (by decide) rfl ?_
  refine own_astore 19 #[oI x0, oA w_ALL, oI (22 : Int32), oI (15 : Int32), oA w_COUNT_WAITING] X77 hx hby d2_17 rfl rfl rfl ?_
  refine own_aload 21 X77 hx hby d2_19 rfl rfl rfl ?_
  refine own_getF 24 X77 hx hby hZ hown (own_w hw 11 rfl) e77 (W.2.2.2.2.2.2.2.2.2.2.2.2.2.2.2.2.2.2.2.2.2.2.2.2.2.2.2.2.2.2.2.2.2.2.2.2.2.2.2.2.2.2.2.2.2.2.2.2.2.2.2.2.2.2.2.2.2.2.2.2.1.ext O0.2) d2_21 rfl ?_
  intro T79 X79 e79
  refine own_iload_n 25 X79 hx hby d2_24 rfl rfl ?_
  refine own_icN 28 X79 hx hby d2_25 rfl (teq hc80).2 ?_
  refine own_aload 30 X79 hx hby d2_28 rfl rfl rfl ?_
  exact own_ret (Q := own_Q _ n0 h0) X79 hx hby hret hlk d2_30 rfl (Or.inr (Or.inr (Or.inr (Or.inr ⟨rfl, rfl, rfl⟩)))) (by decide) (by decide) ⟨rfl, N0, e79⟩
set_option maxRecDepth 65536 in
set_option maxHeartbeats 40000000 in
theorem rm2_17 (l : Launch) (Z : State) (a0 : Array Value) (hw : ∀ d ∈ tables_1, d.before a0 Z = true) (ws : List Jvm.Cond) (w_HELLO w_ADD_SERVICE w_GET_SERVICE w_LIST_SERVICES w_TRANSLATE w_RESOLVE w_RELEASE w_STATUS w_WAITING w_WATCH w_ACQUIRE w_RETIRE w_RESULT w_FAILURE w_DEAD w_COUNT_WAITING w_CLOSING w_UNHELD w_OPEN w_TRANSACTION w_REPLY w_KNOCK w_ALL k_ALL : Addr) (W : own_W Z w_HELLO w_ADD_SERVICE w_GET_SERVICE w_LIST_SERVICES w_TRANSLATE w_RESOLVE w_RELEASE w_STATUS w_WAITING w_WATCH w_ACQUIRE w_RETIRE w_RESULT w_FAILURE w_DEAD w_COUNT_WAITING w_CLOSING w_UNHELD w_OPEN w_TRANSACTION w_REPLY w_KNOCK w_ALL k_ALL) (x0 : Int32) (h0 : Heap) (n0 : Nat) (O0 : Old Z n0 h0) (hc50 : ¬ ((1 : Int32) = x0)) (hc52 : ¬ ((2 : Int32) = x0)) (hc54 : ¬ ((3 : Int32) = x0)) (hc56 : ¬ ((4 : Int32) = x0)) (hc58 : ¬ ((5 : Int32) = x0)) (hc60 : ¬ ((6 : Int32) = x0)) (hc62 : ¬ ((7 : Int32) = x0)) (hc64 : ¬ ((8 : Int32) = x0)) (hc66 : ¬ ((9 : Int32) = x0)) (hc68 : ¬ ((10 : Int32) = x0)) (hc70 : ¬ ((11 : Int32) = x0)) (hc72 : ¬ ((12 : Int32) = x0)) (hc74 : ¬ ((16 : Int32) = x0)) (hc76 : ¬ ((17 : Int32) = x0)) (hc78 : ¬ ((18 : Int32) = x0)) (hc80 : ¬ ((19 : Int32) = x0)) (hc82 : (20 : Int32) = x0) :
    MetFree l (⟨"com/example/hop1/hop1/protocol/FrameKind", "of", "(I)Lcom/example/hop1/hop1/protocol/FrameKind;"⟩ : MethodName) (head1 (Jvm.Cond.code (⟨"com/example/hop1/hop1/protocol/FrameKind", "of", "(I)Lcom/example/hop1/hop1/protocol/FrameKind;"⟩ : MethodName) prog_113_method_5_code 5 (some (.object "com/example/hop1/hop1/protocol/FrameKind")) :: ws) ({ frames := 0, cells := 0, slots := 0, locals := 0 } : Room)) (fun a U => a = #[(.int x0)] ∧ Z.Warmed39 U.vm ∧ U.heap = h0) (fun _ _ _ _ _ => True) (fun _ U o U' => ∃ v L, o = .returned v ∧ own_Q (some (.ref w_CLOSING)) n0 h0 v U'.heap L ∧ FrameEnd U o U' L ({ frames := 0, cells := 0, slots := 0, locals := 0 } : Room).cells ({ frames := 0, cells := 0, slots := 0, locals := 0 } : Room).slots) := by
  refine MetFree.of_bodySF (plainFor_of_name pn_1) hisR ?_
  intro p e s m args below meth c s₁ Bd hml0 hP hK
  obtain ⟨rfl, hZ, hh⟩ := hP
  have hx := Bd.exec
  have hby := Bd.bytes
  have hml : c.maxLocals = 5 := hml0
  have hlk := BodyLoose.notSynchronized Bd
  have hret := Bd.returns
  have hown : s.vm.findClass "com/example/hop1/hop1/protocol/FrameKind" = some m.cls := findClass_of_methodNamed Bd.named
  have hnm := (name_of_methodNamed Bd.named Bd.method).1
  have X0 : Stand p l e ({ frames := 0, cells := 0, slots := 0, locals := 0 } : Room) s m #[(.int x0)] below meth c s₁ [] 0 0 := Stand.of_body Bd
  have e0 : s₁.heap = h0 := by rw [← hh, Bd.state]; rfl
  have N0 := Fr.nil n0
  rw [ef_2 m x0]
  show Go p e below _ (s₁.setTop (mkF m 0 #[oI x0, oU, oU, oU, oU] []))
  refine own_getS 3 X0 hx hby hZ hown (own_w hw 8 rfl) e0 (W.2.2.2.2.2.2.2.2.2.2.2.2.2.2.2.2.2.2.2.2.2.2.2.2.2.2.2.2.2.2.2.2.2.2.2.2.2.2.2.2.2.2.2.2.1.ext O0.2) d2_0 rfl ?_
  intro T48 X48 e48
  refine own_astore_n 4 #[oI x0, oA w_ALL, oU, oU, oU] X48 hx hby d2_3 rfl rfl rfl ?_
  refine own_aload_n 5 X48 hx hby d2_4 rfl rfl rfl ?_
  refine own_len 6 X48 hx hby hZ e48 (W.2.2.2.2.2.2.2.2.2.2.2.2.2.2.2.2.2.2.2.2.2.2.2.2.2.2.2.2.2.2.2.2.2.2.2.2.2.2.2.2.2.2.2.2.2.2.2.2.2.2.2.2.2.2.2.2.2.2.2.2.2.2.2.2.2.2.2.ext O0.2) d2_5 rfl ?_
  refine own_istore_n 7 #[oI x0, oA w_ALL, oI (22 : Int32), oU, oU] X48 hx hby d2_6 rfl rfl ?_
  refine own_iconst 8 (0 : Int32) X48 hx hby d2_7 rfl (by decide) ?_
  refine own_istore_n 9 #[oI x0, oA w_ALL, oI (22 : Int32), oI (0 : Int32), oU] X48 hx hby d2_8 rfl rfl ?_
  refine own_iload_n 10 X48 hx hby d2_9 rfl rfl ?_
  refine own_iload_n 11 X48 hx hby d2_10 rfl rfl ?_
  refine own_icN 14 X48 hx hby d2_11 rfl (by decide) ?_
  refine own_aload_n 15 X48 hx hby d2_14 rfl rfl rfl ?_
  refine own_iload_n 16 X48 hx hby d2_15 rfl rfl ?_
  refine own_aaload 17 (.ref w_HELLO) X48 hx hby hZ e48 (W.2.2.2.2.2.2.2.2.2.2.2.2.2.2.2.2.2.2.2.2.2.2.2.2.2.2.2.2.2.2.2.2.2.2.2.2.2.2.2.2.2.2.2.2.2.2.2.2.2.2.2.2.2.2.2.2.2.2.2.2.2.2.2.2.2.2.2.ext O0.2) rfl d2_16 rfl (by decide) rfl ?_
  refine own_astore 19 #[oI x0, oA w_ALL, oI (22 : Int32), oI (0 : Int32), oA w_HELLO] X48 hx hby d2_17 rfl rfl rfl ?_
  refine own_aload 21 X48 hx hby d2_19 rfl rfl rfl ?_
  refine own_getF 24 X48 hx hby hZ hown (own_w hw 11 rfl) e48 (W.2.2.2.2.2.2.2.2.2.2.2.2.2.2.2.2.2.2.2.2.2.2.2.2.2.2.2.2.2.2.2.2.2.2.2.2.2.2.2.2.2.2.2.2.2.1.ext O0.2) d2_21 rfl ?_
  intro T49 X49 e49
  refine own_iload_n 25 X49 hx hby d2_24 rfl rfl ?_
  refine own_icY 31 X49 hx hby d2_25 (by decide) (by decide) (feq hc50).2 ?_
  refine own_iinc 34 #[oI x0, oA w_ALL, oI (22 : Int32), oI (1 : Int32), oA w_HELLO] X49 hx hby d2_31 rfl rfl rfl ?_
  refine own_goto 9 X49 hx hby d2_34 (by decide) (by decide) ?_
  refine own_iload_n 10 X49 hx hby d2_9 rfl rfl ?_
  refine own_iload_n 11 X49 hx hby d2_10 rfl rfl ?_
  refine own_icN 14 X49 hx hby d2_11 rfl (by decide) ?_
  refine own_aload_n 15 X49 hx hby d2_14 rfl rfl rfl ?_
  refine own_iload_n 16 X49 hx hby d2_15 rfl rfl ?_
  refine own_aaload 17 (.ref w_ADD_SERVICE) X49 hx hby hZ e49 (W.2.2.2.2.2.2.2.2.2.2.2.2.2.2.2.2.2.2.2.2.2.2.2.2.2.2.2.2.2.2.2.2.2.2.2.2.2.2.2.2.2.2.2.2.2.2.2.2.2.2.2.2.2.2.2.2.2.2.2.2.2.2.2.2.2.2.2.ext O0.2) rfl d2_16 rfl (by decide) rfl ?_
  refine own_astore 19 #[oI x0, oA w_ALL, oI (22 : Int32), oI (1 : Int32), oA w_ADD_SERVICE] X49 hx hby d2_17 rfl rfl rfl ?_
  refine own_aload 21 X49 hx hby d2_19 rfl rfl rfl ?_
  refine own_getF 24 X49 hx hby hZ hown (own_w hw 11 rfl) e49 (W.2.2.2.2.2.2.2.2.2.2.2.2.2.2.2.2.2.2.2.2.2.2.2.2.2.2.2.2.2.2.2.2.2.2.2.2.2.2.2.2.2.2.2.2.2.2.1.ext O0.2) d2_21 rfl ?_
  intro T51 X51 e51
  refine own_iload_n 25 X51 hx hby d2_24 rfl rfl ?_
  refine own_icY 31 X51 hx hby d2_25 (by decide) (by decide) (feq hc52).2 ?_
  refine own_iinc 34 #[oI x0, oA w_ALL, oI (22 : Int32), oI (2 : Int32), oA w_ADD_SERVICE] X51 hx hby d2_31 rfl rfl rfl ?_
  refine own_goto 9 X51 hx hby d2_34 (by decide) (by decide) ?_
  refine own_iload_n 10 X51 hx hby d2_9 rfl rfl ?_
  refine own_iload_n 11 X51 hx hby d2_10 rfl rfl ?_
  refine own_icN 14 X51 hx hby d2_11 rfl (by decide) ?_
  refine own_aload_n 15 X51 hx hby d2_14 rfl rfl rfl ?_
  refine own_iload_n 16 X51 hx hby d2_15 rfl rfl ?_
  refine own_aaload 17 (.ref w_GET_SERVICE) X51 hx hby hZ e51 (W.2.2.2.2.2.2.2.2.2.2.2.2.2.2.2.2.2.2.2.2.2.2.2.2.2.2.2.2.2.2.2.2.2.2.2.2.2.2.2.2.2.2.2.2.2.2.2.2.2.2.2.2.2.2.2.2.2.2.2.2.2.2.2.2.2.2.2.ext O0.2) rfl d2_16 rfl (by decide) rfl ?_
  refine own_astore 19 #[oI x0, oA w_ALL, oI (22 : Int32), oI (2 : Int32), oA w_GET_SERVICE] X51 hx hby d2_17 rfl rfl rfl ?_
  refine own_aload 21 X51 hx hby d2_19 rfl rfl rfl ?_
  refine own_getF 24 X51 hx hby hZ hown (own_w hw 11 rfl) e51 (W.2.2.2.2.2.2.2.2.2.2.2.2.2.2.2.2.2.2.2.2.2.2.2.2.2.2.2.2.2.2.2.2.2.2.2.2.2.2.2.2.2.2.2.2.2.2.2.1.ext O0.2) d2_21 rfl ?_
  intro T53 X53 e53
  refine own_iload_n 25 X53 hx hby d2_24 rfl rfl ?_
  refine own_icY 31 X53 hx hby d2_25 (by decide) (by decide) (feq hc54).2 ?_
  refine own_iinc 34 #[oI x0, oA w_ALL, oI (22 : Int32), oI (3 : Int32), oA w_GET_SERVICE] X53 hx hby d2_31 rfl rfl rfl ?_
  refine own_goto 9 X53 hx hby d2_34 (by decide) (by decide) ?_
  refine own_iload_n 10 X53 hx hby d2_9 rfl rfl ?_
  refine own_iload_n 11 X53 hx hby d2_10 rfl rfl ?_
  refine own_icN 14 X53 hx hby d2_11 rfl (by decide) ?_
  refine own_aload_n 15 X53 hx hby d2_14 rfl rfl rfl ?_
  refine own_iload_n 16 X53 hx hby d2_15 rfl rfl ?_
  refine own_aaload 17 (.ref w_LIST_SERVICES) X53 hx hby hZ e53 (W.2.2.2.2.2.2.2.2.2.2.2.2.2.2.2.2.2.2.2.2.2.2.2.2.2.2.2.2.2.2.2.2.2.2.2.2.2.2.2.2.2.2.2.2.2.2.2.2.2.2.2.2.2.2.2.2.2.2.2.2.2.2.2.2.2.2.2.ext O0.2) rfl d2_16 rfl (by decide) rfl ?_
  refine own_astore 19 #[oI x0, oA w_ALL, oI (22 : Int32), oI (3 : Int32), oA w_LIST_SERVICES] X53 hx hby d2_17 rfl rfl rfl ?_
  refine own_aload 21 X53 hx hby d2_19 rfl rfl rfl ?_
  refine own_getF 24 X53 hx hby hZ hown (own_w hw 11 rfl) e53 (W.2.2.2.2.2.2.2.2.2.2.2.2.2.2.2.2.2.2.2.2.2.2.2.2.2.2.2.2.2.2.2.2.2.2.2.2.2.2.2.2.2.2.2.2.2.2.2.2.1.ext O0.2) d2_21 rfl ?_
  intro T55 X55 e55
  refine own_iload_n 25 X55 hx hby d2_24 rfl rfl ?_
  refine own_icY 31 X55 hx hby d2_25 (by decide) (by decide) (feq hc56).2 ?_
  refine own_iinc 34 #[oI x0, oA w_ALL, oI (22 : Int32), oI (4 : Int32), oA w_LIST_SERVICES] X55 hx hby d2_31 rfl rfl rfl ?_
  refine own_goto 9 X55 hx hby d2_34 (by decide) (by decide) ?_
  refine own_iload_n 10 X55 hx hby d2_9 rfl rfl ?_
  refine own_iload_n 11 X55 hx hby d2_10 rfl rfl ?_
  refine own_icN 14 X55 hx hby d2_11 rfl (by decide) ?_
  refine own_aload_n 15 X55 hx hby d2_14 rfl rfl rfl ?_
  refine own_iload_n 16 X55 hx hby d2_15 rfl rfl ?_
  refine own_aaload 17 (.ref w_TRANSLATE) X55 hx hby hZ e55 (W.2.2.2.2.2.2.2.2.2.2.2.2.2.2.2.2.2.2.2.2.2.2.2.2.2.2.2.2.2.2.2.2.2.2.2.2.2.2.2.2.2.2.2.2.2.2.2.2.2.2.2.2.2.2.2.2.2.2.2.2.2.2.2.2.2.2.2.ext O0.2) rfl d2_16 rfl (by decide) rfl ?_
  refine own_astore 19 #[oI x0, oA w_ALL, oI (22 : Int32), oI (4 : Int32), oA w_TRANSLATE] X55 hx hby d2_17 rfl rfl rfl ?_
  refine own_aload 21 X55 hx hby d2_19 rfl rfl rfl ?_
  refine own_getF 24 X55 hx hby hZ hown (own_w hw 11 rfl) e55 (W.2.2.2.2.2.2.2.2.2.2.2.2.2.2.2.2.2.2.2.2.2.2.2.2.2.2.2.2.2.2.2.2.2.2.2.2.2.2.2.2.2.2.2.2.2.2.2.2.2.1.ext O0.2) d2_21 rfl ?_
  intro T57 X57 e57
  refine own_iload_n 25 X57 hx hby d2_24 rfl rfl ?_
  refine own_icY 31 X57 hx hby d2_25 (by decide) (by decide) (feq hc58).2 ?_
  refine own_iinc 34 #[oI x0, oA w_ALL, oI (22 : Int32), oI (5 : Int32), oA w_TRANSLATE] X57 hx hby d2_31 rfl rfl rfl ?_
  refine own_goto 9 X57 hx hby d2_34 (by decide) (by decide) ?_
  refine own_iload_n 10 X57 hx hby d2_9 rfl rfl ?_
  refine own_iload_n 11 X57 hx hby d2_10 rfl rfl ?_
  refine own_icN 14 X57 hx hby d2_11 rfl (by decide) ?_
  refine own_aload_n 15 X57 hx hby d2_14 rfl rfl rfl ?_
  refine own_iload_n 16 X57 hx hby d2_15 rfl rfl ?_
  refine own_aaload 17 (.ref w_RESOLVE) X57 hx hby hZ e57 (W.2.2.2.2.2.2.2.2.2.2.2.2.2.2.2.2.2.2.2.2.2.2.2.2.2.2.2.2.2.2.2.2.2.2.2.2.2.2.2.2.2.2.2.2.2.2.2.2.2.2.2.2.2.2.2.2.2.2.2.2.2.2.2.2.2.2.2.ext O0.2) rfl d2_16 rfl (by decide) rfl ?_
  refine own_astore 19 #[oI x0, oA w_ALL, oI (22 : Int32), oI (5 : Int32), oA w_RESOLVE] X57 hx hby d2_17 rfl rfl rfl ?_
  refine own_aload 21 X57 hx hby d2_19 rfl rfl rfl ?_
  refine own_getF 24 X57 hx hby hZ hown (own_w hw 11 rfl) e57 (W.2.2.2.2.2.2.2.2.2.2.2.2.2.2.2.2.2.2.2.2.2.2.2.2.2.2.2.2.2.2.2.2.2.2.2.2.2.2.2.2.2.2.2.2.2.2.2.2.2.2.1.ext O0.2) d2_21 rfl ?_
  intro T59 X59 e59
  refine own_iload_n 25 X59 hx hby d2_24 rfl rfl ?_
  refine own_icY 31 X59 hx hby d2_25 (by decide) (by decide) (feq hc60).2 ?_
  refine own_iinc 34 #[oI x0, oA w_ALL, oI (22 : Int32), oI (6 : Int32), oA w_RESOLVE] X59 hx hby d2_31 rfl rfl rfl ?_
  refine own_goto 9 X59 hx hby d2_34 (by decide) (by decide) ?_
  refine own_iload_n 10 X59 hx hby d2_9 rfl rfl ?_
  refine own_iload_n 11 X59 hx hby d2_10 rfl rfl ?_
  refine own_icN 14 X59 hx hby d2_11 rfl (by decide) ?_
  refine own_aload_n 15 X59 hx hby d2_14 rfl rfl rfl ?_
  refine own_iload_n 16 X59 hx hby d2_15 rfl rfl ?_
  refine own_aaload 17 (.ref w_RELEASE) X59 hx hby hZ e59 (W.2.2.2.2.2.2.2.2.2.2.2.2.2.2.2.2.2.2.2.2.2.2.2.2.2.2.2.2.2.2.2.2.2.2.2.2.2.2.2.2.2.2.2.2.2.2.2.2.2.2.2.2.2.2.2.2.2.2.2.2.2.2.2.2.2.2.2.ext O0.2) rfl d2_16 rfl (by decide) rfl ?_
  refine own_astore 19 #[oI x0, oA w_ALL, oI (22 : Int32), oI (6 : Int32), oA w_RELEASE] X59 hx hby d2_17 rfl rfl rfl ?_
  refine own_aload 21 X59 hx hby d2_19 rfl rfl rfl ?_
  refine own_getF 24 X59 hx hby hZ hown (own_w hw 11 rfl) e59 (W.2.2.2.2.2.2.2.2.2.2.2.2.2.2.2.2.2.2.2.2.2.2.2.2.2.2.2.2.2.2.2.2.2.2.2.2.2.2.2.2.2.2.2.2.2.2.2.2.2.2.2.1.ext O0.2) d2_21 rfl ?_
  intro T61 X61 e61
  refine own_iload_n 25 X61 hx hby d2_24 rfl rfl ?_
  refine own_icY 31 X61 hx hby d2_25 (by decide) (by decide) (feq hc62).2 ?_
  refine own_iinc 34 #[oI x0, oA w_ALL, oI (22 : Int32), oI (7 : Int32), oA w_RELEASE] X61 hx hby d2_31 rfl rfl rfl ?_
  refine own_goto 9 X61 hx hby d2_34 (by decide) (by decide) ?_
  refine own_iload_n 10 X61 hx hby d2_9 rfl rfl ?_
  refine own_iload_n 11 X61 hx hby d2_10 rfl rfl ?_
  refine own_icN 14 X61 hx hby d2_11 rfl (by decide) ?_
  refine own_aload_n 15 X61 hx hby d2_14 rfl rfl rfl ?_
  refine own_iload_n 16 X61 hx hby d2_15 rfl rfl ?_
  refine own_aaload 17 (.ref w_STATUS) X61 hx hby hZ e61 (W.2.2.2.2.2.2.2.2.2.2.2.2.2.2.2.2.2.2.2.2.2.2.2.2.2.2.2.2.2.2.2.2.2.2.2.2.2.2.2.2.2.2.2.2.2.2.2.2.2.2.2.2.2.2.2.2.2.2.2.2.2.2.2.2.2.2.2.ext O0.2) rfl d2_16 rfl (by decide) rfl ?_
  refine own_astore 19 #[oI x0, oA w_ALL, oI (22 : Int32), oI (7 : Int32), oA w_STATUS] X61 hx hby d2_17 rfl rfl rfl ?_
  refine own_aload 21 X61 hx hby d2_19 rfl rfl rfl ?_
  refine own_getF 24 X61 hx hby hZ hown (own_w hw 11 rfl) e61 (W.2.2.2.2.2.2.2.2.2.2.2.2.2.2.2.2.2.2.2.2.2.2.2.2.2.2.2.2.2.2.2.2.2.2.2.2.2.2.2.2.2.2.2.2.2.2.2.2.2.2.2.2.1.ext O0.2) d2_21 rfl ?_
  intro T63 X63 e63
  refine own_iload_n 25 X63 hx hby d2_24 rfl rfl ?_
  refine own_icY 31 X63 hx hby d2_25 (by decide) (by decide) (feq hc64).2 ?_
  refine own_iinc 34 #[oI x0, oA w_ALL, oI (22 : Int32), oI (8 : Int32), oA w_STATUS] X63 hx hby d2_31 rfl rfl rfl ?_
  refine own_goto 9 X63 hx hby d2_34 (by decide) (by decide) ?_
  refine own_iload_n 10 X63 hx hby d2_9 rfl rfl ?_
  refine own_iload_n 11 X63 hx hby d2_10 rfl rfl ?_
  refine own_icN 14 X63 hx hby d2_11 rfl (by decide) ?_
  refine own_aload_n 15 X63 hx hby d2_14 rfl rfl rfl ?_
  refine own_iload_n 16 X63 hx hby d2_15 rfl rfl ?_
  refine own_aaload 17 (.ref w_WAITING) X63 hx hby hZ e63 (W.2.2.2.2.2.2.2.2.2.2.2.2.2.2.2.2.2.2.2.2.2.2.2.2.2.2.2.2.2.2.2.2.2.2.2.2.2.2.2.2.2.2.2.2.2.2.2.2.2.2.2.2.2.2.2.2.2.2.2.2.2.2.2.2.2.2.2.ext O0.2) rfl d2_16 rfl (by decide) rfl ?_
  refine own_astore 19 #[oI x0, oA w_ALL, oI (22 : Int32), oI (8 : Int32), oA w_WAITING] X63 hx hby d2_17 rfl rfl rfl ?_
  refine own_aload 21 X63 hx hby d2_19 rfl rfl rfl ?_
  refine own_getF 24 X63 hx hby hZ hown (own_w hw 11 rfl) e63 (W.2.2.2.2.2.2.2.2.2.2.2.2.2.2.2.2.2.2.2.2.2.2.2.2.2.2.2.2.2.2.2.2.2.2.2.2.2.2.2.2.2.2.2.2.2.2.2.2.2.2.2.2.2.1.ext O0.2) d2_21 rfl ?_
  intro T65 X65 e65
  refine own_iload_n 25 X65 hx hby d2_24 rfl rfl ?_
  refine own_icY 31 X65 hx hby d2_25 (by decide) (by decide) (feq hc66).2 ?_
  refine own_iinc 34 #[oI x0, oA w_ALL, oI (22 : Int32), oI (9 : Int32), oA w_WAITING] X65 hx hby d2_31 rfl rfl rfl ?_
  refine own_goto 9 X65 hx hby d2_34 (by decide) (by decide) ?_
  refine own_iload_n 10 X65 hx hby d2_9 rfl rfl ?_
  refine own_iload_n 11 X65 hx hby d2_10 rfl rfl ?_
  refine own_icN 14 X65 hx hby d2_11 rfl (by decide) ?_
  refine own_aload_n 15 X65 hx hby d2_14 rfl rfl rfl ?_
  refine own_iload_n 16 X65 hx hby d2_15 rfl rfl ?_
  refine own_aaload 17 (.ref w_WATCH) X65 hx hby hZ e65 (W.2.2.2.2.2.2.2.2.2.2.2.2.2.2.2.2.2.2.2.2.2.2.2.2.2.2.2.2.2.2.2.2.2.2.2.2.2.2.2.2.2.2.2.2.2.2.2.2.2.2.2.2.2.2.2.2.2.2.2.2.2.2.2.2.2.2.2.ext O0.2) rfl d2_16 rfl (by decide) rfl ?_
  refine own_astore 19 #[oI x0, oA w_ALL, oI (22 : Int32), oI (9 : Int32), oA w_WATCH] X65 hx hby d2_17 rfl rfl rfl ?_
  refine own_aload 21 X65 hx hby d2_19 rfl rfl rfl ?_
  refine own_getF 24 X65 hx hby hZ hown (own_w hw 11 rfl) e65 (W.2.2.2.2.2.2.2.2.2.2.2.2.2.2.2.2.2.2.2.2.2.2.2.2.2.2.2.2.2.2.2.2.2.2.2.2.2.2.2.2.2.2.2.2.2.2.2.2.2.2.2.2.2.2.1.ext O0.2) d2_21 rfl ?_
  intro T67 X67 e67
  refine own_iload_n 25 X67 hx hby d2_24 rfl rfl ?_
  refine own_icY 31 X67 hx hby d2_25 (by decide) (by decide) (feq hc68).2 ?_
  refine own_iinc 34 #[oI x0, oA w_ALL, oI (22 : Int32), oI (10 : Int32), oA w_WATCH] X67 hx hby d2_31 rfl rfl rfl ?_
  refine own_goto 9 X67 hx hby d2_34 (by decide) (by decide) ?_
  refine own_iload_n 10 X67 hx hby d2_9 rfl rfl ?_
  refine own_iload_n 11 X67 hx hby d2_10 rfl rfl ?_
  refine own_icN 14 X67 hx hby d2_11 rfl (by decide) ?_
  refine own_aload_n 15 X67 hx hby d2_14 rfl rfl rfl ?_
  refine own_iload_n 16 X67 hx hby d2_15 rfl rfl ?_
  refine own_aaload 17 (.ref w_ACQUIRE) X67 hx hby hZ e67 (W.2.2.2.2.2.2.2.2.2.2.2.2.2.2.2.2.2.2.2.2.2.2.2.2.2.2.2.2.2.2.2.2.2.2.2.2.2.2.2.2.2.2.2.2.2.2.2.2.2.2.2.2.2.2.2.2.2.2.2.2.2.2.2.2.2.2.2.ext O0.2) rfl d2_16 rfl (by decide) rfl ?_
  refine own_astore 19 #[oI x0, oA w_ALL, oI (22 : Int32), oI (10 : Int32), oA w_ACQUIRE] X67 hx hby d2_17 rfl rfl rfl ?_
  refine own_aload 21 X67 hx hby d2_19 rfl rfl rfl ?_
  refine own_getF 24 X67 hx hby hZ hown (own_w hw 11 rfl) e67 (W.2.2.2.2.2.2.2.2.2.2.2.2.2.2.2.2.2.2.2.2.2.2.2.2.2.2.2.2.2.2.2.2.2.2.2.2.2.2.2.2.2.2.2.2.2.2.2.2.2.2.2.2.2.2.2.1.ext O0.2) d2_21 rfl ?_
  intro T69 X69 e69
  refine own_iload_n 25 X69 hx hby d2_24 rfl rfl ?_
  refine own_icY 31 X69 hx hby d2_25 (by decide) (by decide) (feq hc70).2 ?_
  refine own_iinc 34 #[oI x0, oA w_ALL, oI (22 : Int32), oI (11 : Int32), oA w_ACQUIRE] X69 hx hby d2_31 rfl rfl rfl ?_
  refine own_goto 9 X69 hx hby d2_34 (by decide) (by decide) ?_
  refine own_iload_n 10 X69 hx hby d2_9 rfl rfl ?_
  refine own_iload_n 11 X69 hx hby d2_10 rfl rfl ?_
  refine own_icN 14 X69 hx hby d2_11 rfl (by decide) ?_
  refine own_aload_n 15 X69 hx hby d2_14 rfl rfl rfl ?_
  refine own_iload_n 16 X69 hx hby d2_15 rfl rfl ?_
  refine own_aaload 17 (.ref w_RETIRE) X69 hx hby hZ e69 (W.2.2.2.2.2.2.2.2.2.2.2.2.2.2.2.2.2.2.2.2.2.2.2.2.2.2.2.2.2.2.2.2.2.2.2.2.2.2.2.2.2.2.2.2.2.2.2.2.2.2.2.2.2.2.2.2.2.2.2.2.2.2.2.2.2.2.2.ext O0.2) rfl d2_16 rfl (by decide) rfl ?_
  refine own_astore 19 #[oI x0, oA w_ALL, oI (22 : Int32), oI (11 : Int32), oA w_RETIRE] X69 hx hby d2_17 rfl rfl rfl ?_
  refine own_aload 21 X69 hx hby d2_19 rfl rfl rfl ?_
  refine own_getF 24 X69 hx hby hZ hown (own_w hw 11 rfl) e69 (W.2.2.2.2.2.2.2.2.2.2.2.2.2.2.2.2.2.2.2.2.2.2.2.2.2.2.2.2.2.2.2.2.2.2.2.2.2.2.2.2.2.2.2.2.2.2.2.2.2.2.2.2.2.2.2.2.1.ext O0.2) d2_21 rfl ?_
  intro T71 X71 e71
  refine own_iload_n 25 X71 hx hby d2_24 rfl rfl ?_
  refine own_icY 31 X71 hx hby d2_25 (by decide) (by decide) (feq hc72).2 ?_
  refine own_iinc 34 #[oI x0, oA w_ALL, oI (22 : Int32), oI (12 : Int32), oA w_RETIRE] X71 hx hby d2_31 rfl rfl rfl ?_
  refine own_goto 9 X71 hx hby d2_34 (by decide) (by decide) ?_
  refine own_iload_n 10 X71 hx hby d2_9 rfl rfl ?_
  refine own_iload_n 11 X71 hx hby d2_10 rfl rfl ?_
  refine own_icN 14 X71 hx hby d2_11 rfl (by decide) ?_
  refine own_aload_n 15 X71 hx hby d2_14 rfl rfl rfl ?_
  refine own_iload_n 16 X71 hx hby d2_15 rfl rfl ?_
  refine own_aaload 17 (.ref w_RESULT) X71 hx hby hZ e71 (W.2.2.2.2.2.2.2.2.2.2.2.2.2.2.2.2.2.2.2.2.2.2.2.2.2.2.2.2.2.2.2.2.2.2.2.2.2.2.2.2.2.2.2.2.2.2.2.2.2.2.2.2.2.2.2.2.2.2.2.2.2.2.2.2.2.2.2.ext O0.2) rfl d2_16 rfl (by decide) rfl ?_
  refine own_astore 19 #[oI x0, oA w_ALL, oI (22 : Int32), oI (12 : Int32), oA w_RESULT] X71 hx hby d2_17 rfl rfl rfl ?_
  refine own_aload 21 X71 hx hby d2_19 rfl rfl rfl ?_
  refine own_getF 24 X71 hx hby hZ hown (own_w hw 11 rfl) e71 (W.2.2.2.2.2.2.2.2.2.2.2.2.2.2.2.2.2.2.2.2.2.2.2.2.2.2.2.2.2.2.2.2.2.2.2.2.2.2.2.2.2.2.2.2.2.2.2.2.2.2.2.2.2.2.2.2.2.1.ext O0.2) d2_21 rfl ?_
  intro T73 X73 e73
  refine own_iload_n 25 X73 hx hby d2_24 rfl rfl ?_
  refine own_icY 31 X73 hx hby d2_25 (by decide) (by decide) (feq hc74).2 ?_
  refine own_iinc 34 #[oI x0, oA w_ALL, oI (22 : Int32), oI (13 : Int32), oA w_RESULT] X73 hx hby d2_31 rfl rfl rfl ?_
  refine own_goto 9 X73 hx hby d2_34 (by decide) (by decide) ?_
  refine own_iload_n 10 X73 hx hby d2_9 rfl rfl ?_
  refine own_iload_n 11 X73 hx hby d2_10 rfl rfl ?_
  refine own_icN 14 X73 hx hby d2_11 rfl (by decide) ?_
  refine own_aload_n 15 X73 hx hby d2_14 rfl rfl rfl ?_
  refine own_iload_n 16 X73 hx hby d2_15 rfl rfl ?_
  refine own_aaload 17 (.ref w_FAILURE) X73 hx hby hZ e73 (W.2.2.2.2.2.2.2.2.2.2.2.2.2.2.2.2.2.2.2.2.2.2.2.2.2.2.2.2.2.2.2.2.2.2.2.2.2.2.2.2.2.2.2.2.2.2.2.2.2.2.2.2.2.2.2.2.2.2.2.2.2.2.2.2.2.2.2.ext O0.2) rfl d2_16 rfl (by decide) rfl ?_
  refine own_astore 19 #[oI x0, oA w_ALL, oI (22 : Int32), oI (13 : Int32), oA w_FAILURE] X73 hx hby d2_17 rfl rfl rfl ?_
  refine own_aload 21 X73 hx hby d2_19 rfl rfl rfl ?_
  refine own_getF 24 X73 hx hby hZ hown (own_w hw 11 rfl) e73 (W.2.2.2.2.2.2.2.2.2.2.2.2.2.2.2.2.2.2.2.2.2.2.2.2.2.2.2.2.2.2.2.2.2.2.2.2.2.2.2.2.2.2.2.2.2.2.2.2.2.2.2.2.2.2.2.2.2.2.1.ext O0.2) d2_21 rfl ?_
  intro T75 X75 e75
  refine own_iload_n 25 X75 hx hby d2_24 rfl rfl ?_
  refine own_icY 31 X75 hx hby d2_25 (by decide) (by decide) (feq hc76).2 ?_
  refine own_iinc 34 #[oI x0, oA w_ALL, oI (22 : Int32), oI (14 : Int32), oA w_FAILURE] X75 hx hby d2_31 rfl rfl rfl ?_
  refine own_goto 9 X75 hx hby d2_34 (by decide) (by decide) ?_
  refine own_iload_n 10 X75 hx hby d2_9 rfl rfl ?_
  refine own_iload_n 11 X75 hx hby d2_10 rfl rfl ?_
  refine own_icN 14 X75 hx hby d2_11 rfl (by decide) ?_
  refine own_aload_n 15 X75 hx hby d2_14 rfl rfl rfl ?_
  refine own_iload_n 16 X75 hx hby d2_15 rfl rfl ?_
  refine own_aaload 17 (.ref w_DEAD) X75 hx hby hZ e75 (W.2.2.2.2.2.2.2.2.2.2.2.2.2.2.2.2.2.2.2.2.2.2.2.2.2.2.2.2.2.2.2.2.2.2.2.2.2.2.2.2.2.2.2.2.2.2.2.2.2.2.2.2.2.2.2.2.2.2.2.2.2.2.2.2.2.2.2.ext O0.2) rfl d2_16 rfl (by decide) rfl ?_
  refine own_astore 19 #[oI x0, oA w_ALL, oI (22 : Int32), oI (14 : Int32), oA w_DEAD] X75 hx hby d2_17 rfl rfl rfl ?_
  refine own_aload 21 X75 hx hby d2_19 rfl rfl rfl ?_
  refine own_getF 24 X75 hx hby hZ hown (own_w hw 11 rfl) e75 (W.2.2.2.2.2.2.2.2.2.2.2.2.2.2.2.2.2.2.2.2.2.2.2.2.2.2.2.2.2.2.2.2.2.2.2.2.2.2.2.2.2.2.2.2.2.2.2.2.2.2.2.2.2.2.2.2.2.2.2.1.ext O0.2) d2_21 rfl ?_
  intro T77 X77 e77
  refine own_iload_n 25 X77 hx hby d2_24 rfl rfl ?_
  refine own_icY 31 X77 hx hby d2_25 (by decide) (by decide) (feq hc78).2 ?_
  refine own_iinc 34 #[oI x0, oA w_ALL, oI (22 : Int32), oI (15 : Int32), oA w_DEAD] X77 hx hby d2_31 rfl rfl rfl ?_
  refine own_goto 9 X77 hx hby d2_34 (by decide) (by decide) ?_
  refine own_iload_n 10 X77 hx hby d2_9 rfl rfl ?_
  refine own_iload_n 11 X77 hx hby d2_10 rfl rfl ?_
  refine own_icN 14 X77 hx hby d2_11 rfl (by decide) ?_
  refine own_aload_n 15 X77 hx hby d2_14 rfl rfl rfl ?_
  refine own_iload_n 16 X77 hx hby d2_15 rfl rfl ?_
  refine own_aaload 17 (.ref w_COUNT_WAITING) X77 hx hby hZ e77 (W.2.2.2.2.2.2.2.2.2.2.2.2.2.2.2.2.2.2.2.2.2.2.2.2.2.2.2.2.2.2.2.2.2.2.2.2.2.2.2.2.2.2.2.2.2.2.2.2.2.2.2.2.2.2.2.2.2.2.2.2.2.2.2.2.2.2.2.ext O0.2) rfl d2_16 rfl (by decide) rfl ?_
  refine own_astore 19 #[oI x0, oA w_ALL, oI (22 : Int32), oI (15 : Int32), oA w_COUNT_WAITING] X77 hx hby d2_17 rfl rfl rfl ?_
  refine own_aload 21 X77 hx hby d2_19 rfl rfl rfl ?_
  refine own_getF 24 X77 hx hby hZ hown (own_w hw 11 rfl) e77 (W.2.2.2.2.2.2.2.2.2.2.2.2.2.2.2.2.2.2.2.2.2.2.2.2.2.2.2.2.2.2.2.2.2.2.2.2.2.2.2.2.2.2.2.2.2.2.2.2.2.2.2.2.2.2.2.2.2.2.2.2.1.ext O0.2) d2_21 rfl ?_
  intro T79 X79 e79
  refine own_iload_n 25 X79 hx hby d2_24 rfl rfl ?_
  refine own_icY 31 X79 hx hby d2_25 (by decide) (by decide) (feq hc80).2 ?_
  refine own_iinc 34 #[oI x0, oA w_ALL, oI (22 : Int32), oI (16 : Int32), oA w_COUNT_WAITING] X79 hx hby d2_31 rfl rfl rfl ?_
  refine own_goto 9 X79 hx hby d2_34 (by decide) (by decide) ?_
  refine own_iload_n 10 X79 hx hby d2_9 rfl rfl ?_
  refine own_iload_n 11 X79 hx hby d2_10 rfl rfl ?_
  refine own_icN 14 X79 hx hby d2_11 rfl (by decide) ?_
  refine own_aload_n 15 X79 hx hby d2_14 rfl rfl rfl ?_
  refine own_iload_n 16 X79 hx hby d2_15 rfl rfl ?_
  refine own_aaload 17 (.ref w_CLOSING) X79 hx hby hZ e79 (W.2.2.2.2.2.2.2.2.2.2.2.2.2.2.2.2.2.2.2.2.2.2.2.2.2.2.2.2.2.2.2.2.2.2.2.2.2.2.2.2.2.2.2.2.2.2.2.2.2.2.2.2.2.2.2.2.2.2.2.2.2.2.2.2.2.2.2.ext O0.2) rfl d2_16 rfl (by decide) rfl ?_
  refine own_astore 19 #[oI x0, oA w_ALL, oI (22 : Int32), oI (16 : Int32), oA w_CLOSING] X79 hx hby d2_17 rfl rfl rfl ?_
  refine own_aload 21 X79 hx hby d2_19 rfl rfl rfl ?_
  refine own_getF 24 X79 hx hby hZ hown (own_w hw 11 rfl) e79 (W.2.2.2.2.2.2.2.2.2.2.2.2.2.2.2.2.2.2.2.2.2.2.2.2.2.2.2.2.2.2.2.2.2.2.2.2.2.2.2.2.2.2.2.2.2.2.2.2.2.2.2.2.2.2.2.2.2.2.2.2.2.1.ext O0.2) d2_21 rfl ?_
  intro T81 X81 e81
  refine own_iload_n 25 X81 hx hby d2_24 rfl rfl ?_
  refine own_icN 28 X81 hx hby d2_25 rfl (teq hc82).2 ?_
  refine own_aload 30 X81 hx hby d2_28 rfl rfl rfl ?_
  exact own_ret (Q := own_Q _ n0 h0) X81 hx hby hret hlk d2_30 rfl (Or.inr (Or.inr (Or.inr (Or.inr ⟨rfl, rfl, rfl⟩)))) (by decide) (by decide) ⟨rfl, N0, e81⟩
set_option maxRecDepth 65536 in
set_option maxHeartbeats 40000000 in
theorem rm2_18 (l : Launch) (Z : State) (a0 : Array Value) (hw : ∀ d ∈ tables_1, d.before a0 Z = true) (ws : List Jvm.Cond) (w_HELLO w_ADD_SERVICE w_GET_SERVICE w_LIST_SERVICES w_TRANSLATE w_RESOLVE w_RELEASE w_STATUS w_WAITING w_WATCH w_ACQUIRE w_RETIRE w_RESULT w_FAILURE w_DEAD w_COUNT_WAITING w_CLOSING w_UNHELD w_OPEN w_TRANSACTION w_REPLY w_KNOCK w_ALL k_ALL : Addr) (W : own_W Z w_HELLO w_ADD_SERVICE w_GET_SERVICE w_LIST_SERVICES w_TRANSLATE w_RESOLVE w_RELEASE w_STATUS w_WAITING w_WATCH w_ACQUIRE w_RETIRE w_RESULT w_FAILURE w_DEAD w_COUNT_WAITING w_CLOSING w_UNHELD w_OPEN w_TRANSACTION w_REPLY w_KNOCK w_ALL k_ALL) (x0 : Int32) (h0 : Heap) (n0 : Nat) (O0 : Old Z n0 h0) (hc50 : ¬ ((1 : Int32) = x0)) (hc52 : ¬ ((2 : Int32) = x0)) (hc54 : ¬ ((3 : Int32) = x0)) (hc56 : ¬ ((4 : Int32) = x0)) (hc58 : ¬ ((5 : Int32) = x0)) (hc60 : ¬ ((6 : Int32) = x0)) (hc62 : ¬ ((7 : Int32) = x0)) (hc64 : ¬ ((8 : Int32) = x0)) (hc66 : ¬ ((9 : Int32) = x0)) (hc68 : ¬ ((10 : Int32) = x0)) (hc70 : ¬ ((11 : Int32) = x0)) (hc72 : ¬ ((12 : Int32) = x0)) (hc74 : ¬ ((16 : Int32) = x0)) (hc76 : ¬ ((17 : Int32) = x0)) (hc78 : ¬ ((18 : Int32) = x0)) (hc80 : ¬ ((19 : Int32) = x0)) (hc82 : ¬ ((20 : Int32) = x0)) (hc84 : (21 : Int32) = x0) :
    MetFree l (⟨"com/example/hop1/hop1/protocol/FrameKind", "of", "(I)Lcom/example/hop1/hop1/protocol/FrameKind;"⟩ : MethodName) (head1 (Jvm.Cond.code (⟨"com/example/hop1/hop1/protocol/FrameKind", "of", "(I)Lcom/example/hop1/hop1/protocol/FrameKind;"⟩ : MethodName) prog_113_method_5_code 5 (some (.object "com/example/hop1/hop1/protocol/FrameKind")) :: ws) ({ frames := 0, cells := 0, slots := 0, locals := 0 } : Room)) (fun a U => a = #[(.int x0)] ∧ Z.Warmed39 U.vm ∧ U.heap = h0) (fun _ _ _ _ _ => True) (fun _ U o U' => ∃ v L, o = .returned v ∧ own_Q (some (.ref w_UNHELD)) n0 h0 v U'.heap L ∧ FrameEnd U o U' L ({ frames := 0, cells := 0, slots := 0, locals := 0 } : Room).cells ({ frames := 0, cells := 0, slots := 0, locals := 0 } : Room).slots) := by
  refine MetFree.of_bodySF (plainFor_of_name pn_1) hisR ?_
  intro p e s m args below meth c s₁ Bd hml0 hP hK
  obtain ⟨rfl, hZ, hh⟩ := hP
  have hx := Bd.exec
  have hby := Bd.bytes
  have hml : c.maxLocals = 5 := hml0
  have hlk := BodyLoose.notSynchronized Bd
  have hret := Bd.returns
  have hown : s.vm.findClass "com/example/hop1/hop1/protocol/FrameKind" = some m.cls := findClass_of_methodNamed Bd.named
  have hnm := (name_of_methodNamed Bd.named Bd.method).1
  have X0 : Stand p l e ({ frames := 0, cells := 0, slots := 0, locals := 0 } : Room) s m #[(.int x0)] below meth c s₁ [] 0 0 := Stand.of_body Bd
  have e0 : s₁.heap = h0 := by rw [← hh, Bd.state]; rfl
  have N0 := Fr.nil n0
  rw [ef_2 m x0]
  show Go p e below _ (s₁.setTop (mkF m 0 #[oI x0, oU, oU, oU, oU] []))
  refine own_getS 3 X0 hx hby hZ hown (own_w hw 8 rfl) e0 (W.2.2.2.2.2.2.2.2.2.2.2.2.2.2.2.2.2.2.2.2.2.2.2.2.2.2.2.2.2.2.2.2.2.2.2.2.2.2.2.2.2.2.2.2.1.ext O0.2) d2_0 rfl ?_
  intro T48 X48 e48
  refine own_astore_n 4 #[oI x0, oA w_ALL, oU, oU, oU] X48 hx hby d2_3 rfl rfl rfl ?_
  refine own_aload_n 5 X48 hx hby d2_4 rfl rfl rfl ?_
  refine own_len 6 X48 hx hby hZ e48 (W.2.2.2.2.2.2.2.2.2.2.2.2.2.2.2.2.2.2.2.2.2.2.2.2.2.2.2.2.2.2.2.2.2.2.2.2.2.2.2.2.2.2.2.2.2.2.2.2.2.2.2.2.2.2.2.2.2.2.2.2.2.2.2.2.2.2.2.ext O0.2) d2_5 rfl ?_
  refine own_istore_n 7 #[oI x0, oA w_ALL, oI (22 : Int32), oU, oU] X48 hx hby d2_6 rfl rfl ?_
  refine own_iconst 8 (0 : Int32) X48 hx hby d2_7 rfl (by decide) ?_
  refine own_istore_n 9 #[oI x0, oA w_ALL, oI (22 : Int32), oI (0 : Int32), oU] X48 hx hby d2_8 rfl rfl ?_
  refine own_iload_n 10 X48 hx hby d2_9 rfl rfl ?_
  refine own_iload_n 11 X48 hx hby d2_10 rfl rfl ?_
  refine own_icN 14 X48 hx hby d2_11 rfl (by decide) ?_
  refine own_aload_n 15 X48 hx hby d2_14 rfl rfl rfl ?_
  refine own_iload_n 16 X48 hx hby d2_15 rfl rfl ?_
  refine own_aaload 17 (.ref w_HELLO) X48 hx hby hZ e48 (W.2.2.2.2.2.2.2.2.2.2.2.2.2.2.2.2.2.2.2.2.2.2.2.2.2.2.2.2.2.2.2.2.2.2.2.2.2.2.2.2.2.2.2.2.2.2.2.2.2.2.2.2.2.2.2.2.2.2.2.2.2.2.2.2.2.2.2.ext O0.2) rfl d2_16 rfl (by decide) rfl ?_
  refine own_astore 19 #[oI x0, oA w_ALL, oI (22 : Int32), oI (0 : Int32), oA w_HELLO] X48 hx hby d2_17 rfl rfl rfl ?_
  refine own_aload 21 X48 hx hby d2_19 rfl rfl rfl ?_
  refine own_getF 24 X48 hx hby hZ hown (own_w hw 11 rfl) e48 (W.2.2.2.2.2.2.2.2.2.2.2.2.2.2.2.2.2.2.2.2.2.2.2.2.2.2.2.2.2.2.2.2.2.2.2.2.2.2.2.2.2.2.2.2.2.1.ext O0.2) d2_21 rfl ?_
  intro T49 X49 e49
  refine own_iload_n 25 X49 hx hby d2_24 rfl rfl ?_
  refine own_icY 31 X49 hx hby d2_25 (by decide) (by decide) (feq hc50).2 ?_
  refine own_iinc 34 #[oI x0, oA w_ALL, oI (22 : Int32), oI (1 : Int32), oA w_HELLO] X49 hx hby d2_31 rfl rfl rfl ?_
  refine own_goto 9 X49 hx hby d2_34 (by decide) (by decide) ?_
  refine own_iload_n 10 X49 hx hby d2_9 rfl rfl ?_
  refine own_iload_n 11 X49 hx hby d2_10 rfl rfl ?_
  refine own_icN 14 X49 hx hby d2_11 rfl (by decide) ?_
  refine own_aload_n 15 X49 hx hby d2_14 rfl rfl rfl ?_
  refine own_iload_n 16 X49 hx hby d2_15 rfl rfl ?_
  refine own_aaload 17 (.ref w_ADD_SERVICE) X49 hx hby hZ e49 (W.2.2.2.2.2.2.2.2.2.2.2.2.2.2.2.2.2.2.2.2.2.2.2.2.2.2.2.2.2.2.2.2.2.2.2.2.2.2.2.2.2.2.2.2.2.2.2.2.2.2.2.2.2.2.2.2.2.2.2.2.2.2.2.2.2.2.2.ext O0.2) rfl d2_16 rfl (by decide) rfl ?_
  refine own_astore 19 #[oI x0, oA w_ALL, oI (22 : Int32), oI (1 : Int32), oA w_ADD_SERVICE] X49 hx hby d2_17 rfl rfl rfl ?_
  refine own_aload 21 X49 hx hby d2_19 rfl rfl rfl ?_
  refine own_getF 24 X49 hx hby hZ hown (own_w hw 11 rfl) e49 (W.2.2.2.2.2.2.2.2.2.2.2.2.2.2.2.2.2.2.2.2.2.2.2.2.2.2.2.2.2.2.2.2.2.2.2.2.2.2.2.2.2.2.2.2.2.2.1.ext O0.2) d2_21 rfl ?_
  intro T51 X51 e51
  refine own_iload_n 25 X51 hx hby d2_24 rfl rfl ?_
  refine own_icY 31 X51 hx hby d2_25 (by decide) (by decide) (feq hc52).2 ?_
  refine own_iinc 34 #[oI x0, oA w_ALL, oI (22 : Int32), oI (2 : Int32), oA w_ADD_SERVICE] X51 hx hby d2_31 rfl rfl rfl ?_
  refine own_goto 9 X51 hx hby d2_34 (by decide) (by decide) ?_
  refine own_iload_n 10 X51 hx hby d2_9 rfl rfl ?_
  refine own_iload_n 11 X51 hx hby d2_10 rfl rfl ?_
  refine own_icN 14 X51 hx hby d2_11 rfl (by decide) ?_
  refine own_aload_n 15 X51 hx hby d2_14 rfl rfl rfl ?_
  refine own_iload_n 16 X51 hx hby d2_15 rfl rfl ?_
  refine own_aaload 17 (.ref w_GET_SERVICE) X51 hx hby hZ e51 (W.2.2.2.2.2.2.2.2.2.2.2.2.2.2.2.2.2.2.2.2.2.2.2.2.2.2.2.2.2.2.2.2.2.2.2.2.2.2.2.2.2.2.2.2.2.2.2.2.2.2.2.2.2.2.2.2.2.2.2.2.2.2.2.2.2.2.2.ext O0.2) rfl d2_16 rfl (by decide) rfl ?_
  refine own_astore 19 #[oI x0, oA w_ALL, oI (22 : Int32), oI (2 : Int32), oA w_GET_SERVICE] X51 hx hby d2_17 rfl rfl rfl ?_
  refine own_aload 21 X51 hx hby d2_19 rfl rfl rfl ?_
  refine own_getF 24 X51 hx hby hZ hown (own_w hw 11 rfl) e51 (W.2.2.2.2.2.2.2.2.2.2.2.2.2.2.2.2.2.2.2.2.2.2.2.2.2.2.2.2.2.2.2.2.2.2.2.2.2.2.2.2.2.2.2.2.2.2.2.1.ext O0.2) d2_21 rfl ?_
  intro T53 X53 e53
  refine own_iload_n 25 X53 hx hby d2_24 rfl rfl ?_
  refine own_icY 31 X53 hx hby d2_25 (by decide) (by decide) (feq hc54).2 ?_
  refine own_iinc 34 #[oI x0, oA w_ALL, oI (22 : Int32), oI (3 : Int32), oA w_GET_SERVICE] X53 hx hby d2_31 rfl rfl rfl ?_
  refine own_goto 9 X53 hx hby d2_34 (by decide) (by decide) ?_
  refine own_iload_n 10 X53 hx hby d2_9 rfl rfl ?_
  refine own_iload_n 11 X53 hx hby d2_10 rfl rfl ?_
  refine own_icN 14 X53 hx hby d2_11 rfl (by decide) ?_
  refine own_aload_n 15 X53 hx hby d2_14 rfl rfl rfl ?_
  refine own_iload_n 16 X53 hx hby d2_15 rfl rfl ?_
  refine own_aaload 17 (.ref w_LIST_SERVICES) X53 hx hby hZ e53 (W.2.2.2.2.2.2.2.2.2.2.2.2.2.2.2.2.2.2.2.2.2.2.2.2.2.2.2.2.2.2.2.2.2.2.2.2.2.2.2.2.2.2.2.2.2.2.2.2.2.2.2.2.2.2.2.2.2.2.2.2.2.2.2.2.2.2.2.ext O0.2) rfl d2_16 rfl (by decide) rfl ?_
  refine own_astore 19 #[oI x0, oA w_ALL, oI (22 : Int32), oI (3 : Int32), oA w_LIST_SERVICES] X53 hx hby d2_17 rfl rfl rfl ?_
  refine own_aload 21 X53 hx hby d2_19 rfl rfl rfl ?_
  refine own_getF 24 X53 hx hby hZ hown (own_w hw 11 rfl) e53 (W.2.2.2.2.2.2.2.2.2.2.2.2.2.2.2.2.2.2.2.2.2.2.2.2.2.2.2.2.2.2.2.2.2.2.2.2.2.2.2.2.2.2.2.2.2.2.2.2.1.ext O0.2) d2_21 rfl ?_
  intro T55 X55 e55
  refine own_iload_n 25 X55 hx hby d2_24 rfl rfl ?_
  refine own_icY 31 X55 hx hby d2_25 (by decide) (by decide) (feq hc56).2 ?_
  refine own_iinc 34 #[oI x0, oA w_ALL, oI (22 : Int32), oI (4 : Int32), oA w_LIST_SERVICES] X55 hx hby d2_31 rfl rfl rfl ?_
  refine own_goto 9 X55 hx hby d2_34 (by decide) (by decide) ?_
  refine own_iload_n 10 X55 hx hby d2_9 rfl rfl ?_
  refine own_iload_n 11 X55 hx hby d2_10 rfl rfl ?_
  refine own_icN 14 X55 hx hby d2_11 rfl (by decide) ?_
  refine own_aload_n 15 X55 hx hby d2_14 rfl rfl rfl ?_
  refine own_iload_n 16 X55 hx hby d2_15 rfl rfl ?_
  refine own_aaload 17 (.ref w_TRANSLATE) X55 hx hby hZ e55 (W.2.2.2.2.2.2.2.2.2.2.2.2.2.2.2.2.2.2.2.2.2.2.2.2.2.2.2.2.2.2.2.2.2.2.2.2.2.2.2.2.2.2.2.2.2.2.2.2.2.2.2.2.2.2.2.2.2.2.2.2.2.2.2.2.2.2.2.ext O0.2) rfl d2_16 rfl (by decide) rfl ?_
  refine own_astore 19 #[oI x0, oA w_ALL, oI (22 : Int32), oI (4 : Int32), oA w_TRANSLATE] X55 hx hby d2_17 rfl rfl rfl ?_
  refine own_aload 21 X55 hx hby d2_19 rfl rfl rfl ?_
  refine own_getF 24 X55 hx hby hZ hown (own_w hw 11 rfl) e55 (W.2.2.2.2.2.2.2.2.2.2.2.2.2.2.2.2.2.2.2.2.2.2.2.2.2.2.2.2.2.2.2.2.2.2.2.2.2.2.2.2.2.2.2.2.2.2.2.2.2.1.ext O0.2) d2_21 rfl ?_
  intro T57 X57 e57
  refine own_iload_n 25 X57 hx hby d2_24 rfl rfl ?_
  refine own_icY 31 X57 hx hby d2_25 (by decide) (by decide) (feq hc58).2 ?_
  refine own_iinc 34 #[oI x0, oA w_ALL, oI (22 : Int32), oI (5 : Int32), oA w_TRANSLATE] X57 hx hby d2_31 rfl rfl rfl ?_
  refine own_goto 9 X57 hx hby d2_34 (by decide) (by decide) ?_
  refine own_iload_n 10 X57 hx hby d2_9 rfl rfl ?_
  refine own_iload_n 11 X57 hx hby d2_10 rfl rfl ?_
  refine own_icN 14 X57 hx hby d2_11 rfl (by decide) ?_
  refine own_aload_n 15 X57 hx hby d2_14 rfl rfl rfl ?_
  refine own_iload_n 16 X57 hx hby d2_15 rfl rfl ?_
  refine own_aaload 17 (.ref w_RESOLVE) X57 hx hby hZ e57 (W.2.2.2.2.2.2.2.2.2.2.2.2.2.2.2.2.2.2.2.2.2.2.2.2.2.2.2.2.2.2.2.2.2.2.2.2.2.2.2.2.2.2.2.2.2.2.2.2.2.2.2.2.2.2.2.2.2.2.2.2.2.2.2.2.2.2.2.ext O0.2) rfl d2_16 rfl (by decide) rfl ?_
  refine own_astore 19 #[oI x0, oA w_ALL, oI (22 : Int32), oI (5 : Int32), oA w_RESOLVE] X57 hx hby d2_17 rfl rfl rfl ?_
  refine own_aload 21 X57 hx hby d2_19 rfl rfl rfl ?_
  refine own_getF 24 X57 hx hby hZ hown (own_w hw 11 rfl) e57 (W.2.2.2.2.2.2.2.2.2.2.2.2.2.2.2.2.2.2.2.2.2.2.2.2.2.2.2.2.2.2.2.2.2.2.2.2.2.2.2.2.2.2.2.2.2.2.2.2.2.2.1.ext O0.2) d2_21 rfl ?_
  intro T59 X59 e59
  refine own_iload_n 25 X59 hx hby d2_24 rfl rfl ?_
  refine own_icY 31 X59 hx hby d2_25 (by decide) (by decide) (feq hc60).2 ?_
  refine own_iinc 34 #[oI x0, oA w_ALL, oI (22 : Int32), oI (6 : Int32), oA w_RESOLVE] X59 hx hby d2_31 rfl rfl rfl ?_
  refine own_goto 9 X59 hx hby d2_34 (by decide) (by decide) ?_
  refine own_iload_n 10 X59 hx hby d2_9 rfl rfl ?_
  refine own_iload_n 11 X59 hx hby d2_10 rfl rfl ?_
  refine own_icN 14 X59 hx hby d2_11 rfl (by decide) ?_
  refine own_aload_n 15 X59 hx hby d2_14 rfl rfl rfl ?_
  refine own_iload_n 16 X59 hx hby d2_15 rfl rfl ?_
  refine own_aaload 17 (.ref w_RELEASE) X59 hx hby hZ e59 (W.2.2.2.2.2.2.2.2.2.2.2.2.2.2.2.2.2.2.2.2.2.2.2.2.2.2.2.2.2.2.2.2.2.2.2.2.2.2.2.2.2.2.2.2.2.2.2.2.2.2.2.2.2.2.2.2.2.2.2.2.2.2.2.2.2.2.2.ext O0.2) rfl d2_16 rfl (by decide) rfl ?_
  refine own_astore 19 #[oI x0, oA w_ALL, oI (22 : Int32), oI (6 : Int32), oA w_RELEASE] X59 hx hby d2_17 rfl rfl rfl ?_
  refine own_aload 21 X59 hx hby d2_19 rfl rfl rfl ?_
  refine own_getF 24 X59 hx hby hZ hown (own_w hw 11 rfl) e59 (W.2.2.2.2.2.2.2.2.2.2.2.2.2.2.2.2.2.2.2.2.2.2.2.2.2.2.2.2.2.2.2.2.2.2.2.2.2.2.2.2.2.2.2.2.2.2.2.2.2.2.2.1.ext O0.2) d2_21 rfl ?_
  intro T61 X61 e61
  refine own_iload_n 25 X61 hx hby d2_24 rfl rfl ?_
  refine own_icY 31 X61 hx hby d2_25 (by decide) (by decide) (feq hc62).2 ?_
  refine own_iinc 34 #[oI x0, oA w_ALL, oI (22 : Int32), oI (7 : Int32), oA w_RELEASE] X61 hx hby d2_31 rfl rfl rfl ?_
  refine own_goto 9 X61 hx hby d2_34 (by decide) (by decide) ?_
  refine own_iload_n 10 X61 hx hby d2_9 rfl rfl ?_
  refine own_iload_n 11 X61 hx hby d2_10 rfl rfl ?_
  refine own_icN 14 X61 hx hby d2_11 rfl (by decide) ?_
  refine own_aload_n 15 X61 hx hby d2_14 rfl rfl rfl ?_
  refine own_iload_n 16 X61 hx hby d2_15 rfl rfl ?_
  refine own_aaload 17 (.ref w_STATUS) X61 hx hby hZ e61 (W.2.2.2.2.2.2.2.2.2.2.2.2.2.2.2.2.2.2.2.2.2.2.2.2.2.2.2.2.2.2.2.2.2.2.2.2.2.2.2.2.2.2.2.2.2.2.2.2.2.2.2.2.2.2.2.2.2.2.2.2.2.2.2.2.2.2.2.ext O0.2) rfl d2_16 rfl (by decide) rfl ?_
  refine own_astore 19 #[oI x0, oA w_ALL, oI (22 : Int32), oI (7 : Int32), oA w_STATUS] X61 hx hby d2_17 rfl rfl rfl ?_
  refine own_aload 21 X61 hx hby d2_19 rfl rfl rfl ?_
  refine own_getF 24 X61 hx hby hZ hown (own_w hw 11 rfl) e61 (W.2.2.2.2.2.2.2.2.2.2.2.2.2.2.2.2.2.2.2.2.2.2.2.2.2.2.2.2.2.2.2.2.2.2.2.2.2.2.2.2.2.2.2.2.2.2.2.2.2.2.2.2.1.ext O0.2) d2_21 rfl ?_
  intro T63 X63 e63
  refine own_iload_n 25 X63 hx hby d2_24 rfl rfl ?_
  refine own_icY 31 X63 hx hby d2_25 (by decide) (by decide) (feq hc64).2 ?_
  refine own_iinc 34 #[oI x0, oA w_ALL, oI (22 : Int32), oI (8 : Int32), oA w_STATUS] X63 hx hby d2_31 rfl rfl rfl ?_
  refine own_goto 9 X63 hx hby d2_34 (by decide) (by decide) ?_
  refine own_iload_n 10 X63 hx hby d2_9 rfl rfl ?_
  refine own_iload_n 11 X63 hx hby d2_10 rfl rfl ?_
  refine own_icN 14 X63 hx hby d2_11 rfl (by decide) ?_
  refine own_aload_n 15 X63 hx hby d2_14 rfl rfl rfl ?_
  refine own_iload_n 16 X63 hx hby d2_15 rfl rfl ?_
  refine own_aaload 17 (.ref w_WAITING) X63 hx hby hZ e63 (W.2.2.2.2.2.2.2.2.2.2.2.2.2.2.2.2.2.2.2.2.2.2.2.2.2.2.2.2.2.2.2.2.2.2.2.2.2.2.2.2.2.2.2.2.2.2.2.2.2.2.2.2.2.2.2.2.2.2.2.2.2.2.2.2.2.2.2.ext O0.2) rfl d2_16 rfl (by decide) rfl ?_
  refine own_astore 19 #[oI x0, oA w_ALL, oI (22 : Int32), oI (8 : Int32), oA w_WAITING] X63 hx hby d2_17 rfl rfl rfl ?_
  refine own_aload 21 X63 hx hby d2_19 rfl rfl rfl ?_
  refine own_getF 24 X63 hx hby hZ hown (own_w hw 11 rfl) e63 (W.2.2.2.2.2.2.2.2.2.2.2.2.2.2.2.2.2.2.2.2.2.2.2.2.2.2.2.2.2.2.2.2.2.2.2.2.2.2.2.2.2.2.2.2.2.2.2.2.2.2.2.2.2.1.ext O0.2) d2_21 rfl ?_
  intro T65 X65 e65
  refine own_iload_n 25 X65 hx hby d2_24 rfl rfl ?_
  refine own_icY 31 X65 hx hby d2_25 (by decide) (by decide) (feq hc66).2 ?_
  refine own_iinc 34 #[oI x0, oA w_ALL, oI (22 : Int32), oI (9 : Int32), oA w_WAITING] X65 hx hby d2_31 rfl rfl rfl ?_
  refine own_goto 9 X65 hx hby d2_34 (by decide) (by decide) ?_
  refine own_iload_n 10 X65 hx hby d2_9 rfl rfl ?_
  refine own_iload_n 11 X65 hx hby d2_10 rfl rfl ?_
  refine own_icN 14 X65 hx hby d2_11 rfl (by decide) ?_
  refine own_aload_n 15 X65 hx hby d2_14 rfl rfl rfl ?_
  refine own_iload_n 16 X65 hx hby d2_15 rfl rfl ?_
  refine own_aaload 17 (.ref w_WATCH) X65 hx hby hZ e65 (W.2.2.2.2.2.2.2.2.2.2.2.2.2.2.2.2.2.2.2.2.2.2.2.2.2.2.2.2.2.2.2.2.2.2.2.2.2.2.2.2.2.2.2.2.2.2.2.2.2.2.2.2.2.2.2.2.2.2.2.2.2.2.2.2.2.2.2.ext O0.2) rfl d2_16 rfl (by decide) rfl ?_
  refine own_astore 19 #[oI x0, oA w_ALL, oI (22 : Int32), oI (9 : Int32), oA w_WATCH] X65 hx hby d2_17 rfl rfl rfl ?_
  refine own_aload 21 X65 hx hby d2_19 rfl rfl rfl ?_
  refine own_getF 24 X65 hx hby hZ hown (own_w hw 11 rfl) e65 (W.2.2.2.2.2.2.2.2.2.2.2.2.2.2.2.2.2.2.2.2.2.2.2.2.2.2.2.2.2.2.2.2.2.2.2.2.2.2.2.2.2.2.2.2.2.2.2.2.2.2.2.2.2.2.1.ext O0.2) d2_21 rfl ?_
  intro T67 X67 e67
  refine own_iload_n 25 X67 hx hby d2_24 rfl rfl ?_
  refine own_icY 31 X67 hx hby d2_25 (by decide) (by decide) (feq hc68).2 ?_
  refine own_iinc 34 #[oI x0, oA w_ALL, oI (22 : Int32), oI (10 : Int32), oA w_WATCH] X67 hx hby d2_31 rfl rfl rfl ?_
  refine own_goto 9 X67 hx hby d2_34 (by decide) (by decide) ?_
  refine own_iload_n 10 X67 hx hby d2_9 rfl rfl ?_
  refine own_iload_n 11 X67 hx hby d2_10 rfl rfl ?_
  refine own_icN 14 X67 hx hby d2_11 rfl (by decide) ?_
  refine own_aload_n 15 X67 hx hby d2_14 rfl rfl rfl ?_
  refine own_iload_n 16 X67 hx hby d2_15 rfl rfl ?_
  refine own_aaload 17 (.ref w_ACQUIRE) X67 hx hby hZ e67 (W.2.2.2.2.2.2.2.2.2.2.2.2.2.2.2.2.2.2.2.2.2.2.2.2.2.2.2.2.2.2.2.2.2.2.2.2.2.2.2.2.2.2.2.2.2.2.2.2.2.2.2.2.2.2.2.2.2.2.2.2.2.2.2.2.2.2.2.ext O0.2) rfl d2_16 rfl (by decide) rfl ?_
  refine own_astore 19 #[oI x0, oA w_ALL, oI (22 : Int32), oI (10 : Int32), oA w_ACQUIRE] X67 hx hby d2_17 rfl rfl rfl ?_
  refine own_aload 21 X67 hx hby d2_19 rfl rfl rfl ?_
  refine own_getF 24 X67 hx hby hZ hown (own_w hw 11 rfl) e67 (W.2.2.2.2.2.2.2.2.2.2.2.2.2.2.2.2.2.2.2.2.2.2.2.2.2.2.2.2.2.2.2.2.2.2.2.2.2.2.2.2.2.2.2.2.2.2.2.2.2.2.2.2.2.2.2.1.ext O0.2) d2_21 rfl ?_
  intro T69 X69 e69
  refine own_iload_n 25 X69 hx hby d2_24 rfl rfl ?_
  refine own_icY 31 X69 hx hby d2_25 (by decide) (by decide) (feq hc70).2 ?_
  refine own_iinc 34 #[oI x0, oA w_ALL, oI (22 : Int32), oI (11 : Int32), oA w_ACQUIRE] X69 hx hby d2_31 rfl rfl rfl ?_
  refine own_goto 9 X69 hx hby d2_34 (by decide) (by decide) ?_
  refine own_iload_n 10 X69 hx hby d2_9 rfl rfl ?_
  refine own_iload_n 11 X69 hx hby d2_10 rfl rfl ?_
  refine own_icN 14 X69 hx hby d2_11 rfl (by decide) ?_
  refine own_aload_n 15 X69 hx hby d2_14 rfl rfl rfl ?_
  refine own_iload_n 16 X69 hx hby d2_15 rfl rfl ?_
  refine own_aaload 17 (.ref w_RETIRE) X69 hx hby hZ e69 (W.2.2.2.2.2.2.2.2.2.2.2.2.2.2.2.2.2.2.2.2.2.2.2.2.2.2.2.2.2.2.2.2.2.2.2.2.2.2.2.2.2.2.2.2.2.2.2.2.2.2.2.2.2.2.2.2.2.2.2.2.2.2.2.2.2.2.2.ext O0.2) rfl d2_16 rfl (by decide) rfl ?_
  refine own_astore 19 #[oI x0, oA w_ALL, oI (22 : Int32), oI (11 : Int32), oA w_RETIRE] X69 hx hby d2_17 rfl rfl rfl ?_
  refine own_aload 21 X69 hx hby d2_19 rfl rfl rfl ?_
  refine own_getF 24 X69 hx hby hZ hown (own_w hw 11 rfl) e69 (W.2.2.2.2.2.2.2.2.2.2.2.2.2.2.2.2.2.2.2.2.2.2.2.2.2.2.2.2.2.2.2.2.2.2.2.2.2.2.2.2.2.2.2.2.2.2.2.2.2.2.2.2.2.2.2.2.1.ext O0.2) d2_21 rfl ?_
  intro T71 X71 e71
  refine own_iload_n 25 X71 hx hby d2_24 rfl rfl ?_
  refine own_icY 31 X71 hx hby d2_25 (by decide) (by decide) (feq hc72).2 ?_
  refine own_iinc 34 #[oI x0, oA w_ALL, oI (22 : Int32), oI (12 : Int32), oA w_RETIRE] X71 hx hby d2_31 rfl rfl rfl ?_
  refine own_goto 9 X71 hx hby d2_34 (by decide) (by decide) ?_
  refine own_iload_n 10 X71 hx hby d2_9 rfl rfl ?_
  refine own_iload_n 11 X71 hx hby d2_10 rfl rfl ?_
  refine own_icN 14 X71 hx hby d2_11 rfl (by decide) ?_
  refine own_aload_n 15 X71 hx hby d2_14 rfl rfl rfl ?_
  refine own_iload_n 16 X71 hx hby d2_15 rfl rfl ?_
  refine own_aaload 17 (.ref w_RESULT) X71 hx hby hZ e71 (W.2.2.2.2.2.2.2.2.2.2.2.2.2.2.2.2.2.2.2.2.2.2.2.2.2.2.2.2.2.2.2.2.2.2.2.2.2.2.2.2.2.2.2.2.2.2.2.2.2.2.2.2.2.2.2.2.2.2.2.2.2.2.2.2.2.2.2.ext O0.2) rfl d2_16 rfl (by decide) rfl ?_
  refine own_astore 19 #[oI x0, oA w_ALL, oI (22 : Int32), oI (12 : Int32), oA w_RESULT] X71 hx hby d2_17 rfl rfl rfl ?_
  refine own_aload 21 X71 hx hby d2_19 rfl rfl rfl ?_
  refine own_getF 24 X71 hx hby hZ hown (own_w hw 11 rfl) e71 (W.2.2.2.2.2.2.2.2.2.2.2.2.2.2.2.2.2.2.2.2.2.2.2.2.2.2.2.2.2.2.2.2.2.2.2.2.2.2.2.2.2.2.2.2.2.2.2.2.2.2.2.2.2.2.2.2.2.1.ext O0.2) d2_21 rfl ?_
  intro T73 X73 e73
  refine own_iload_n 25 X73 hx hby d2_24 rfl rfl ?_
  refine own_icY 31 X73 hx hby d2_25 (by decide) (by decide) (feq hc74).2 ?_
  refine own_iinc 34 #[oI x0, oA w_ALL, oI (22 : Int32), oI (13 : Int32), oA w_RESULT] X73 hx hby d2_31 rfl rfl rfl ?_
  refine own_goto 9 X73 hx hby d2_34 (by decide) (by decide) ?_
  refine own_iload_n 10 X73 hx hby d2_9 rfl rfl ?_
  refine own_iload_n 11 X73 hx hby d2_10 rfl rfl ?_
  refine own_icN 14 X73 hx hby d2_11 rfl (by decide) ?_
  refine own_aload_n 15 X73 hx hby d2_14 rfl rfl rfl ?_
  refine own_iload_n 16 X73 hx hby d2_15 rfl rfl ?_
  refine own_aaload 17 (.ref w_FAILURE) X73 hx hby hZ e73 (W.2.2.2.2.2.2.2.2.2.2.2.2.2.2.2.2.2.2.2.2.2.2.2.2.2.2.2.2.2.2.2.2.2.2.2.2.2.2.2.2.2.2.2.2.2.2.2.2.2.2.2.2.2.2.2.2.2.2.2.2.2.2.2.2.2.2.2.ext O0.2) rfl d2_16 rfl (by decide) rfl ?_
  refine own_astore 19 #[oI x0, oA w_ALL, oI (22 : Int32), oI (13 : Int32), oA w_FAILURE] X73 hx hby d2_17 rfl rfl rfl ?_
  refine own_aload 21 X73 hx hby d2_19 rfl rfl rfl ?_
  refine own_getF 24 X73 hx hby hZ hown (own_w hw 11 rfl) e73 (W.2.2.2.2.2.2.2.2.2.2.2.2.2.2.2.2.2.2.2.2.2.2.2.2.2.2.2.2.2.2.2.2.2.2.2.2.2.2.2.2.2.2.2.2.2.2.2.2.2.2.2.2.2.2.2.2.2.2.1.ext O0.2) d2_21 rfl ?_
  intro T75 X75 e75
  refine own_iload_n 25 X75 hx hby d2_24 rfl rfl ?_
  refine own_icY 31 X75 hx hby d2_25 (by decide) (by decide) (feq hc76).2 ?_
  refine own_iinc 34 #[oI x0, oA w_ALL, oI (22 : Int32), oI (14 : Int32), oA w_FAILURE] X75 hx hby d2_31 rfl rfl rfl ?_
  refine own_goto 9 X75 hx hby d2_34 (by decide) (by decide) ?_
  refine own_iload_n 10 X75 hx hby d2_9 rfl rfl ?_
  refine own_iload_n 11 X75 hx hby d2_10 rfl rfl ?_
  refine own_icN 14 X75 hx hby d2_11 rfl (by decide) ?_
  refine own_aload_n 15 X75 hx hby d2_14 rfl rfl rfl ?_
  refine own_iload_n 16 X75 hx hby d2_15 rfl rfl ?_
  refine own_aaload 17 (.ref w_DEAD) X75 hx hby hZ e75 (W.2.2.2.2.2.2.2.2.2.2.2.2.2.2.2.2.2.2.2.2.2.2.2.2.2.2.2.2.2.2.2.2.2.2.2.2.2.2.2.2.2.2.2.2.2.2.2.2.2.2.2.2.2.2.2.2.2.2.2.2.2.2.2.2.2.2.2.ext O0.2) rfl d2_16 rfl (by decide) rfl ?_
  refine own_astore 19 #[oI x0, oA w_ALL, oI (22 : Int32), oI (14 : Int32), oA w_DEAD] X75 hx hby d2_17 rfl rfl rfl ?_
  refine own_aload 21 X75 hx hby d2_19 rfl rfl rfl ?_
  refine own_getF 24 X75 hx hby hZ hown (own_w hw 11 rfl) e75 (W.2.2.2.2.2.2.2.2.2.2.2.2.2.2.2.2.2.2.2.2.2.2.2.2.2.2.2.2.2.2.2.2.2.2.2.2.2.2.2.2.2.2.2.2.2.2.2.2.2.2.2.2.2.2.2.2.2.2.2.1.ext O0.2) d2_21 rfl ?_
  intro T77 X77 e77
  refine own_iload_n 25 X77 hx hby d2_24 rfl rfl ?_
  refine own_icY 31 X77 hx hby d2_25 (by decide) (by decide) (feq hc78).2 ?_
  refine own_iinc 34 #[oI x0, oA w_ALL, oI (22 : Int32), oI (15 : Int32), oA w_DEAD] X77 hx hby d2_31 rfl rfl rfl ?_
  refine own_goto 9 X77 hx hby d2_34 (by decide) (by decide) ?_
  refine own_iload_n 10 X77 hx hby d2_9 rfl rfl ?_
  refine own_iload_n 11 X77 hx hby d2_10 rfl rfl ?_
  refine own_icN 14 X77 hx hby d2_11 rfl (by decide) ?_
  refine own_aload_n 15 X77 hx hby d2_14 rfl rfl rfl ?_
  refine own_iload_n 16 X77 hx hby d2_15 rfl rfl ?_
  refine own_aaload 17 (.ref w_COUNT_WAITING) X77 hx hby hZ e77 (W.2.2.2.2.2.2.2.2.2.2.2.2.2.2.2.2.2.2.2.2.2.2.2.2.2.2.2.2.2.2.2.2.2.2.2.2.2.2.2.2.2.2.2.2.2.2.2.2.2.2.2.2.2.2.2.2.2.2.2.2.2.2.2.2.2.2.2.ext O0.2) rfl d2_16 rfl (by decide) rfl ?_
  refine own_astore 19 #[oI x0, oA w_ALL, oI (22 : Int32), oI (15 : Int32), oA w_COUNT_WAITING] X77 hx hby d2_17 rfl rfl rfl ?_
  refine own_aload 21 X77 hx hby d2_19 rfl rfl rfl ?_
  refine own_getF 24 X77 hx hby hZ hown (own_w hw 11 rfl) e77 (W.2.2.2.2.2.2.2.2.2.2.2.2.2.2.2.2.2.2.2.2.2.2.2.2.2.2.2.2.2.2.2.2.2.2.2.2.2.2.2.2.2.2.2.2.2.2.2.2.2.2.2.2.2.2.2.2.2.2.2.2.1.ext O0.2) d2_21 rfl ?_
  intro T79 X79 e79
  refine own_iload_n 25 X79 hx hby d2_24 rfl rfl ?_
  refine own_icY 31 X79 hx hby d2_25 (by decide) (by decide) (feq hc80).2 ?_
  refine own_iinc 34 #[oI x0, oA w_ALL, oI (22 : Int32), oI (16 : Int32), oA w_COUNT_WAITING] X79 hx hby d2_31 rfl rfl rfl ?_
  refine own_goto 9 X79 hx hby d2_34 (by decide) (by decide) ?_
  refine own_iload_n 10 X79 hx hby d2_9 rfl rfl ?_
  refine own_iload_n 11 X79 hx hby d2_10 rfl rfl ?_
  refine own_icN 14 X79 hx hby d2_11 rfl (by decide) ?_
  refine own_aload_n 15 X79 hx hby d2_14 rfl rfl rfl ?_
  refine own_iload_n 16 X79 hx hby d2_15 rfl rfl ?_
  refine own_aaload 17 (.ref w_CLOSING) X79 hx hby hZ e79 (W.2.2.2.2.2.2.2.2.2.2.2.2.2.2.2.2.2.2.2.2.2.2.2.2.2.2.2.2.2.2.2.2.2.2.2.2.2.2.2.2.2.2.2.2.2.2.2.2.2.2.2.2.2.2.2.2.2.2.2.2.2.2.2.2.2.2.2.ext O0.2) rfl d2_16 rfl (by decide) rfl ?_
  refine own_astore 19 #[oI x0, oA w_ALL, oI (22 : Int32), oI (16 : Int32), oA w_CLOSING] X79 hx hby d2_17 rfl rfl rfl ?_
  refine own_aload 21 X79 hx hby d2_19 rfl rfl rfl ?_
  refine own_getF 24 X79 hx hby hZ hown (own_w hw 11 rfl) e79 (W.2.2.2.2.2.2.2.2.2.2.2.2.2.2.2.2.2.2.2.2.2.2.2.2.2.2.2.2.2.2.2.2.2.2.2.2.2.2.2.2.2.2.2.2.2.2.2.2.2.2.2.2.2.2.2.2.2.2.2.2.2.1.ext O0.2) d2_21 rfl ?_
  intro T81 X81 e81
  refine own_iload_n 25 X81 hx hby d2_24 rfl rfl ?_
  refine own_icY 31 X81 hx hby d2_25 (by decide) (by decide) (feq hc82).2 ?_
  refine own_iinc 34 #[oI x0, oA w_ALL, oI (22 : Int32), oI (17 : Int32), oA w_CLOSING] X81 hx hby d2_31 rfl rfl rfl ?_
  refine own_goto 9 X81 hx hby d2_34 (by decide) (by decide) ?_
  refine own_iload_n 10 X81 hx hby d2_9 rfl rfl ?_
  refine own_iload_n 11 X81 hx hby d2_10 rfl rfl ?_
  refine own_icN 14 X81 hx hby d2_11 rfl (by decide) ?_
  refine own_aload_n 15 X81 hx hby d2_14 rfl rfl rfl ?_
  refine own_iload_n 16 X81 hx hby d2_15 rfl rfl ?_
  refine own_aaload 17 (.ref w_UNHELD) X81 hx hby hZ e81 (W.2.2.2.2.2.2.2.2.2.2.2.2.2.2.2.2.2.2.2.2.2.2.2.2.2.2.2.2.2.2.2.2.2.2.2.2.2.2.2.2.2.2.2.2.2.2.2.2.2.2.2.2.2.2.2.2.2.2.2.2.2.2.2.2.2.2.2.ext O0.2) rfl d2_16 rfl (by decide) rfl ?_
  refine own_astore 19 #[oI x0, oA w_ALL, oI (22 : Int32), oI (17 : Int32), oA w_UNHELD] X81 hx hby d2_17 rfl rfl rfl ?_
  refine own_aload 21 X81 hx hby d2_19 rfl rfl rfl ?_
  refine own_getF 24 X81 hx hby hZ hown (own_w hw 11 rfl) e81 (W.2.2.2.2.2.2.2.2.2.2.2.2.2.2.2.2.2.2.2.2.2.2.2.2.2.2.2.2.2.2.2.2.2.2.2.2.2.2.2.2.2.2.2.2.2.2.2.2.2.2.2.2.2.2.2.2.2.2.2.2.2.2.1.ext O0.2) d2_21 rfl ?_
  intro T83 X83 e83
  refine own_iload_n 25 X83 hx hby d2_24 rfl rfl ?_
  refine own_icN 28 X83 hx hby d2_25 rfl (teq hc84).2 ?_
  refine own_aload 30 X83 hx hby d2_28 rfl rfl rfl ?_
  exact own_ret (Q := own_Q _ n0 h0) X83 hx hby hret hlk d2_30 rfl (Or.inr (Or.inr (Or.inr (Or.inr ⟨rfl, rfl, rfl⟩)))) (by decide) (by decide) ⟨rfl, N0, e83⟩
set_option maxRecDepth 65536 in
set_option maxHeartbeats 40000000 in
theorem rm2_19 (l : Launch) (Z : State) (a0 : Array Value) (hw : ∀ d ∈ tables_1, d.before a0 Z = true) (ws : List Jvm.Cond) (w_HELLO w_ADD_SERVICE w_GET_SERVICE w_LIST_SERVICES w_TRANSLATE w_RESOLVE w_RELEASE w_STATUS w_WAITING w_WATCH w_ACQUIRE w_RETIRE w_RESULT w_FAILURE w_DEAD w_COUNT_WAITING w_CLOSING w_UNHELD w_OPEN w_TRANSACTION w_REPLY w_KNOCK w_ALL k_ALL : Addr) (W : own_W Z w_HELLO w_ADD_SERVICE w_GET_SERVICE w_LIST_SERVICES w_TRANSLATE w_RESOLVE w_RELEASE w_STATUS w_WAITING w_WATCH w_ACQUIRE w_RETIRE w_RESULT w_FAILURE w_DEAD w_COUNT_WAITING w_CLOSING w_UNHELD w_OPEN w_TRANSACTION w_REPLY w_KNOCK w_ALL k_ALL) (x0 : Int32) (h0 : Heap) (n0 : Nat) (O0 : Old Z n0 h0) (hc50 : ¬ ((1 : Int32) = x0)) (hc52 : ¬ ((2 : Int32) = x0)) (hc54 : ¬ ((3 : Int32) = x0)) (hc56 : ¬ ((4 : Int32) = x0)) (hc58 : ¬ ((5 : Int32) = x0)) (hc60 : ¬ ((6 : Int32) = x0)) (hc62 : ¬ ((7 : Int32) = x0)) (hc64 : ¬ ((8 : Int32) = x0)) (hc66 : ¬ ((9 : Int32) = x0)) (hc68 : ¬ ((10 : Int32) = x0)) (hc70 : ¬ ((11 : Int32) = x0)) (hc72 : ¬ ((12 : Int32) = x0)) (hc74 : ¬ ((16 : Int32) = x0)) (hc76 : ¬ ((17 : Int32) = x0)) (hc78 : ¬ ((18 : Int32) = x0)) (hc80 : ¬ ((19 : Int32) = x0)) (hc82 : ¬ ((20 : Int32) = x0)) (hc84 : ¬ ((21 : Int32) = x0)) (hc86 : (32 : Int32) = x0) :
    MetFree l (⟨"com/example/hop1/hop1/protocol/FrameKind", "of", "(I)Lcom/example/hop1/hop1/protocol/FrameKind;"⟩ : MethodName) (head1 (Jvm.Cond.code (⟨"com/example/hop1/hop1/protocol/FrameKind", "of", "(I)Lcom/example/hop1/hop1/protocol/FrameKind;"⟩ : MethodName) prog_113_method_5_code 5 (some (.object "com/example/hop1/hop1/protocol/FrameKind")) :: ws) ({ frames := 0, cells := 0, slots := 0, locals := 0 } : Room)) (fun a U => a = #[(.int x0)] ∧ Z.Warmed39 U.vm ∧ U.heap = h0) (fun _ _ _ _ _ => True) (fun _ U o U' => ∃ v L, o = .returned v ∧ own_Q (some (.ref w_OPEN)) n0 h0 v U'.heap L ∧ FrameEnd U o U' L ({ frames := 0, cells := 0, slots := 0, locals := 0 } : Room).cells ({ frames := 0, cells := 0, slots := 0, locals := 0 } : Room).slots) := by
  refine MetFree.of_bodySF (plainFor_of_name pn_1) hisR ?_
  intro p e s m args below meth c s₁ Bd hml0 hP hK
  obtain ⟨rfl, hZ, hh⟩ := hP
  have hx := Bd.exec
  have hby := Bd.bytes
  have hml : c.maxLocals = 5 := hml0
  have hlk := BodyLoose.notSynchronized Bd
  have hret := Bd.returns
  have hown : s.vm.findClass "com/example/hop1/hop1/protocol/FrameKind" = some m.cls := findClass_of_methodNamed Bd.named
  have hnm := (name_of_methodNamed Bd.named Bd.method).1
  have X0 : Stand p l e ({ frames := 0, cells := 0, slots := 0, locals := 0 } : Room) s m #[(.int x0)] below meth c s₁ [] 0 0 := Stand.of_body Bd
  have e0 : s₁.heap = h0 := by rw [← hh, Bd.state]; rfl
  have N0 := Fr.nil n0
  rw [ef_2 m x0]
  show Go p e below _ (s₁.setTop (mkF m 0 #[oI x0, oU, oU, oU, oU] []))
  refine own_getS 3 X0 hx hby hZ hown (own_w hw 8 rfl) e0 (W.2.2.2.2.2.2.2.2.2.2.2.2.2.2.2.2.2.2.2.2.2.2.2.2.2.2.2.2.2.2.2.2.2.2.2.2.2.2.2.2.2.2.2.2.1.ext O0.2) d2_0 rfl ?_
  intro T48 X48 e48
  refine own_astore_n 4 #[oI x0, oA w_ALL, oU, oU, oU] X48 hx hby d2_3 rfl rfl rfl ?_
  refine own_aload_n 5 X48 hx hby d2_4 rfl rfl rfl ?_
  refine own_len 6 X48 hx hby hZ e48 (W.2.2.2.2.2.2.2.2.2.2.2.2.2.2.2.2.2.2.2.2.2.2.2.2.2.2.2.2.2.2.2.2.2.2.2.2.2.2.2.2.2.2.2.2.2.2.2.2.2.2.2.2.2.2.2.2.2.2.2.2.2.2.2.2.2.2.2.ext O0.2) d2_5 rfl ?_
  refine own_istore_n 7 #[oI x0, oA w_ALL, oI (22 : Int32), oU, oU] X48 hx hby d2_6 rfl rfl ?_
  refine own_iconst 8 (0 : Int32) X48 hx hby d2_7 rfl (by decide) ?_
  refine own_istore_n 9 #[oI x0, oA w_ALL, oI (22 : Int32), oI (0 : Int32), oU] X48 hx hby d2_8 rfl rfl ?_
  refine own_iload_n 10 X48 hx hby d2_9 rfl rfl ?_
  refine own_iload_n 11 X48 hx hby d2_10 rfl rfl ?_
  refine own_icN 14 X48 hx hby d2_11 rfl (by decide) ?_
  refine own_aload_n 15 X48 hx hby d2_14 rfl rfl rfl ?_
  refine own_iload_n 16 X48 hx hby d2_15 rfl rfl ?_
  refine own_aaload 17 (.ref w_HELLO) X48 hx hby hZ e48 (W.2.2.2.2.2.2.2.2.2.2.2.2.2.2.2.2.2.2.2.2.2.2.2.2.2.2.2.2.2.2.2.2.2.2.2.2.2.2.2.2.2.2.2.2.2.2.2.2.2.2.2.2.2.2.2.2.2.2.2.2.2.2.2.2.2.2.2.ext O0.2) rfl d2_16 rfl (by decide) rfl ?_
  refine own_astore 19 #[oI x0, oA w_ALL, oI (22 : Int32), oI (0 : Int32), oA w_HELLO] X48 hx hby d2_17 rfl rfl rfl ?_
  refine own_aload 21 X48 hx hby d2_19 rfl rfl rfl ?_
  refine own_getF 24 X48 hx hby hZ hown (own_w hw 11 rfl) e48 (W.2.2.2.2.2.2.2.2.2.2.2.2.2.2.2.2.2.2.2.2.2.2.2.2.2.2.2.2.2.2.2.2.2.2.2.2.2.2.2.2.2.2.2.2.2.1.ext O0.2) d2_21 rfl ?_
  intro T49 X49 e49
  refine own_iload_n 25 X49 hx hby d2_24 rfl rfl ?_
  refine own_icY 31 X49 hx hby d2_25 (by decide) (by decide) (feq hc50).2 ?_
  refine own_iinc 34 #[oI x0, oA w_ALL, oI (22 : Int32), oI (1 : Int32), oA w_HELLO] X49 hx hby d2_31 rfl rfl rfl ?_
  refine own_goto 9 X49 hx hby d2_34 (by decide) (by decide) ?_
  refine own_iload_n 10 X49 hx hby d2_9 rfl rfl ?_
  refine own_iload_n 11 X49 hx hby d2_10 rfl rfl ?_
  refine own_icN 14 X49 hx hby d2_11 rfl (by decide) ?_
  refine own_aload_n 15 X49 hx hby d2_14 rfl rfl rfl ?_
  refine own_iload_n 16 X49 hx hby d2_15 rfl rfl ?_
  refine own_aaload 17 (.ref w_ADD_SERVICE) X49 hx hby hZ e49 (W.2.2.2.2.2.2.2.2.2.2.2.2.2.2.2.2.2.2.2.2.2.2.2.2.2.2.2.2.2.2.2.2.2.2.2.2.2.2.2.2.2.2.2.2.2.2.2.2.2.2.2.2.2.2.2.2.2.2.2.2.2.2.2.2.2.2.2.ext O0.2) rfl d2_16 rfl (by decide) rfl ?_
  refine own_astore 19 #[oI x0, oA w_ALL, oI (22 : Int32), oI (1 : Int32), oA w_ADD_SERVICE] X49 hx hby d2_17 rfl rfl rfl ?_
  refine own_aload 21 X49 hx hby d2_19 rfl rfl rfl ?_
  refine own_getF 24 X49 hx hby hZ hown (own_w hw 11 rfl) e49 (W.2.2.2.2.2.2.2.2.2.2.2.2.2.2.2.2.2.2.2.2.2.2.2.2.2.2.2.2.2.2.2.2.2.2.2.2.2.2.2.2.2.2.2.2.2.2.1.ext O0.2) d2_21 rfl ?_
  intro T51 X51 e51
  refine own_iload_n 25 X51 hx hby d2_24 rfl rfl ?_
  refine own_icY 31 X51 hx hby d2_25 (by decide) (by decide) (feq hc52).2 ?_
  refine own_iinc 34 #[oI x0, oA w_ALL, oI (22 : Int32), oI (2 : Int32), oA w_ADD_SERVICE] X51 hx hby d2_31 rfl rfl rfl ?_
  refine own_goto 9 X51 hx hby d2_34 (by decide) (by decide) ?_
  refine own_iload_n 10 X51 hx hby d2_9 rfl rfl ?_
  refine own_iload_n 11 X51 hx hby d2_10 rfl rfl ?_
  refine own_icN 14 X51 hx hby d2_11 rfl (by decide) ?_
  refine own_aload_n 15 X51 hx hby d2_14 rfl rfl rfl ?_
  refine own_iload_n 16 X51 hx hby d2_15 rfl rfl ?_
  refine own_aaload 17 (.ref w_GET_SERVICE) X51 hx hby hZ e51 (W.2.2.2.2.2.2.2.2.2.2.2.2.2.2.2.2.2.2.2.2.2.2.2.2.2.2.2.2.2.2.2.2.2.2.2.2.2.2.2.2.2.2.2.2.2.2.2.2.2.2.2.2.2.2.2.2.2.2.2.2.2.2.2.2.2.2.2.ext O0.2) rfl d2_16 rfl (by decide) rfl ?_
  refine own_astore 19 #[oI x0, oA w_ALL, oI (22 : Int32), oI (2 : Int32), oA w_GET_SERVICE] X51 hx hby d2_17 rfl rfl rfl ?_
  refine own_aload 21 X51 hx hby d2_19 rfl rfl rfl ?_
  refine own_getF 24 X51 hx hby hZ hown (own_w hw 11 rfl) e51 (W.2.2.2.2.2.2.2.2.2.2.2.2.2.2.2.2.2.2.2.2.2.2.2.2.2.2.2.2.2.2.2.2.2.2.2.2.2.2.2.2.2.2.2.2.2.2.2.1.ext O0.2) d2_21 rfl ?_
  intro T53 X53 e53
  refine own_iload_n 25 X53 hx hby d2_24 rfl rfl ?_
  refine own_icY 31 X53 hx hby d2_25 (by decide) (by decide) (feq hc54).2 ?_
  refine own_iinc 34 #[oI x0, oA w_ALL, oI (22 : Int32), oI (3 : Int32), oA w_GET_SERVICE] X53 hx hby d2_31 rfl rfl rfl ?_
  refine own_goto 9 X53 hx hby d2_34 (by decide) (by decide) ?_
  refine own_iload_n 10 X53 hx hby d2_9 rfl rfl ?_
  refine own_iload_n 11 X53 hx hby d2_10 rfl rfl ?_
  refine own_icN 14 X53 hx hby d2_11 rfl (by decide) ?_
  refine own_aload_n 15 X53 hx hby d2_14 rfl rfl rfl ?_
  refine own_iload_n 16 X53 hx hby d2_15 rfl rfl ?_
  refine own_aaload 17 (.ref w_LIST_SERVICES) X53 hx hby hZ e53 (W.2.2.2.2.2.2.2.2.2.2.2.2.2.2.2.2.2.2.2.2.2.2.2.2.2.2.2.2.2.2.2.2.2.2.2.2.2.2.2.2.2.2.2.2.2.2.2.2.2.2.2.2.2.2.2.2.2.2.2.2.2.2.2.2.2.2.2.ext O0.2) rfl d2_16 rfl (by decide) rfl ?_
  refine own_astore 19 #[oI x0, oA w_ALL, oI (22 : Int32), oI (3 : Int32), oA w_LIST_SERVICES] X53 hx hby d2_17 rfl rfl rfl ?_
  refine own_aload 21 X53 hx hby d2_19 rfl rfl rfl ?_
  refine own_getF 24 X53 hx hby hZ hown (own_w hw 11 rfl) e53 (W.2.2.2.2.2.2.2.2.2.2.2.2.2.2.2.2.2.2.2.2.2.2.2.2.2.2.2.2.2.2.2.2.2.2.2.2.2.2.2.2.2.2.2.2.2.2.2.2.1.ext O0.2) d2_21 rfl ?_
  intro T55 X55 e55
  refine own_iload_n 25 X55 hx hby d2_24 rfl rfl ?_
  refine own_icY 31 X55 hx hby d2_25 (by decide) (by decide) (feq hc56).2 ?_
  refine own_iinc 34 #[oI x0, oA w_ALL, oI (22 : Int32), oI (4 : Int32), oA w_LIST_SERVICES] X55 hx hby d2_31 rfl rfl rfl ?_
  refine own_goto 9 X55 hx hby d2_34 (by decide) (by decide) ?_
  refine own_iload_n 10 X55 hx hby d2_9 rfl rfl ?_
  refine own_iload_n 11 X55 hx hby d2_10 rfl rfl ?_
  refine own_icN 14 X55 hx hby d2_11 rfl (by decide) ?_
  refine own_aload_n 15 X55 hx hby d2_14 rfl rfl rfl ?_
  refine own_iload_n 16 X55 hx hby d2_15 rfl rfl ?_
  refine own_aaload 17 (.ref w_TRANSLATE) X55 hx hby hZ e55 (W.2.2.2.2.2.2.2.2.2.2.2.2.2.2.2.2.2.2.2.2.2.2.2.2.2.2.2.2.2.2.2.2.2.2.2.2.2.2.2.2.2.2.2.2.2.2.2.2.2.2.2.2.2.2.2.2.2.2.2.2.2.2.2.2.2.2.2.ext O0.2) rfl d2_16 rfl (by decide) rfl ?_
  refine own_astore 19 #[oI x0, oA w_ALL, oI (22 : Int32), oI (4 : Int32), oA w_TRANSLATE] X55 hx hby d2_17 rfl rfl rfl ?_
  refine own_aload 21 X55 hx hby d2_19 rfl rfl rfl ?_
  refine own_getF 24 X55 hx hby hZ hown (own_w hw 11 rfl) e55 (W.2.2.2.2.2.2.2.2.2.2.2.2.2.2.2.2.2.2.2.2.2.2.2.2.2.2.2.2.2.2.2.2.2.2.2.2.2.2.2.2.2.2.2.2.2.2.2.2.2.1.ext O0.2) d2_21 rfl ?_
  intro T57 X57 e57
  refine own_iload_n 25 X57 hx hby d2_24 rfl rfl ?_
  refine own_icY 31 X57 hx hby d2_25 (by decide) (by decide) (feq hc58).2 ?_
  refine own_iinc 34 #[oI x0, oA w_ALL, oI (22 : Int32), oI (5 : Int32), oA w_TRANSLATE] X57 hx hby d2_31 rfl rfl rfl ?_
  refine own_goto 9 X57 hx hby d2_34 (by decide) (by decide) ?_
  refine own_iload_n 10 X57 hx hby d2_9 rfl rfl ?_
  refine own_iload_n 11 X57 hx hby d2_10 rfl rfl ?_
  refine own_icN 14 X57 hx hby d2_11 rfl (by decide) ?_
  refine own_aload_n 15 X57 hx hby d2_14 rfl rfl rfl ?_
  refine own_iload_n 16 X57 hx hby d2_15 rfl rfl ?_
  refine own_aaload 17 (.ref w_RESOLVE) X57 hx hby hZ e57 (W.2.2.2.2.2.2.2.2.2.2.2.2.2.2.2.2.2.2.2.2.2.2.2.2.2.2.2.2.2.2.2.2.2.2.2.2.2.2.2.2.2.2.2.2.2.2.2.2.2.2.2.2.2.2.2.2.2.2.2.2.2.2.2.2.2.2.2.ext O0.2) rfl d2_16 rfl (by decide) rfl ?_
  refine own_astore 19 #[oI x0, oA w_ALL, oI (22 : Int32), oI (5 : Int32), oA w_RESOLVE] X57 hx hby d2_17 rfl rfl rfl ?_
  refine own_aload 21 X57 hx hby d2_19 rfl rfl rfl ?_
  refine own_getF 24 X57 hx hby hZ hown (own_w hw 11 rfl) e57 (W.2.2.2.2.2.2.2.2.2.2.2.2.2.2.2.2.2.2.2.2.2.2.2.2.2.2.2.2.2.2.2.2.2.2.2.2.2.2.2.2.2.2.2.2.2.2.2.2.2.2.1.ext O0.2) d2_21 rfl ?_
  intro T59 X59 e59
  refine own_iload_n 25 X59 hx hby d2_24 rfl rfl ?_
  refine own_icY 31 X59 hx hby d2_25 (by decide) (by decide) (feq hc60).2 ?_
  refine own_iinc 34 #[oI x0, oA w_ALL, oI (22 : Int32), oI (6 : Int32), oA w_RESOLVE] X59 hx hby d2_31 rfl rfl rfl ?_
  refine own_goto 9 X59 hx hby d2_34 (by decide) (by decide) ?_
  refine own_iload_n 10 X59 hx hby d2_9 rfl rfl ?_
  refine own_iload_n 11 X59 hx hby d2_10 rfl rfl ?_
  refine own_icN 14 X59 hx hby d2_11 rfl (by decide) ?_
  refine own_aload_n 15 X59 hx hby d2_14 rfl rfl rfl ?_
  refine own_iload_n 16 X59 hx hby d2_15 rfl rfl ?_
  refine own_aaload 17 (.ref w_RELEASE) X59 hx hby hZ e59 (W.2.2.2.2.2.2.2.2.2.2.2.2.2.2.2.2.2.2.2.2.2.2.2.2.2.2.2.2.2.2.2.2.2.2.2.2.2.2.2.2.2.2.2.2.2.2.2.2.2.2.2.2.2.2.2.2.2.2.2.2.2.2.2.2.2.2.2.ext O0.2) rfl d2_16 rfl (by decide) rfl ?_
  refine own_astore 19 #[oI x0, oA w_ALL, oI (22 : Int32), oI (6 : Int32), oA w_RELEASE] X59 hx hby d2_17 rfl rfl rfl ?_
  refine own_aload 21 X59 hx hby d2_19 rfl rfl rfl ?_
  refine own_getF 24 X59 hx hby hZ hown (own_w hw 11 rfl) e59 (W.2.2.2.2.2.2.2.2.2.2.2.2.2.2.2.2.2.2.2.2.2.2.2.2.2.2.2.2.2.2.2.2.2.2.2.2.2.2.2.2.2.2.2.2.2.2.2.2.2.2.2.1.ext O0.2) d2_21 rfl ?_
  intro T61 X61 e61
  refine own_iload_n 25 X61 hx hby d2_24 rfl rfl ?_
  refine own_icY 31 X61 hx hby d2_25 (by decide) (by decide) (feq hc62).2 ?_
  refine own_iinc 34 #[oI x0, oA w_ALL, oI (22 : Int32), oI (7 : Int32), oA w_RELEASE] X61 hx hby d2_31 rfl rfl rfl ?_
  refine own_goto 9 X61 hx hby d2_34 (by decide) (by decide) ?_
  refine own_iload_n 10 X61 hx hby d2_9 rfl rfl ?_
  refine own_iload_n 11 X61 hx hby d2_10 rfl rfl ?_
  refine own_icN 14 X61 hx hby d2_11 rfl (by decide) ?_
  refine own_aload_n 15 X61 hx hby d2_14 rfl rfl rfl ?_
  refine own_iload_n 16 X61 hx hby d2_15 rfl rfl ?_
  refine own_aaload 17 (.ref w_STATUS) X61 hx hby hZ e61 (W.2.2.2.2.2.2.2.2.2.2.2.2.2.2.2.2.2.2.2.2.2.2.2.2.2.2.2.2.2.2.2.2.2.2.2.2.2.2.2.2.2.2.2.2.2.2.2.2.2.2.2.2.2.2.2.2.2.2.2.2.2.2.2.2.2.2.2.ext O0.2) rfl d2_16 rfl (by decide) rfl ?_
  refine own_astore 19 #[oI x0, oA w_ALL, oI (22 : Int32), oI (7 : Int32), oA w_STATUS] X61 hx hby d2_17 rfl rfl rfl ?_
  refine own_aload 21 X61 hx hby d2_19 rfl rfl rfl ?_
  refine own_getF 24 X61 hx hby hZ hown (own_w hw 11 rfl) e61 (W.2.2.2.2.2.2.2.2.2.2.2.2.2.2.2.2.2.2.2.2.2.2.2.2.2.2.2.2.2.2.2.2.2.2.2.2.2.2.2.2.2.2.2.2.2.2.2.2.2.2.2.2.1.ext O0.2) d2_21 rfl ?_
  intro T63 X63 e63
  refine own_iload_n 25 X63 hx hby d2_24 rfl rfl ?_
  refine own_icY 31 X63 hx hby d2_25 (by decide) (by decide) (feq hc64).2 ?_
  refine own_iinc 34 #[oI x0, oA w_ALL, oI (22 : Int32), oI (8 : Int32), oA w_STATUS] X63 hx hby d2_31 rfl rfl rfl ?_
  refine own_goto 9 X63 hx hby d2_34 (by decide) (by decide) ?_
  refine own_iload_n 10 X63 hx hby d2_9 rfl rfl ?_
  refine own_iload_n 11 X63 hx hby d2_10 rfl rfl ?_
  refine own_icN 14 X63 hx hby d2_11 rfl (by decide) ?_
  refine own_aload_n 15 X63 hx hby d2_14 rfl rfl rfl ?_
  refine own_iload_n 16 X63 hx hby d2_15 rfl rfl ?_
  refine own_aaload 17 (.ref w_WAITING) X63 hx hby hZ e63 (W.2.2.2.2.2.2.2.2.2.2.2.2.2.2.2.2.2.2.2.2.2.2.2.2.2.2.2.2.2.2.2.2.2.2.2.2.2.2.2.2.2.2.2.2.2.2.2.2.2.2.2.2.2.2.2.2.2.2.2.2.2.2.2.2.2.2.2.ext O0.2) rfl d2_16 rfl (by decide) rfl ?_
  refine own_astore 19 #[oI x0, oA w_ALL, oI (22 : Int32), oI (8 : Int32), oA w_WAITING] X63 hx hby d2_17 rfl rfl rfl ?_
  refine own_aload 21 X63 hx hby d2_19 rfl rfl rfl ?_
  refine own_getF 24 X63 hx hby hZ hown (own_w hw 11 rfl) e63 (W.2.2.2.2.2.2.2.2.2.2.2.2.2.2.2.2.2.2.2.2.2.2.2.2.2.2.2.2.2.2.2.2.2.2.2.2.2.2.2.2.2.2.2.2.2.2.2.2.2.2.2.2.2.1.ext O0.2) d2_21 rfl ?_
  intro T65 X65 e65
  refine own_iload_n 25 X65 hx hby d2_24 rfl rfl ?_
  refine own_icY 31 X65 hx hby d2_25 (by decide) (by decide) (feq hc66).2 ?_
  refine own_iinc 34 #[oI x0, oA w_ALL, oI (22 : Int32), oI (9 : Int32), oA w_WAITING] X65 hx hby d2_31 rfl rfl rfl ?_
  refine own_goto 9 X65 hx hby d2_34 (by decide) (by decide) ?_
  refine own_iload_n 10 X65 hx hby d2_9 rfl rfl ?_
  refine own_iload_n 11 X65 hx hby d2_10 rfl rfl ?_
  refine own_icN 14 X65 hx hby d2_11 rfl (by decide) ?_
  refine own_aload_n 15 X65 hx hby d2_14 rfl rfl rfl ?_
  refine own_iload_n 16 X65 hx hby d2_15 rfl rfl ?_
  refine own_aaload 17 (.ref w_WATCH) X65 hx hby hZ e65 (W.2.2.2.2.2.2.2.2.2.2.2.2.2.2.2.2.2.2.2.2.2.2.2.2.2.2.2.2.2.2.2.2.2.2.2.2.2.2.2.2.2.2.2.2.2.2.2.2.2.2.2.2.2.2.2.2.2.2.2.2.2.2.2.2.2.2.2.ext O0.2) rfl d2_16 rfl (by decide) rfl ?_
  refine own_astore 19 #[oI x0, oA w_ALL, oI (22 : Int32), oI (9 : Int32), oA w_WATCH] X65 hx hby d2_17 rfl rfl rfl ?_
  refine own_aload 21 X65 hx hby d2_19 rfl rfl rfl ?_
  refine own_getF 24 X65 hx hby hZ hown (own_w hw 11 rfl) e65 (W.2.2.2.2.2.2.2.2.2.2.2.2.2.2.2.2.2.2.2.2.2.2.2.2.2.2.2.2.2.2.2.2.2.2.2.2.2.2.2.2.2.2.2.2.2.2.2.2.2.2.2.2.2.2.1.ext O0.2) d2_21 rfl ?_
  intro T67 X67 e67
  refine own_iload_n 25 X67 hx hby d2_24 rfl rfl ?_
  refine own_icY 31 X67 hx hby d2_25 (by decide) (by decide) (feq hc68).2 ?_
  refine own_iinc 34 #[oI x0, oA w_ALL, oI (22 : Int32), oI (10 : Int32), oA w_WATCH] X67 hx hby d2_31 rfl rfl rfl ?_
  refine own_goto 9 X67 hx hby d2_34 (by decide) (by decide) ?_
  refine own_iload_n 10 X67 hx hby d2_9 rfl rfl ?_
  refine own_iload_n 11 X67 hx hby d2_10 rfl rfl ?_
  refine own_icN 14 X67 hx hby d2_11 rfl (by decide) ?_
  refine own_aload_n 15 X67 hx hby d2_14 rfl rfl rfl ?_
  refine own_iload_n 16 X67 hx hby d2_15 rfl rfl ?_
  refine own_aaload 17 (.ref w_ACQUIRE) X67 hx hby hZ e67 (W.2.2.2.2.2.2.2.2.2.2.2.2.2.2.2.2.2.2.2.2.2.2.2.2.2.2.2.2.2.2.2.2.2.2.2.2.2.2.2.2.2.2.2.2.2.2.2.2.2.2.2.2.2.2.2.2.2.2.2.2.2.2.2.2.2.2.2.ext O0.2) rfl d2_16 rfl (by decide) rfl ?_
  refine own_astore 19 #[oI x0, oA w_ALL, oI (22 : Int32), oI (10 : Int32), oA w_ACQUIRE] X67 hx hby d2_17 rfl rfl rfl ?_
  refine own_aload 21 X67 hx hby d2_19 rfl rfl rfl ?_
  refine own_getF 24 X67 hx hby hZ hown (own_w hw 11 rfl) e67 (W.2.2.2.2.2.2.2.2.2.2.2.2.2.2.2.2.2.2.2.2.2.2.2.2.2.2.2.2.2.2.2.2.2.2.2.2.2.2.2.2.2.2.2.2.2.2.2.2.2.2.2.2.2.2.2.1.ext O0.2) d2_21 rfl ?_
  intro T69 X69 e69
  refine own_iload_n 25 X69 hx hby d2_24 rfl rfl ?_
  refine own_icY 31 X69 hx hby d2_25 (by decide) (by decide) (feq hc70).2 ?_
  refine own_iinc 34 #[oI x0, oA w_ALL, oI (22 : Int32), oI (11 : Int32), oA w_ACQUIRE] X69 hx hby d2_31 rfl rfl rfl ?_
  refine own_goto 9 X69 hx hby d2_34 (by decide) (by decide) ?_
  refine own_iload_n 10 X69 hx hby d2_9 rfl rfl ?_
  refine own_iload_n 11 X69 hx hby d2_10 rfl rfl ?_
  refine own_icN 14 X69 hx hby d2_11 rfl (by decide) ?_
  refine own_aload_n 15 X69 hx hby d2_14 rfl rfl rfl ?_
  refine own_iload_n 16 X69 hx hby d2_15 rfl rfl ?_
  refine own_aaload 17 (.ref w_RETIRE) X69 hx hby hZ e69 (W.2.2.2.2.2.2.2.2.2.2.2.2.2.2.2.2.2.2.2.2.2.2.2.2.2.2.2.2.2.2.2.2.2.2.2.2.2.2.2.2.2.2.2.2.2.2.2.2.2.2.2.2.2.2.2.2.2.2.2.2.2.2.2.2.2.2.2.ext O0.2) rfl d2_16 rfl (by decide) rfl ?_
  refine own_astore 19 #[oI x0, oA w_ALL, oI (22 : Int32), oI (11 : Int32), oA w_RETIRE] X69 hx hby d2_17 rfl rfl rfl ?_
  refine own_aload 21 X69 hx hby d2_19 rfl rfl rfl ?_
  refine own_getF 24 X69 hx hby hZ hown (own_w hw 11 rfl) e69 (W.2.2.2.2.2.2.2.2.2.2.2.2.2.2.2.2.2.2.2.2.2.2.2.2.2.2.2.2.2.2.2.2.2.2.2.2.2.2.2.2.2.2.2.2.2.2.2.2.2.2.2.2.2.2.2.2.1.ext O0.2) d2_21 rfl ?_
  intro T71 X71 e71
  refine own_iload_n 25 X71 hx hby d2_24 rfl rfl ?_
  refine own_icY 31 X71 hx hby d2_25 (by decide) (by decide) (feq hc72).2 ?_
  refine own_iinc 34 #[oI x0, oA w_ALL, oI (22 : Int32), oI (12 : Int32), oA w_RETIRE] X71 hx hby d2_31 rfl rfl rfl ?_
  refine own_goto 9 X71 hx hby d2_34 (by decide) (by decide) ?_
  refine own_iload_n 10 X71 hx hby d2_9 rfl rfl ?_
  refine own_iload_n 11 X71 hx hby d2_10 rfl rfl ?_
  refine own_icN 14 X71 hx hby d2_11 rfl (by decide) ?_
  refine own_aload_n 15 X71 hx hby d2_14 rfl rfl rfl ?_
  refine own_iload_n 16 X71 hx hby d2_15 rfl rfl ?_
  refine own_aaload 17 (.ref w_RESULT) X71 hx hby hZ e71 (W.2.2.2.2.2.2.2.2.2.2.2.2.2.2.2.2.2.2.2.2.2.2.2.2.2.2.2.2.2.2.2.2.2.2.2.2.2.2.2.2.2.2.2.2.2.2.2.2.2.2.2.2.2.2.2.2.2.2.2.2.2.2.2.2.2.2.2.ext O0.2) rfl d2_16 rfl (by decide) rfl ?_
  refine own_astore 19 #[oI x0, oA w_ALL, oI (22 : Int32), oI (12 : Int32), oA w_RESULT] X71 hx hby d2_17 rfl rfl rfl ?_
  refine own_aload 21 X71 hx hby d2_19 rfl rfl rfl ?_
  refine own_getF 24 X71 hx hby hZ hown (own_w hw 11 rfl) e71 (W.2.2.2.2.2.2.2.2.2.2.2.2.2.2.2.2.2.2.2.2.2.2.2.2.2.2.2.2.2.2.2.2.2.2.2.2.2.2.2.2.2.2.2.2.2.2.2.2.2.2.2.2.2.2.2.2.2.1.ext O0.2) d2_21 rfl ?_
  intro T73 X73 e73
  refine own_iload_n 25 X73 hx hby d2_24 rfl rfl ?_
  refine own_icY 31 X73 hx hby d2_25 (by decide) (by decide) (feq hc74).2 ?_
  refine own_iinc 34 #[oI x0, oA w_ALL, oI (22 : Int32), oI (13 : Int32), oA w_RESULT] X73 hx hby d2_31 rfl rfl rfl ?_
  refine own_goto 9 X73 hx hby d2_34 (by decide) (by decide) ?_
  refine own_iload_n 10 X73 hx hby d2_9 rfl rfl ?_
  refine own_iload_n 11 X73 hx hby d2_10 rfl rfl ?_
  refine own_icN 14 X73 hx hby d2_11 rfl (by decide) ?_
  refine own_aload_n 15 X73 hx hby d2_14 rfl rfl rfl ?_
  refine own_iload_n 16 X73 hx hby d2_15 rfl rfl ?_
  refine own_aaload 17 (.ref w_FAILURE) X73 hx hby hZ e73 (W.2.2.2.2.2.2.2.2.2.2.2.2.2.2.2.2.2.2.2.2.2.2.2.2.2.2.2.2.2.2.2.2.2.2.2.2.2.2.2.2.2.2.2.2.2.2.2.2.2.2.2.2.2.2.2.2.2.2.2.2.2.2.2.2.2.2.2.ext O0.2) rfl d2_16 rfl (by decide) rfl ?_
  refine own_astore 19 #[oI x0, oA w_ALL, oI (22 : Int32), oI (13 : Int32), oA w_FAILURE] X73 hx hby d2_17 rfl rfl rfl ?_
  refine own_aload 21 X73 hx hby d2_19 rfl rfl rfl ?_
  refine own_getF 24 X73 hx hby hZ hown (own_w hw 11 rfl) e73 (W.2.2.2.2.2.2.2.2.2.2.2.2.2.2.2.2.2.2.2.2.2.2.2.2.2.2.2.2.2.2.2.2.2.2.2.2.2.2.2.2.2.2.2.2.2.2.2.2.2.2.2.2.2.2.2.2.2.2.1.ext O0.2) d2_21 rfl ?_
  intro T75 X75 e75
  refine own_iload_n 25 X75 hx hby d2_24 rfl rfl ?_
  refine own_icY 31 X75 hx hby d2_25 (by decide) (by decide) (feq hc76).2 ?_
  refine own_iinc 34 #[oI x0, oA w_ALL, oI (22 : Int32), oI (14 : Int32), oA w_FAILURE] X75 hx hby d2_31 rfl rfl rfl ?_
  refine own_goto 9 X75 hx hby d2_34 (by decide) (by decide) ?_
  refine own_iload_n 10 X75 hx hby d2_9 rfl rfl ?_
  refine own_iload_n 11 X75 hx hby d2_10 rfl rfl ?_
  refine own_icN 14 X75 hx hby d2_11 rfl (by decide) ?_
  refine own_aload_n 15 X75 hx hby d2_14 rfl rfl rfl ?_
  refine own_iload_n 16 X75 hx hby d2_15 rfl rfl ?_
  refine own_aaload 17 (.ref w_DEAD) X75 hx hby hZ e75 (W.2.2.2.2.2.2.2.2.2.2.2.2.2.2.2.2.2.2.2.2.2.2.2.2.2.2.2.2.2.2.2.2.2.2.2.2.2.2.2.2.2.2.2.2.2.2.2.2.2.2.2.2.2.2.2.2.2.2.2.2.2.2.2.2.2.2.2.ext O0.2) rfl d2_16 rfl (by decide) rfl ?_
  refine own_astore 19 #[oI x0, oA w_ALL, oI (22 : Int32), oI (14 : Int32), oA w_DEAD] X75 hx hby d2_17 rfl rfl rfl ?_
  refine own_aload 21 X75 hx hby d2_19 rfl rfl rfl ?_
  refine own_getF 24 X75 hx hby hZ hown (own_w hw 11 rfl) e75 (W.2.2.2.2.2.2.2.2.2.2.2.2.2.2.2.2.2.2.2.2.2.2.2.2.2.2.2.2.2.2.2.2.2.2.2.2.2.2.2.2.2.2.2.2.2.2.2.2.2.2.2.2.2.2.2.2.2.2.2.1.ext O0.2) d2_21 rfl ?_
  intro T77 X77 e77
  refine own_iload_n 25 X77 hx hby d2_24 rfl rfl ?_
  refine own_icY 31 X77 hx hby d2_25 (by decide) (by decide) (feq hc78).2 ?_
  refine own_iinc 34 #[oI x0, oA w_ALL, oI (22 : Int32), oI (15 : Int32), oA w_DEAD] X77 hx hby d2_31 rfl rfl rfl ?_
  refine own_goto 9 X77 hx hby d2_34 (by decide) (by decide) ?_
  refine own_iload_n 10 X77 hx hby d2_9 rfl rfl ?_
  refine own_iload_n 11 X77 hx hby d2_10 rfl rfl ?_
  refine own_icN 14 X77 hx hby d2_11 rfl (by decide) ?_
  refine own_aload_n 15 X77 hx hby d2_14 rfl rfl rfl ?_
  refine own_iload_n 16 X77 hx hby d2_15 rfl rfl ?_
  refine own_aaload 17 (.ref w_COUNT_WAITING) X77 hx hby hZ e77 (W.2.2.2.2.2.2.2.2.2.2.2.2.2.2.2.2.2.2.2.2.2.2.2.2.2.2.2.2.2.2.2.2.2.2.2.2.2.2.2.2.2.2.2.2.2.2.2.2.2.2.2.2.2.2.2.2.2.2.2.2.2.2.2.2.2.2.2.ext O0.2) rfl d2_16 rfl (by decide) rfl ?_
  refine own_astore 19 #[oI x0, oA w_ALL, oI (22 : Int32), oI (15 : Int32), oA w_COUNT_WAITING] X77 hx hby d2_17 rfl rfl rfl ?_
  refine own_aload 21 X77 hx hby d2_19 rfl rfl rfl ?_
  refine own_getF 24 X77 hx hby hZ hown (own_w hw 11 rfl) e77 (W.2.2.2.2.2.2.2.2.2.2.2.2.2.2.2.2.2.2.2.2.2.2.2.2.2.2.2.2.2.2.2.2.2.2.2.2.2.2.2.2.2.2.2.2.2.2.2.2.2.2.2.2.2.2.2.2.2.2.2.2.1.ext O0.2) d2_21 rfl ?_
  intro T79 X79 e79
  refine own_iload_n 25 X79 hx hby d2_24 rfl rfl ?_
  refine own_icY 31 X79 hx hby d2_25 (by decide) (by decide) (feq hc80).2 ?_
  refine own_iinc 34 #[oI x0, oA w_ALL, oI (22 : Int32), oI (16 : Int32), oA w_COUNT_WAITING] X79 hx hby d2_31 rfl rfl rfl ?_
  refine own_goto 9 X79 hx hby d2_34 (by decide) (by decide) ?_
  refine own_iload_n 10 X79 hx hby d2_9 rfl rfl ?_
  refine own_iload_n 11 X79 hx hby d2_10 rfl rfl ?_
  refine own_icN 14 X79 hx hby d2_11 rfl (by decide) ?_
  refine own_aload_n 15 X79 hx hby d2_14 rfl rfl rfl ?_
  refine own_iload_n 16 X79 hx hby d2_15 rfl rfl ?_
  refine own_aaload 17 (.ref w_CLOSING) X79 hx hby hZ e79 (W.2.2.2.2.2.2.2.2.2.2.2.2.2.2.2.2.2.2.2.2.2.2.2.2.2.2.2.2.2.2.2.2.2.2.2.2.2.2.2.2.2.2.2.2.2.2.2.2.2.2.2.2.2.2.2.2.2.2.2.2.2.2.2.2.2.2.2.ext O0.2) rfl d2_16 rfl (by decide) rfl ?_
  refine own_astore 19 #[oI x0, oA w_ALL, oI (22 : Int32), oI (16 : Int32), oA w_CLOSING] X79 hx hby d2_17 rfl rfl rfl ?_
  refine own_aload 21 X79 hx hby d2_19 rfl rfl rfl ?_
  refine own_getF 24 X79 hx hby hZ hown (own_w hw 11 rfl) e79 (W.2.2.2.2.2.2.2.2.2.2.2.2.2.2.2.2.2.2.2.2.2.2.2.2.2.2.2.2.2.2.2.2.2.2.2.2.2.2.2.2.2.2.2.2.2.2.2.2.2.2.2.2.2.2.2.2.2.2.2.2.2.1.ext O0.2) d2_21 rfl ?_
  intro T81 X81 e81
  refine own_iload_n 25 X81 hx hby d2_24 rfl rfl ?_
  refine own_icY 31 X81 hx hby d2_25 (by decide) (by decide) (feq hc82).2 ?_
  refine own_iinc 34 #[oI x0, oA w_ALL, oI (22 : Int32), oI (17 : Int32), oA w_CLOSING] X81 hx hby d2_31 rfl rfl rfl ?_
  refine own_goto 9 X81 hx hby d2_34 (by decide) (by decide) ?_
  refine own_iload_n 10 X81 hx hby d2_9 rfl rfl ?_
  refine own_iload_n 11 X81 hx hby d2_10 rfl rfl ?_
  refine own_icN 14 X81 hx hby d2_11 rfl (by decide) ?_
  refine own_aload_n 15 X81 hx hby d2_14 rfl rfl rfl ?_
  refine own_iload_n 16 X81 hx hby d2_15 rfl rfl ?_
  refine own_aaload 17 (.ref w_UNHELD) X81 hx hby hZ e81 (W.2.2.2.2.2.2.2.2.2.2.2.2.2.2.2.2.2.2.2.2.2.2.2.2.2.2.2.2.2.2.2.2.2.2.2.2.2.2.2.2.2.2.2.2.2.2.2.2.2.2.2.2.2.2.2.2.2.2.2.2.2.2.2.2.2.2.2.ext O0.2) rfl d2_16 rfl (by decide) rfl ?_
  refine own_astore 19 #[oI x0, oA w_ALL, oI (22 : Int32), oI (17 : Int32), oA w_UNHELD] X81 hx hby d2_17 rfl rfl rfl ?_
  refine own_aload 21 X81 hx hby d2_19 rfl rfl rfl ?_
  refine own_getF 24 X81 hx hby hZ hown (own_w hw 11 rfl) e81 (W.2.2.2.2.2.2.2.2.2.2.2.2.2.2.2.2.2.2.2.2.2.2.2.2.2.2.2.2.2.2.2.2.2.2.2.2.2.2.2.2.2.2.2.2.2.2.2.2.2.2.2.2.2.2.2.2.2.2.2.2.2.2.1.ext O0.2) d2_21 rfl ?_
  intro T83 X83 e83
  refine own_iload_n 25 X83 hx hby d2_24 rfl rfl ?_
  refine own_icY 31 X83 hx hby d2_25 (by decide) (by decide) (feq hc84).2 ?_
  refine own_iinc 34 #[oI x0, oA w_ALL, oI (22 : Int32), oI (18 : Int32), oA w_UNHELD] X83 hx hby d2_31 rfl rfl rfl ?_
  refine own_goto 9 X83 hx hby d2_34 (by decide) (by decide) ?_
  refine own_iload_n 10 X83 hx hby d2_9 rfl rfl ?_
  refine own_iload_n 11 X83 hx hby d2_10 rfl rfl ?_
  refine own_icN 14 X83 hx hby d2_11 rfl (by decide) ?_
  refine own_aload_n 15 X83 hx hby d2_14 rfl rfl rfl ?_
  refine own_iload_n 16 X83 hx hby d2_15 rfl rfl ?_
  refine own_aaload 17 (.ref w_OPEN) X83 hx hby hZ e83 (W.2.2.2.2.2.2.2.2.2.2.2.2.2.2.2.2.2.2.2.2.2.2.2.2.2.2.2.2.2.2.2.2.2.2.2.2.2.2.2.2.2.2.2.2.2.2.2.2.2.2.2.2.2.2.2.2.2.2.2.2.2.2.2.2.2.2.2.ext O0.2) rfl d2_16 rfl (by decide) rfl ?_
  refine own_astore 19 #[oI x0, oA w_ALL, oI (22 : Int32), oI (18 : Int32), oA w_OPEN] X83 hx hby d2_17 rfl rfl rfl ?_
  refine own_aload 21 X83 hx hby d2_19 rfl rfl rfl ?_
  refine own_getF 24 X83 hx hby hZ hown (own_w hw 11 rfl) e83 (W.2.2.2.2.2.2.2.2.2.2.2.2.2.2.2.2.2.2.2.2.2.2.2.2.2.2.2.2.2.2.2.2.2.2.2.2.2.2.2.2.2.2.2.2.2.2.2.2.2.2.2.2.2.2.2.2.2.2.2.2.2.2.2.1.ext O0.2) d2_21 rfl ?_
  intro T85 X85 e85
  refine own_iload_n 25 X85 hx hby d2_24 rfl rfl ?_
  refine own_icN 28 X85 hx hby d2_25 rfl (teq hc86).2 ?_
  refine own_aload 30 X85 hx hby d2_28 rfl rfl rfl ?_
  exact own_ret (Q := own_Q _ n0 h0) X85 hx hby hret hlk d2_30 rfl (Or.inr (Or.inr (Or.inr (Or.inr ⟨rfl, rfl, rfl⟩)))) (by decide) (by decide) ⟨rfl, N0, e85⟩
set_option maxRecDepth 65536 in
set_option maxHeartbeats 40000000 in
theorem rm2_20 (l : Launch) (Z : State) (a0 : Array Value) (hw : ∀ d ∈ tables_1, d.before a0 Z = true) (ws : List Jvm.Cond) (w_HELLO w_ADD_SERVICE w_GET_SERVICE w_LIST_SERVICES w_TRANSLATE w_RESOLVE w_RELEASE w_STATUS w_WAITING w_WATCH w_ACQUIRE w_RETIRE w_RESULT w_FAILURE w_DEAD w_COUNT_WAITING w_CLOSING w_UNHELD w_OPEN w_TRANSACTION w_REPLY w_KNOCK w_ALL k_ALL : Addr) (W : own_W Z w_HELLO w_ADD_SERVICE w_GET_SERVICE w_LIST_SERVICES w_TRANSLATE w_RESOLVE w_RELEASE w_STATUS w_WAITING w_WATCH w_ACQUIRE w_RETIRE w_RESULT w_FAILURE w_DEAD w_COUNT_WAITING w_CLOSING w_UNHELD w_OPEN w_TRANSACTION w_REPLY w_KNOCK w_ALL k_ALL) (x0 : Int32) (h0 : Heap) (n0 : Nat) (O0 : Old Z n0 h0) (hc50 : ¬ ((1 : Int32) = x0)) (hc52 : ¬ ((2 : Int32) = x0)) (hc54 : ¬ ((3 : Int32) = x0)) (hc56 : ¬ ((4 : Int32) = x0)) (hc58 : ¬ ((5 : Int32) = x0)) (hc60 : ¬ ((6 : Int32) = x0)) (hc62 : ¬ ((7 : Int32) = x0)) (hc64 : ¬ ((8 : Int32) = x0)) (hc66 : ¬ ((9 : Int32) = x0)) (hc68 : ¬ ((10 : Int32) = x0)) (hc70 : ¬ ((11 : Int32) = x0)) (hc72 : ¬ ((12 : Int32) = x0)) (hc74 : ¬ ((16 : Int32) = x0)) (hc76 : ¬ ((17 : Int32) = x0)) (hc78 : ¬ ((18 : Int32) = x0)) (hc80 : ¬ ((19 : Int32) = x0)) (hc82 : ¬ ((20 : Int32) = x0)) (hc84 : ¬ ((21 : Int32) = x0)) (hc86 : ¬ ((32 : Int32) = x0)) (hc88 : (33 : Int32) = x0) :
    MetFree l (⟨"com/example/hop1/hop1/protocol/FrameKind", "of", "(I)Lcom/example/hop1/hop1/protocol/FrameKind;"⟩ : MethodName) (head1 (Jvm.Cond.code (⟨"com/example/hop1/hop1/protocol/FrameKind", "of", "(I)Lcom/example/hop1/hop1/protocol/FrameKind;"⟩ : MethodName) prog_113_method_5_code 5 (some (.object "com/example/hop1/hop1/protocol/FrameKind")) :: ws) ({ frames := 0, cells := 0, slots := 0, locals := 0 } : Room)) (fun a U => a = #[(.int x0)] ∧ Z.Warmed39 U.vm ∧ U.heap = h0) (fun _ _ _ _ _ => True) (fun _ U o U' => ∃ v L, o = .returned v ∧ own_Q (some (.ref w_TRANSACTION)) n0 h0 v U'.heap L ∧ FrameEnd U o U' L ({ frames := 0, cells := 0, slots := 0, locals := 0 } : Room).cells ({ frames := 0, cells := 0, slots := 0, locals := 0 } : Room).slots) := by
  refine MetFree.of_bodySF (plainFor_of_name pn_1) hisR ?_
  intro p e s m args below meth c s₁ Bd hml0 hP hK
  obtain ⟨rfl, hZ, hh⟩ := hP
  have hx := Bd.exec
  have hby := Bd.bytes
  have hml : c.maxLocals = 5 := hml0
  have hlk := BodyLoose.notSynchronized Bd
  have hret := Bd.returns
  have hown : s.vm.findClass "com/example/hop1/hop1/protocol/FrameKind" = some m.cls := findClass_of_methodNamed Bd.named
  have hnm := (name_of_methodNamed Bd.named Bd.method).1
  have X0 : Stand p l e ({ frames := 0, cells := 0, slots := 0, locals := 0 } : Room) s m #[(.int x0)] below meth c s₁ [] 0 0 := Stand.of_body Bd
  have e0 : s₁.heap = h0 := by rw [← hh, Bd.state]; rfl
  have N0 := Fr.nil n0
  rw [ef_2 m x0]
  show Go p e below _ (s₁.setTop (mkF m 0 #[oI x0, oU, oU, oU, oU] []))
  refine own_getS 3 X0 hx hby hZ hown (own_w hw 8 rfl) e0 (W.2.2.2.2.2.2.2.2.2.2.2.2.2.2.2.2.2.2.2.2.2.2.2.2.2.2.2.2.2.2.2.2.2.2.2.2.2.2.2.2.2.2.2.2.1.ext O0.2) d2_0 rfl ?_
  intro T48 X48 e48
  refine own_astore_n 4 #[oI x0, oA w_ALL, oU, oU, oU] X48 hx hby d2_3 rfl rfl rfl ?_
  refine own_aload_n 5 X48 hx hby d2_4 rfl rfl rfl ?_
  refine own_len 6 X48 hx hby hZ e48 (W.2.2.2.2.2.2.2.2.2.2.2.2.2.2.2.2.2.2.2.2.2.2.2.2.2.2.2.2.2.2.2.2.2.2.2.2.2.2.2.2.2.2.2.2.2.2.2.2.2.2.2.2.2.2.2.2.2.2.2.2.2.2.2.2.2.2.2.ext O0.2) d2_5 rfl ?_
  refine own_istore_n 7 #[oI x0, oA w_ALL, oI (22 : Int32), oU, oU] X48 hx hby d2_6 rfl rfl ?_
  refine own_iconst 8 (0 : Int32) X48 hx hby d2_7 rfl (by decide) ?_
  refine own_istore_n 9 #[oI x0, oA w_ALL, oI (22 : Int32), oI (0 : Int32), oU] X48 hx hby d2_8 rfl rfl ?_
  refine own_iload_n 10 X48 hx hby d2_9 rfl rfl ?_
  refine own_iload_n 11 X48 hx hby d2_10 rfl rfl ?_
  refine own_icN 14 X48 hx hby d2_11 rfl (by decide) ?_
  refine own_aload_n 15 X48 hx hby d2_14 rfl rfl rfl ?_
  refine own_iload_n 16 X48 hx hby d2_15 rfl rfl ?_
  refine own_aaload 17 (.ref w_HELLO) X48 hx hby hZ e48 (W.2.2.2.2.2.2.2.2.2.2.2.2.2.2.2.2.2.2.2.2.2.2.2.2.2.2.2.2.2.2.2.2.2.2.2.2.2.2.2.2.2.2.2.2.2.2.2.2.2.2.2.2.2.2.2.2.2.2.2.2.2.2.2.2.2.2.2.ext O0.2) rfl d2_16 rfl (by decide) rfl ?_
  refine own_astore 19 #[oI x0, oA w_ALL, oI (22 : Int32), oI (0 : Int32), oA w_HELLO] X48 hx hby d2_17 rfl rfl rfl ?_
  refine own_aload 21 X48 hx hby d2_19 rfl rfl rfl ?_
  refine own_getF 24 X48 hx hby hZ hown (own_w hw 11 rfl) e48 (W.2.2.2.2.2.2.2.2.2.2.2.2.2.2.2.2.2.2.2.2.2.2.2.2.2.2.2.2.2.2.2.2.2.2.2.2.2.2.2.2.2.2.2.2.2.1.ext O0.2) d2_21 rfl ?_
  intro T49 X49 e49
  refine own_iload_n 25 X49 hx hby d2_24 rfl rfl ?_
  refine own_icY 31 X49 hx hby d2_25 (by decide) (by decide) (feq hc50).2 ?_
  refine own_iinc 34 #[oI x0, oA w_ALL, oI (22 : Int32), oI (1 : Int32), oA w_HELLO] X49 hx hby d2_31 rfl rfl rfl ?_
  refine own_goto 9 X49 hx hby d2_34 (by decide) (by decide) ?_
  refine own_iload_n 10 X49 hx hby d2_9 rfl rfl ?_
  refine own_iload_n 11 X49 hx hby d2_10 rfl rfl ?_
  refine own_icN 14 X49 hx hby d2_11 rfl (by decide) ?_
  refine own_aload_n 15 X49 hx hby d2_14 rfl rfl rfl ?_
  refine own_iload_n 16 X49 hx hby d2_15 rfl rfl ?_
  refine own_aaload 17 (.ref w_ADD_SERVICE) X49 hx hby hZ e49 (W.2.2.2.2.2.2.2.2.2.2.2.2.2.2.2.2.2.2.2.2.2.2.2.2.2.2.2.2.2.2.2.2.2.2.2.2.2.2.2.2.2.2.2.2.2.2.2.2.2.2.2.2.2.2.2.2.2.2.2.2.2.2.2.2.2.2.2.ext O0.2) rfl d2_16 rfl (by decide) rfl ?_
  refine own_astore 19 #[oI x0, oA w_ALL, oI (22 : Int32), oI (1 : Int32), oA w_ADD_SERVICE] X49 hx hby d2_17 rfl rfl rfl ?_
  refine own_aload 21 X49 hx hby d2_19 rfl rfl rfl ?_
  refine own_getF 24 X49 hx hby hZ hown (own_w hw 11 rfl) e49 (W.2.2.2.2.2.2.2.2.2.2.2.2.2.2.2.2.2.2.2.2.2.2.2.2.2.2.2.2.2.2.2.2.2.2.2.2.2.2.2.2.2.2.2.2.2.2.1.ext O0.2) d2_21 rfl ?_
  intro T51 X51 e51
  refine own_iload_n 25 X51 hx hby d2_24 rfl rfl ?_
  refine own_icY 31 X51 hx hby d2_25 (by decide) (by decide) (feq hc52).2 ?_
  refine own_iinc 34 #[oI x0, oA w_ALL, oI (22 : Int32), oI (2 : Int32), oA w_ADD_SERVICE] X51 hx hby d2_31 rfl rfl rfl ?_
  refine own_goto 9 X51 hx hby d2_34 (by decide) (by decide) ?_
  refine own_iload_n 10 X51 hx hby d2_9 rfl rfl ?_
  refine own_iload_n 11 X51 hx hby d2_10 rfl rfl ?_
  refine own_icN 14 X51 hx hby d2_11 rfl (by decide) ?_
  refine own_aload_n 15 X51 hx hby d2_14 rfl rfl rfl ?_
  refine own_iload_n 16 X51 hx hby d2_15 rfl rfl ?_
  refine own_aaload 17 (.ref w_GET_SERVICE) X51 hx hby hZ e51 (W.2.2.2.2.2.2.2.2.2.2.2.2.2.2.2.2.2.2.2.2.2.2.2.2.2.2.2.2.2.2.2.2.2.2.2.2.2.2.2.2.2.2.2.2.2.2.2.2.2.2.2.2.2.2.2.2.2.2.2.2.2.2.2.2.2.2.2.ext O0.2) rfl d2_16 rfl (by decide) rfl ?_
  refine own_astore 19 #[oI x0, oA w_ALL, oI (22 : Int32), oI (2 : Int32), oA w_GET_SERVICE] X51 hx hby d2_17 rfl rfl rfl ?_
  refine own_aload 21 X51 hx hby d2_19 rfl rfl rfl ?_
  refine own_getF 24 X51 hx hby hZ hown (own_w hw 11 rfl) e51 (W.2.2.2.2.2.2.2.2.2.2.2.2.2.2.2.2.2.2.2.2.2.2.2.2.2.2.2.2.2.2.2.2.2.2.2.2.2.2.2.2.2.2.2.2.2.2.2.1.ext O0.2) d2_21 rfl ?_
  intro T53 X53 e53
  refine own_iload_n 25 X53 hx hby d2_24 rfl rfl ?_
  refine own_icY 31 X53 hx hby d2_25 (by decide) (by decide) (feq hc54).2 ?_
  refine own_iinc 34 #[oI x0, oA w_ALL, oI (22 : Int32), oI (3 : Int32), oA w_GET_SERVICE] X53 hx hby d2_31 rfl rfl rfl ?_
  refine own_goto 9 X53 hx hby d2_34 (by decide) (by decide) ?_
  refine own_iload_n 10 X53 hx hby d2_9 rfl rfl ?_
  refine own_iload_n 11 X53 hx hby d2_10 rfl rfl ?_
  refine own_icN 14 X53 hx hby d2_11 rfl (by decide) ?_
  refine own_aload_n 15 X53 hx hby d2_14 rfl rfl rfl ?_
  refine own_iload_n 16 X53 hx hby d2_15 rfl rfl ?_
  refine own_aaload 17 (.ref w_LIST_SERVICES) X53 hx hby hZ e53 (W.2.2.2.2.2.2.2.2.2.2.2.2.2.2.2.2.2.2.2.2.2.2.2.2.2.2.2.2.2.2.2.2.2.2.2.2.2.2.2.2.2.2.2.2.2.2.2.2.2.2.2.2.2.2.2.2.2.2.2.2.2.2.2.2.2.2.2.ext O0.2) rfl d2_16 rfl (by decide) rfl ?_
  refine own_astore 19 #[oI x0, oA w_ALL, oI (22 : Int32), oI (3 : Int32), oA w_LIST_SERVICES] X53 hx hby d2_17 rfl rfl rfl ?_
  refine own_aload 21 X53 hx hby d2_19 rfl rfl rfl ?_
  refine own_getF 24 X53 hx hby hZ hown (own_w hw 11 rfl) e53 (W.2.2.2.2.2.2.2.2.2.2.2.2.2.2.2.2.2.2.2.2.2.2.2.2.2.2.2.2.2.2.2.2.2.2.2.2.2.2.2.2.2.2.2.2.2.2.2.2.1.ext O0.2) d2_21 rfl ?_
  intro T55 X55 e55
  refine own_iload_n 25 X55 hx hby d2_24 rfl rfl ?_
  refine own_icY 31 X55 hx hby d2_25 (by decide) (by decide) (feq hc56).2 ?_
  refine own_iinc 34 #[oI x0, oA w_ALL, oI (22 : Int32), oI (4 : Int32), oA w_LIST_SERVICES] X55 hx hby d2_31 rfl rfl rfl ?_
  refine own_goto 9 X55 hx hby d2_34 (by decide) (by decide) ?_
  refine own_iload_n 10 X55 hx hby d2_9 rfl rfl ?_
  refine own_iload_n 11 X55 hx hby d2_10 rfl rfl ?_
  refine own_icN 14 X55 hx hby d2_11 rfl (by decide) ?_
  refine own_aload_n 15 X55 hx hby d2_14 rfl rfl rfl ?_
  refine own_iload_n 16 X55 hx hby d2_15 rfl rfl ?_
  refine own_aaload 17 (.ref w_TRANSLATE) X55 hx hby hZ e55 (W.2.2.2.2.2.2.2.2.2.2.2.2.2.2.2.2.2.2.2.2.2.2.2.2.2.2.2.2.2.2.2.2.2.2.2.2.2.2.2.2.2.2.2.2.2.2.2.2.2.2.2.2.2.2.2.2.2.2.2.2.2.2.2.2.2.2.2.ext O0.2) rfl d2_16 rfl (by decide) rfl ?_
  refine own_astore 19 #[oI x0, oA w_ALL, oI (22 : Int32), oI (4 : Int32), oA w_TRANSLATE] X55 hx hby d2_17 rfl rfl rfl ?_
  refine own_aload 21 X55 hx hby d2_19 rfl rfl rfl ?_
  refine own_getF 24 X55 hx hby hZ hown (own_w hw 11 rfl) e55 (W.2.2.2.2.2.2.2.2.2.2.2.2.2.2.2.2.2.2.2.2.2.2.2.2.2.2.2.2.2.2.2.2.2.2.2.2.2.2.2.2.2.2.2.2.2.2.2.2.2.1.ext O0.2) d2_21 rfl ?_
  intro T57 X57 e57
  refine own_iload_n 25 X57 hx hby d2_24 rfl rfl ?_
  refine own_icY 31 X57 hx hby d2_25 (by decide) (by decide) (feq hc58).2 ?_
  refine own_iinc 34 #[oI x0, oA w_ALL, oI (22 : Int32), oI (5 : Int32), oA w_TRANSLATE] X57 hx hby d2_31 rfl rfl rfl ?_
  refine own_goto 9 X57 hx hby d2_34 (by decide) (by decide) ?_
  refine own_iload_n 10 X57 hx hby d2_9 rfl rfl ?_
  refine own_iload_n 11 X57 hx hby d2_10 rfl rfl ?_
  refine own_icN 14 X57 hx hby d2_11 rfl (by decide) ?_
  refine own_aload_n 15 X57 hx hby d2_14 rfl rfl rfl ?_
  refine own_iload_n 16 X57 hx hby d2_15 rfl rfl ?_
  refine own_aaload 17 (.ref w_RESOLVE) X57 hx hby hZ e57 (W.2.2.2.2.2.2.2.2.2.2.2.2.2.2.2.2.2.2.2.2.2.2.2.2.2.2.2.2.2.2.2.2.2.2.2.2.2.2.2.2.2.2.2.2.2.2.2.2.2.2.2.2.2.2.2.2.2.2.2.2.2.2.2.2.2.2.2.ext O0.2) rfl d2_16 rfl (by decide) rfl ?_
  refine own_astore 19 #[oI x0, oA w_ALL, oI (22 : Int32), oI (5 : Int32), oA w_RESOLVE] X57 hx hby d2_17 rfl rfl rfl ?_
  refine own_aload 21 X57 hx hby d2_19 rfl rfl rfl ?_
  refine own_getF 24 X57 hx hby hZ hown (own_w hw 11 rfl) e57 (W.2.2.2.2.2.2.2.2.2.2.2.2.2.2.2.2.2.2.2.2.2.2.2.2.2.2.2.2.2.2.2.2.2.2.2.2.2.2.2.2.2.2.2.2.2.2.2.2.2.2.1.ext O0.2) d2_21 rfl ?_
  intro T59 X59 e59
  refine own_iload_n 25 X59 hx hby d2_24 rfl rfl ?_
  refine own_icY 31 X59 hx hby d2_25 (by decide) (by decide) (feq hc60).2 ?_
  refine own_iinc 34 #[oI x0, oA w_ALL, oI (22 : Int32), oI (6 : Int32), oA w_RESOLVE] X59 hx hby d2_31 rfl rfl rfl ?_
  refine own_goto 9 X59 hx hby d2_34 (by decide) (by decide) ?_
  refine own_iload_n 10 X59 hx hby d2_9 rfl rfl ?_
  refine own_iload_n 11 X59 hx hby d2_10 rfl rfl ?_
  refine own_icN 14 X59 hx hby d2_11 rfl (by decide) ?_
  refine own_aload_n 15 X59 hx hby d2_14 rfl rfl rfl ?_
  refine own_iload_n 16 X59 hx hby d2_15 rfl rfl ?_
  refine own_aaload 17 (.ref w_RELEASE) X59 hx hby hZ e59 (W.2.2.2.2.2.2.2.2.2.2.2.2.2.2.2.2.2.2.2.2.2.2.2.2.2.2.2.2.2.2.2.2.2.2.2.2.2.2.2.2.2.2.2.2.2.2.2.2.2.2.2.2.2.2.2.2.2.2.2.2.2.2.2.2.2.2.2.ext O0.2) rfl d2_16 rfl (by decide) rfl ?_
  refine own_astore 19 #[oI x0, oA w_ALL, oI (22 : Int32), oI (6 : Int32), oA w_RELEASE] X59 hx hby d2_17 rfl rfl rfl ?_
  refine own_aload 21 X59 hx hby d2_19 rfl rfl rfl ?_
  refine own_getF 24 X59 hx hby hZ hown (own_w hw 11 rfl) e59 (W.2.2.2.2.2.2.2.2.2.2.2.2.2.2.2.2.2.2.2.2.2.2.2.2.2.2.2.2.2.2.2.2.2.2.2.2.2.2.2.2.2.2.2.2.2.2.2.2.2.2.2.1.ext O0.2) d2_21 rfl ?_
  intro T61 X61 e61
  refine own_iload_n 25 X61 hx hby d2_24 rfl rfl ?_
  refine own_icY 31 X61 hx hby d2_25 (by decide) (by decide) (feq hc62).2 ?_
  refine own_iinc 34 #[oI x0, oA w_ALL, oI (22 : Int32), oI (7 : Int32), oA w_RELEASE] X61 hx hby d2_31 rfl rfl rfl ?_
  refine own_goto 9 X61 hx hby d2_34 (by decide) (by decide) ?_
  refine own_iload_n 10 X61 hx hby d2_9 rfl rfl ?_
  refine own_iload_n 11 X61 hx hby d2_10 rfl rfl ?_
  refine own_icN 14 X61 hx hby d2_11 rfl (by decide) ?_
  refine own_aload_n 15 X61 hx hby d2_14 rfl rfl rfl ?_
  refine own_iload_n 16 X61 hx hby d2_15 rfl rfl ?_
  refine own_aaload 17 (.ref w_STATUS) X61 hx hby hZ e61 (W.2.2.2.2.2.2.2.2.2.2.2.2.2.2.2.2.2.2.2.2.2.2.2.2.2.2.2.2.2.2.2.2.2.2.2.2.2.2.2.2.2.2.2.2.2.2.2.2.2.2.2.2.2.2.2.2.2.2.2.2.2.2.2.2.2.2.2.ext O0.2) rfl d2_16 rfl (by decide) rfl ?_
  refine own_astore 19 #[oI x0, oA w_ALL, oI (22 : Int32), oI (7 : Int32), oA w_STATUS] X61 hx hby d2_17 rfl rfl rfl ?_
  refine own_aload 21 X61 hx hby d2_19 rfl rfl rfl ?_
  refine own_getF 24 X61 hx hby hZ hown (own_w hw 11 rfl) e61 (W.2.2.2.2.2.2.2.2.2.2.2.2.2.2.2.2.2.2.2.2.2.2.2.2.2.2.2.2.2.2.2.2.2.2.2.2.2.2.2.2.2.2.2.2.2.2.2.2.2.2.2.2.1.ext O0.2) d2_21 rfl ?_
  intro T63 X63 e63
  refine own_iload_n 25 X63 hx hby d2_24 rfl rfl ?_
  refine own_icY 31 X63 hx hby d2_25 (by decide) (by decide) (feq hc64).2 ?_
  refine own_iinc 34 #[oI x0, oA w_ALL, oI (22 : Int32), oI (8 : Int32), oA w_STATUS] X63 hx hby d2_31 rfl rfl rfl ?_
  refine own_goto 9 X63 hx hby d2_34 (by decide) (by decide) ?_
  refine own_iload_n 10 X63 hx hby d2_9 rfl rfl ?_
  refine own_iload_n 11 X63 hx hby d2_10 rfl rfl ?_
  refine own_icN 14 X63 hx hby d2_11 rfl (by decide) ?_
  refine own_aload_n 15 X63 hx hby d2_14 rfl rfl rfl ?_
  refine own_iload_n 16 X63 hx hby d2_15 rfl rfl ?_
  refine own_aaload 17 (.ref w_WAITING) X63 hx hby hZ e63 (W.2.2.2.2.2.2.2.2.2.2.2.2.2.2.2.2.2.2.2.2.2.2.2.2.2.2.2.2.2.2.2.2.2.2.2.2.2.2.2.2.2.2.2.2.2.2.2.2.2.2.2.2.2.2.2.2.2.2.2.2.2.2.2.2.2.2.2.ext O0.2) rfl d2_16 rfl (by decide) rfl ?_
  refine own_astore 19 #[oI x0, oA w_ALL, oI (22 : Int32), oI (8 : Int32), oA w_WAITING] X63 hx hby d2_17 rfl rfl rfl ?_
  refine own_aload 21 X63 hx hby d2_19 rfl rfl rfl ?_
  refine own_getF 24 X63 hx hby hZ hown (own_w hw 11 rfl) e63 (W.2.2.2.2.2.2.2.2.2.2.2.2.2.2.2.2.2.2.2.2.2.2.2.2.2.2.2.2.2.2.2.2.2.2.2.2.2.2.2.2.2.2.2.2.2.2.2.2.2.2.2.2.2.1.ext O0.2) d2_21 rfl ?_
  intro T65 X65 e65
  refine own_iload_n 25 X65 hx hby d2_24 rfl rfl ?_
  refine own_icY 31 X65 hx hby d2_25 (by decide) (by decide) (feq hc66).2 ?_
  refine own_iinc 34 #[oI x0, oA w_ALL, oI (22 : Int32), oI (9 : Int32), oA w_WAITING] X65 hx hby d2_31 rfl rfl rfl ?_
  refine own_goto 9 X65 hx hby d2_34 (by decide) (by decide) ?_
  refine own_iload_n 10 X65 hx hby d2_9 rfl rfl ?_
  refine own_iload_n 11 X65 hx hby d2_10 rfl rfl ?_
  refine own_icN 14 X65 hx hby d2_11 rfl (by decide) ?_
  refine own_aload_n 15 X65 hx hby d2_14 rfl rfl rfl ?_
  refine own_iload_n 16 X65 hx hby d2_15 rfl rfl ?_
  refine own_aaload 17 (.ref w_WATCH) X65 hx hby hZ e65 (W.2.2.2.2.2.2.2.2.2.2.2.2.2.2.2.2.2.2.2.2.2.2.2.2.2.2.2.2.2.2.2.2.2.2.2.2.2.2.2.2.2.2.2.2.2.2.2.2.2.2.2.2.2.2.2.2.2.2.2.2.2.2.2.2.2.2.2.ext O0.2) rfl d2_16 rfl (by decide) rfl ?_
  refine own_astore 19 #[oI x0, oA w_ALL, oI (22 : Int32), oI (9 : Int32), oA w_WATCH] X65 hx hby d2_17 rfl rfl rfl ?_
  refine own_aload 21 X65 hx hby d2_19 rfl rfl rfl ?_
  refine own_getF 24 X65 hx hby hZ hown (own_w hw 11 rfl) e65 (W.2.2.2.2.2.2.2.2.2.2.2.2.2.2.2.2.2.2.2.2.2.2.2.2.2.2.2.2.2.2.2.2.2.2.2.2.2.2.2.2.2.2.2.2.2.2.2.2.2.2.2.2.2.2.1.ext O0.2) d2_21 rfl ?_
  intro T67 X67 e67
  refine own_iload_n 25 X67 hx hby d2_24 rfl rfl ?_
  refine own_icY 31 X67 hx hby d2_25 (by decide) (by decide) (feq hc68).2 ?_
  refine own_iinc 34 #[oI x0, oA w_ALL, oI (22 : Int32), oI (10 : Int32), oA w_WATCH] X67 hx hby d2_31 rfl rfl rfl ?_
  refine own_goto 9 X67 hx hby d2_34 (by decide) (by decide) ?_
  refine own_iload_n 10 X67 hx hby d2_9 rfl rfl ?_
  refine own_iload_n 11 X67 hx hby d2_10 rfl rfl ?_
  refine own_icN 14 X67 hx hby d2_11 rfl (by decide) ?_
  refine own_aload_n 15 X67 hx hby d2_14 rfl rfl rfl ?_
  refine own_iload_n 16 X67 hx hby d2_15 rfl rfl ?_
  refine own_aaload 17 (.ref w_ACQUIRE) X67 hx hby hZ e67 (W.2.2.2.2.2.2.2.2.2.2.2.2.2.2.2.2.2.2.2.2.2.2.2.2.2.2.2.2.2.2.2.2.2.2.2.2.2.2.2.2.2.2.2.2.2.2.2.2.2.2.2.2.2.2.2.2.2.2.2.2.2.2.2.2.2.2.2.ext O0.2) rfl d2_16 rfl (by decide) rfl ?_
  refine own_astore 19 #[oI x0, oA w_ALL, oI (22 : Int32), oI (10 : Int32), oA w_ACQUIRE] X67 hx hby d2_17 rfl rfl rfl ?_
  refine own_aload 21 X67 hx hby d2_19 rfl rfl rfl ?_
  refine own_getF 24 X67 hx hby hZ hown (own_w hw 11 rfl) e67 (W.2.2.2.2.2.2.2.2.2.2.2.2.2.2.2.2.2.2.2.2.2.2.2.2.2.2.2.2.2.2.2.2.2.2.2.2.2.2.2.2.2.2.2.2.2.2.2.2.2.2.2.2.2.2.2.1.ext O0.2) d2_21 rfl ?_
  intro T69 X69 e69
  refine own_iload_n 25 X69 hx hby d2_24 rfl rfl ?_
  refine own_icY 31 X69 hx hby d2_25 (by decide) (by decide) (feq hc70).2 ?_
  refine own_iinc 34 #[oI x0, oA w_ALL, oI (22 : Int32), oI (11 : Int32), oA w_ACQUIRE] X69 hx hby d2_31 rfl rfl rfl ?_
  refine own_goto 9 X69 hx hby d2_34 (by decide) (by decide) ?_
  refine own_iload_n 10 X69 hx hby d2_9 rfl rfl ?_
  refine own_iload_n 11 X69 hx hby d2_10 rfl rfl ?_
  refine own_icN 14 X69 hx hby d2_11 rfl (by decide) ?_
  refine own_aload_n 15 X69 hx hby d2_14 rfl rfl rfl ?_
  refine own_iload_n 16 X69 hx hby d2_15 rfl rfl ?_
  refine own_aaload 17 (.ref w_RETIRE) X69 hx hby hZ e69 (W.2.2.2.2.2.2.2.2.2.2.2.2.2.2.2.2.2.2.2.2.2.2.2.2.2.2.2.2.2.2.2.2.2.2.2.2.2.2.2.2.2.2.2.2.2.2.2.2.2.2.2.2.2.2.2.2.2.2.2.2.2.2.2.2.2.2.2.ext O0.2) rfl d2_16 rfl (by decide) rfl ?_
  refine own_astore 19 #[oI x0, oA w_ALL, oI (22 : Int32), oI (11 : Int32), oA w_RETIRE] X69 hx hby d2_17 rfl rfl rfl ?_
  refine own_aload 21 X69 hx hby d2_19 rfl rfl rfl ?_
  refine own_getF 24 X69 hx hby hZ hown (own_w hw 11 rfl) e69 (W.2.2.2.2.2.2.2.2.2.2.2.2.2.2.2.2.2.2.2.2.2.2.2.2.2.2.2.2.2.2.2.2.2.2.2.2.2.2.2.2.2.2.2.2.2.2.2.2.2.2.2.2.2.2.2.2.1.ext O0.2) d2_21 rfl ?_
  intro T71 X71 e71
  refine own_iload_n 25 X71 hx hby d2_24 rfl rfl ?_
  refine own_icY 31 X71 hx hby d2_25 (by decide) (by decide) (feq hc72).2 ?_
  refine own_iinc 34 #[oI x0, oA w_ALL, oI (22 : Int32), oI (12 : Int32), oA w_RETIRE] X71 hx hby d2_31 rfl rfl rfl ?_
  refine own_goto 9 X71 hx hby d2_34 (by decide) (by decide) ?_
  refine own_iload_n 10 X71 hx hby d2_9 rfl rfl ?_
  refine own_iload_n 11 X71 hx hby d2_10 rfl rfl ?_
  refine own_icN 14 X71 hx hby d2_11 rfl (by decide) ?_
  refine own_aload_n 15 X71 hx hby d2_14 rfl rfl rfl ?_
  refine own_iload_n 16 X71 hx hby d2_15 rfl rfl ?_
  refine own_aaload 17 (.ref w_RESULT) X71 hx hby hZ e71 (W.2.2.2.2.2.2.2.2.2.2.2.2.2.2.2.2.2.2.2.2.2.2.2.2.2.2.2.2.2.2.2.2.2.2.2.2.2.2.2.2.2.2.2.2.2.2.2.2.2.2.2.2.2.2.2.2.2.2.2.2.2.2.2.2.2.2.2.ext O0.2) rfl d2_16 rfl (by decide) rfl ?_
  refine own_astore 19 #[oI x0, oA w_ALL, oI (22 : Int32), oI (12 : Int32), oA w_RESULT] X71 hx hby d2_17 rfl rfl rfl ?_
  refine own_aload 21 X71 hx hby d2_19 rfl rfl rfl ?_
  refine own_getF 24 X71 hx hby hZ hown (own_w hw 11 rfl) e71 (W.2.2.2.2.2.2.2.2.2.2.2.2.2.2.2.2.2.2.2.2.2.2.2.2.2.2.2.2.2.2.2.2.2.2.2.2.2.2.2.2.2.2.2.2.2.2.2.2.2.2.2.2.2.2.2.2.2.1.ext O0.2) d2_21 rfl ?_
  intro T73 X73 e73
  refine own_iload_n 25 X73 hx hby d2_24 rfl rfl ?_
  refine own_icY 31 X73 hx hby d2_25 (by decide) (by decide) (feq hc74).2 ?_
  refine own_iinc 34 #[oI x0, oA w_ALL, oI (22 : Int32), oI (13 : Int32), oA w_RESULT] X73 hx hby d2_31 rfl rfl rfl ?_
  refine own_goto 9 X73 hx hby d2_34 (by decide) (by decide) ?_
  refine own_iload_n 10 X73 hx hby d2_9 rfl rfl ?_
  refine own_iload_n 11 X73 hx hby d2_10 rfl rfl ?_
  refine own_icN 14 X73 hx hby d2_11 rfl (by decide) ?_
  refine own_aload_n 15 X73 hx hby d2_14 rfl rfl rfl ?_
  refine own_iload_n 16 X73 hx hby d2_15 rfl rfl ?_
  refine own_aaload 17 (.ref w_FAILURE) X73 hx hby hZ e73 (W.2.2.2.2.2.2.2.2.2.2.2.2.2.2.2.2.2.2.2.2.2.2.2.2.2.2.2.2.2.2.2.2.2.2.2.2.2.2.2.2.2.2.2.2.2.2.2.2.2.2.2.2.2.2.2.2.2.2.2.2.2.2.2.2.2.2.2.ext O0.2) rfl d2_16 rfl (by decide) rfl ?_
  refine own_astore 19 #[oI x0, oA w_ALL, oI (22 : Int32), oI (13 : Int32), oA w_FAILURE] X73 hx hby d2_17 rfl rfl rfl ?_
  refine own_aload 21 X73 hx hby d2_19 rfl rfl rfl ?_
  refine own_getF 24 X73 hx hby hZ hown (own_w hw 11 rfl) e73 (W.2.2.2.2.2.2.2.2.2.2.2.2.2.2.2.2.2.2.2.2.2.2.2.2.2.2.2.2.2.2.2.2.2.2.2.2.2.2.2.2.2.2.2.2.2.2.2.2.2.2.2.2.2.2.2.2.2.2.1.ext O0.2) d2_21 rfl ?_
  intro T75 X75 e75
  refine own_iload_n 25 X75 hx hby d2_24 rfl rfl ?_
  refine own_icY 31 X75 hx hby d2_25 (by decide) (by decide) (feq hc76).2 ?_
  refine own_iinc 34 #[oI x0, oA w_ALL, oI (22 : Int32), oI (14 : Int32), oA w_FAILURE] X75 hx hby d2_31 rfl rfl rfl ?_
  refine own_goto 9 X75 hx hby d2_34 (by decide) (by decide) ?_
  refine own_iload_n 10 X75 hx hby d2_9 rfl rfl ?_
  refine own_iload_n 11 X75 hx hby d2_10 rfl rfl ?_
  refine own_icN 14 X75 hx hby d2_11 rfl (by decide) ?_
  refine own_aload_n 15 X75 hx hby d2_14 rfl rfl rfl ?_
  refine own_iload_n 16 X75 hx hby d2_15 rfl rfl ?_
  refine own_aaload 17 (.ref w_DEAD) X75 hx hby hZ e75 (W.2.2.2.2.2.2.2.2.2.2.2.2.2.2.2.2.2.2.2.2.2.2.2.2.2.2.2.2.2.2.2.2.2.2.2.2.2.2.2.2.2.2.2.2.2.2.2.2.2.2.2.2.2.2.2.2.2.2.2.2.2.2.2.2.2.2.2.ext O0.2) rfl d2_16 rfl (by decide) rfl ?_
  refine own_astore 19 #[oI x0, oA w_ALL, oI (22 : Int32), oI (14 : Int32), oA w_DEAD] X75 hx hby d2_17 rfl rfl rfl ?_
  refine own_aload 21 X75 hx hby d2_19 rfl rfl rfl ?_
  refine own_getF 24 X75 hx hby hZ hown (own_w hw 11 rfl) e75 (W.2.2.2.2.2.2.2.2.2.2.2.2.2.2.2.2.2.2.2.2.2.2.2.2.2.2.2.2.2.2.2.2.2.2.2.2.2.2.2.2.2.2.2.2.2.2.2.2.2.2.2.2.2.2.2.2.2.2.2.1.ext O0.2) d2_21 rfl ?_
  intro T77 X77 e77
  refine own_iload_n 25 X77 hx hby d2_24 rfl rfl ?_
  refine own_icY 31 X77 hx hby d2_25 (by decide) (by decide) (feq hc78).2 ?_
  refine own_iinc 34 #[oI x0, oA w_ALL, oI (22 : Int32), oI (15 : Int32), oA w_DEAD] X77 hx hby d2_31 rfl rfl rfl ?_
  refine own_goto 9 X77 hx hby d2_34 (by decide) (by decide) ?_
  refine own_iload_n 10 X77 hx hby d2_9 rfl rfl ?_
  refine own_iload_n 11 X77 hx hby d2_10 rfl rfl ?_
  refine own_icN 14 X77 hx hby d2_11 rfl (by decide) ?_
  refine own_aload_n 15 X77 hx hby d2_14 rfl rfl rfl ?_
  refine own_iload_n 16 X77 hx hby d2_15 rfl rfl ?_
  refine own_aaload 17 (.ref w_COUNT_WAITING) X77 hx hby hZ e77 (W.2.2.2.2.2.2.2.2.2.2.2.2.2.2.2.2.2.2.2.2.2.2.2.2.2.2.2.2.2.2.2.2.2.2.2.2.2.2.2.2.2.2.2.2.2.2.2.2.2.2.2.2.2.2.2.2.2.2.2.2.2.2.2.2.2.2.2.ext O0.2) rfl d2_16 rfl (by decide) rfl ?_
  refine own_astore 19 #[oI x0, oA w_ALL, oI (22 : Int32), oI (15 : Int32), oA w_COUNT_WAITING] X77 hx hby d2_17 rfl rfl rfl ?_
  refine own_aload 21 X77 hx hby d2_19 rfl rfl rfl ?_
  refine own_getF 24 X77 hx hby hZ hown (own_w hw 11 rfl) e77 (W.2.2.2.2.2.2.2.2.2.2.2.2.2.2.2.2.2.2.2.2.2.2.2.2.2.2.2.2.2.2.2.2.2.2.2.2.2.2.2.2.2.2.2.2.2.2.2.2.2.2.2.2.2.2.2.2.2.2.2.2.1.ext O0.2) d2_21 rfl ?_
  intro T79 X79 e79
  refine own_iload_n 25 X79 hx hby d2_24 rfl rfl ?_
  refine own_icY 31 X79 hx hby d2_25 (by decide) (by decide) (feq hc80).2 ?_
  refine own_iinc 34 #[oI x0, oA w_ALL, oI (22 : Int32), oI (16 : Int32), oA w_COUNT_WAITING] X79 hx hby d2_31 rfl rfl rfl ?_
  refine own_goto 9 X79 hx hby d2_34 (by decide) (by decide) ?_
  refine own_iload_n 10 X79 hx hby d2_9 rfl rfl ?_
  refine own_iload_n 11 X79 hx hby d2_10 rfl rfl ?_
  refine own_icN 14 X79 hx hby d2_11 rfl (by decide) ?_
  refine own_aload_n 15 X79 hx hby d2_14 rfl rfl rfl ?_
  refine own_iload_n 16 X79 hx hby d2_15 rfl rfl ?_
  refine own_aaload 17 (.ref w_CLOSING) X79 hx hby hZ e79 (W.2.2.2.2.2.2.2.2.2.2.2.2.2.2.2.2.2.2.2.2.2.2.2.2.2.2.2.2.2.2.2.2.2.2.2.2.2.2.2.2.2.2.2.2.2.2.2.2.2.2.2.2.2.2.2.2.2.2.2.2.2.2.2.2.2.2.2.ext O0.2) rfl d2_16 rfl (by decide) rfl ?_
  refine own_astore 19 #[oI x0, oA w_ALL, oI (22 : Int32), oI (16 : Int32), oA w_CLOSING] X79 hx hby d2_17 rfl rfl rfl ?_
  refine own_aload 21 X79 hx hby d2_19 rfl rfl rfl ?_
  refine own_getF 24 X79 hx hby hZ hown (own_w hw 11 rfl) e79 (W.2.2.2.2.2.2.2.2.2.2.2.2.2.2.2.2.2.2.2.2.2.2.2.2.2.2.2.2.2.2.2.2.2.2.2.2.2.2.2.2.2.2.2.2.2.2.2.2.2.2.2.2.2.2.2.2.2.2.2.2.2.1.ext O0.2) d2_21 rfl ?_
  intro T81 X81 e81
  refine own_iload_n 25 X81 hx hby d2_24 rfl rfl ?_
  refine own_icY 31 X81 hx hby d2_25 (by decide) (by decide) (feq hc82).2 ?_
  refine own_iinc 34 #[oI x0, oA w_ALL, oI (22 : Int32), oI (17 : Int32), oA w_CLOSING] X81 hx hby d2_31 rfl rfl rfl ?_
  refine own_goto 9 X81 hx hby d2_34 (by decide) (by decide) ?_
  refine own_iload_n 10 X81 hx hby d2_9 rfl rfl ?_
  refine own_iload_n 11 X81 hx hby d2_10 rfl rfl ?_
  refine own_icN 14 X81 hx hby d2_11 rfl (by decide) ?_
  refine own_aload_n 15 X81 hx hby d2_14 rfl rfl rfl ?_
  refine own_iload_n 16 X81 hx hby d2_15 rfl rfl ?_
  refine own_aaload 17 (.ref w_UNHELD) X81 hx hby hZ e81 (W.2.2.2.2.2.2.2.2.2.2.2.2.2.2.2.2.2.2.2.2.2.2.2.2.2.2.2.2.2.2.2.2.2.2.2.2.2.2.2.2.2.2.2.2.2.2.2.2.2.2.2.2.2.2.2.2.2.2.2.2.2.2.2.2.2.2.2.ext O0.2) rfl d2_16 rfl (by decide) rfl ?_
  refine own_astore 19 #[oI x0, oA w_ALL, oI (22 : Int32), oI (17 : Int32), oA w_UNHELD] X81 hx hby d2_17 rfl rfl rfl ?_
  refine own_aload 21 X81 hx hby d2_19 rfl rfl rfl ?_
  refine own_getF 24 X81 hx hby hZ hown (own_w hw 11 rfl) e81 (W.2.2.2.2.2.2.2.2.2.2.2.2.2.2.2.2.2.2.2.2.2.2.2.2.2.2.2.2.2.2.2.2.2.2.2.2.2.2.2.2.2.2.2.2.2.2.2.2.2.2.2.2.2.2.2.2.2.2.2.2.2.2.1.ext O0.2) d2_21 rfl ?_
  intro T83 X83 e83
  refine own_iload_n 25 X83 hx hby d2_24 rfl rfl ?_
  refine own_icY 31 X83 hx hby d2_25 (by decide) (by decide) (feq hc84).2 ?_
  refine own_iinc 34 #[oI x0, oA w_ALL, oI (22 : Int32), oI (18 : Int32), oA w_UNHELD] X83 hx hby d2_31 rfl rfl rfl ?_
  refine own_goto 9 X83 hx hby d2_34 (by decide) (by decide) ?_
  refine own_iload_n 10 X83 hx hby d2_9 rfl rfl ?_
  refine own_iload_n 11 X83 hx hby d2_10 rfl rfl ?_
  refine own_icN 14 X83 hx hby d2_11 rfl (by decide) ?_
  refine own_aload_n 15 X83 hx hby d2_14 rfl rfl rfl ?_
  refine own_iload_n 16 X83 hx hby d2_15 rfl rfl ?_
  refine own_aaload 17 (.ref w_OPEN) X83 hx hby hZ e83 (W.2.2.2.2.2.2.2.2.2.2.2.2.2.2.2.2.2.2.2.2.2.2.2.2.2.2.2.2.2.2.2.2.2.2.2.2.2.2.2.2.2.2.2.2.2.2.2.2.2.2.2.2.2.2.2.2.2.2.2.2.2.2.2.2.2.2.2.ext O0.2) rfl d2_16 rfl (by decide) rfl ?_
  refine own_astore 19 #[oI x0, oA w_ALL, oI (22 : Int32), oI (18 : Int32), oA w_OPEN] X83 hx hby d2_17 rfl rfl rfl ?_
  refine own_aload 21 X83 hx hby d2_19 rfl rfl rfl ?_
  refine own_getF 24 X83 hx hby hZ hown (own_w hw 11 rfl) e83 (W.2.2.2.2.2.2.2.2.2.2.2.2.2.2.2.2.2.2.2.2.2.2.2.2.2.2.2.2.2.2.2.2.2.2.2.2.2.2.2.2.2.2.2.2.2.2.2.2.2.2.2.2.2.2.2.2.2.2.2.2.2.2.2.1.ext O0.2) d2_21 rfl ?_
  intro T85 X85 e85
  refine own_iload_n 25 X85 hx hby d2_24 rfl rfl ?_
  refine own_icY 31 X85 hx hby d2_25 (by decide) (by decide) (feq hc86).2 ?_
  refine own_iinc 34 #[oI x0, oA w_ALL, oI (22 : Int32), oI (19 : Int32), oA w_OPEN] X85 hx hby d2_31 rfl rfl rfl ?_
  refine own_goto 9 X85 hx hby d2_34 (by decide) (by decide) ?_
  refine own_iload_n 10 X85 hx hby d2_9 rfl rfl ?_
  refine own_iload_n 11 X85 hx hby d2_10 rfl rfl ?_
  refine own_icN 14 X85 hx hby d2_11 rfl (by decide) ?_
  refine own_aload_n 15 X85 hx hby d2_14 rfl rfl rfl ?_
  refine own_iload_n 16 X85 hx hby d2_15 rfl rfl ?_
  refine own_aaload 17 (.ref w_TRANSACTION) X85 hx hby hZ e85 (W.2.2.2.2.2.2.2.2.2.2.2.2.2.2.2.2.2.2.2.2.2.2.2.2.2.2.2.2.2.2.2.2.2.2.2.2.2.2.2.2.2.2.2.2.2.2.2.2.2.2.2.2.2.2.2.2.2.2.2.2.2.2.2.2.2.2.2.ext O0.2) rfl d2_16 rfl (by decide) rfl ?_
  refine own_astore 19 #[oI x0, oA w_ALL, oI (22 : Int32), oI (19 : Int32), oA w_TRANSACTION] X85 hx hby d2_17 rfl rfl rfl ?_
  refine own_aload 21 X85 hx hby d2_19 rfl rfl rfl ?_
  refine own_getF 24 X85 hx hby hZ hown (own_w hw 11 rfl) e85 (W.2.2.2.2.2.2.2.2.2.2.2.2.2.2.2.2.2.2.2.2.2.2.2.2.2.2.2.2.2.2.2.2.2.2.2.2.2.2.2.2.2.2.2.2.2.2.2.2.2.2.2.2.2.2.2.2.2.2.2.2.2.2.2.2.1.ext O0.2) d2_21 rfl ?_
  intro T87 X87 e87
  refine own_iload_n 25 X87 hx hby d2_24 rfl rfl ?_
  refine own_icN 28 X87 hx hby d2_25 rfl (teq hc88).2 ?_
  refine own_aload 30 X87 hx hby d2_28 rfl rfl rfl ?_
  exact own_ret (Q := own_Q _ n0 h0) X87 hx hby hret hlk d2_30 rfl (Or.inr (Or.inr (Or.inr (Or.inr ⟨rfl, rfl, rfl⟩)))) (by decide) (by decide) ⟨rfl, N0, e87⟩
set_option maxRecDepth 65536 in
set_option maxHeartbeats 40000000 in
theorem rm2_21 (l : Launch) (Z : State) (a0 : Array Value) (hw : ∀ d ∈ tables_1, d.before a0 Z = true) (ws : List Jvm.Cond) (w_HELLO w_ADD_SERVICE w_GET_SERVICE w_LIST_SERVICES w_TRANSLATE w_RESOLVE w_RELEASE w_STATUS w_WAITING w_WATCH w_ACQUIRE w_RETIRE w_RESULT w_FAILURE w_DEAD w_COUNT_WAITING w_CLOSING w_UNHELD w_OPEN w_TRANSACTION w_REPLY w_KNOCK w_ALL k_ALL : Addr) (W : own_W Z w_HELLO w_ADD_SERVICE w_GET_SERVICE w_LIST_SERVICES w_TRANSLATE w_RESOLVE w_RELEASE w_STATUS w_WAITING w_WATCH w_ACQUIRE w_RETIRE w_RESULT w_FAILURE w_DEAD w_COUNT_WAITING w_CLOSING w_UNHELD w_OPEN w_TRANSACTION w_REPLY w_KNOCK w_ALL k_ALL) (x0 : Int32) (h0 : Heap) (n0 : Nat) (O0 : Old Z n0 h0) (hc50 : ¬ ((1 : Int32) = x0)) (hc52 : ¬ ((2 : Int32) = x0)) (hc54 : ¬ ((3 : Int32) = x0)) (hc56 : ¬ ((4 : Int32) = x0)) (hc58 : ¬ ((5 : Int32) = x0)) (hc60 : ¬ ((6 : Int32) = x0)) (hc62 : ¬ ((7 : Int32) = x0)) (hc64 : ¬ ((8 : Int32) = x0)) (hc66 : ¬ ((9 : Int32) = x0)) (hc68 : ¬ ((10 : Int32) = x0)) (hc70 : ¬ ((11 : Int32) = x0)) (hc72 : ¬ ((12 : Int32) = x0)) (hc74 : ¬ ((16 : Int32) = x0)) (hc76 : ¬ ((17 : Int32) = x0)) (hc78 : ¬ ((18 : Int32) = x0)) (hc80 : ¬ ((19 : Int32) = x0)) (hc82 : ¬ ((20 : Int32) = x0)) (hc84 : ¬ ((21 : Int32) = x0)) (hc86 : ¬ ((32 : Int32) = x0)) (hc88 : ¬ ((33 : Int32) = x0)) (hc90 : (34 : Int32) = x0) :
    MetFree l (⟨"com/example/hop1/hop1/protocol/FrameKind", "of", "(I)Lcom/example/hop1/hop1/protocol/FrameKind;"⟩ : MethodName) (head1 (Jvm.Cond.code (⟨"com/example/hop1/hop1/protocol/FrameKind", "of", "(I)Lcom/example/hop1/hop1/protocol/FrameKind;"⟩ : MethodName) prog_113_method_5_code 5 (some (.object "com/example/hop1/hop1/protocol/FrameKind")) :: ws) ({ frames := 0, cells := 0, slots := 0, locals := 0 } : Room)) (fun a U => a = #[(.int x0)] ∧ Z.Warmed39 U.vm ∧ U.heap = h0) (fun _ _ _ _ _ => True) (fun _ U o U' => ∃ v L, o = .returned v ∧ own_Q (some (.ref w_REPLY)) n0 h0 v U'.heap L ∧ FrameEnd U o U' L ({ frames := 0, cells := 0, slots := 0, locals := 0 } : Room).cells ({ frames := 0, cells := 0, slots := 0, locals := 0 } : Room).slots) := by
  refine MetFree.of_bodySF (plainFor_of_name pn_1) hisR ?_
  intro p e s m args below meth c s₁ Bd hml0 hP hK
  obtain ⟨rfl, hZ, hh⟩ := hP
  have hx := Bd.exec
  have hby := Bd.bytes
  have hml : c.maxLocals = 5 := hml0
  have hlk := BodyLoose.notSynchronized Bd
  have hret := Bd.returns
  have hown : s.vm.findClass "com/example/hop1/hop1/protocol/FrameKind" = some m.cls := findClass_of_methodNamed Bd.named
  have hnm := (name_of_methodNamed Bd.named Bd.method).1
  have X0 : Stand p l e ({ frames := 0, cells := 0, slots := 0, locals := 0 } : Room) s m #[(.int x0)] below meth c s₁ [] 0 0 := Stand.of_body Bd
  have e0 : s₁.heap = h0 := by rw [← hh, Bd.state]; rfl
  have N0 := Fr.nil n0
  rw [ef_2 m x0]
  show Go p e below _ (s₁.setTop (mkF m 0 #[oI x0, oU, oU, oU, oU] []))
  refine own_getS 3 X0 hx hby hZ hown (own_w hw 8 rfl) e0 (W.2.2.2.2.2.2.2.2.2.2.2.2.2.2.2.2.2.2.2.2.2.2.2.2.2.2.2.2.2.2.2.2.2.2.2.2.2.2.2.2.2.2.2.2.1.ext O0.2) d2_0 rfl ?_
  intro T48 X48 e48
  refine own_astore_n 4 #[oI x0, oA w_ALL, oU, oU, oU] X48 hx hby d2_3 rfl rfl rfl ?_
  refine own_aload_n 5 X48 hx hby d2_4 rfl rfl rfl ?_
  refine own_len 6 X48 hx hby hZ e48 (W.2.2.2.2.2.2.2.2.2.2.2.2.2.2.2.2.2.2.2.2.2.2.2.2.2.2.2.2.2.2.2.2.2.2.2.2.2.2.2.2.2.2.2.2.2.2.2.2.2.2.2.2.2.2.2.2.2.2.2.2.2.2.2.2.2.2.2.ext O0.2) d2_5 rfl ?_
  refine own_istore_n 7 #[oI x0, oA w_ALL, oI (22 : Int32), oU, oU] X48 hx hby d2_6 rfl rfl ?_
  refine own_iconst 8 (0 : Int32) X48 hx hby d2_7 rfl (by decide) ?_
  refine own_istore_n 9 #[oI x0, oA w_ALL, oI (22 : Int32), oI (0 : Int32), oU] X48 hx hby d2_8 rfl rfl ?_
  refine own_iload_n 10 X48 hx hby d2_9 rfl rfl ?_
  refine own_iload_n 11 X48 hx hby d2_10 rfl rfl ?_
  refine own_icN 14 X48 hx hby d2_11 rfl (by decide) ?_
  refine own_aload_n 15 X48 hx hby d2_14 rfl rfl rfl ?_
  refine own_iload_n 16 X48 hx hby d2_15 rfl rfl ?_
  refine own_aaload 17 (.ref w_HELLO) X48 hx hby hZ e48 (W.2.2.2.2.2.2.2.2.2.2.2.2.2.2.2.2.2.2.2.2.2.2.2.2.2.2.2.2.2.2.2.2.2.2.2.2.2.2.2.2.2.2.2.2.2.2.2.2.2.2.2.2.2.2.2.2.2.2.2.2.2.2.2.2.2.2.2.ext O0.2) rfl d2_16 rfl (by decide) rfl ?_
  refine own_astore 19 #[oI x0, oA w_ALL, oI (22 : Int32), oI (0 : Int32), oA w_HELLO] X48 hx hby d2_17 rfl rfl rfl ?_
  refine own_aload 21 X48 hx hby d2_19 rfl rfl rfl ?_
  refine own_getF 24 X48 hx hby hZ hown (own_w hw 11 rfl) e48 (W.2.2.2.2.2.2.2.2.2.2.2.2.2.2.2.2.2.2.2.2.2.2.2.2.2.2.2.2.2.2.2.2.2.2.2.2.2.2.2.2.2.2.2.2.2.1.ext O0.2) d2_21 rfl ?_
  intro T49 X49 e49
  refine own_iload_n 25 X49 hx hby d2_24 rfl rfl ?_
  refine own_icY 31 X49 hx hby d2_25 (by decide) (by decide) (feq hc50).2 ?_
  refine own_iinc 34 #[oI x0, oA w_ALL, oI (22 : Int32), oI (1 : Int32), oA w_HELLO] X49 hx hby d2_31 rfl rfl rfl ?_
  refine own_goto 9 X49 hx hby d2_34 (by decide) (by decide) ?_
  refine own_iload_n 10 X49 hx hby d2_9 rfl rfl ?_
  refine own_iload_n 11 X49 hx hby d2_10 rfl rfl ?_
  refine own_icN 14 X49 hx hby d2_11 rfl (by decide) ?_
  refine own_aload_n 15 X49 hx hby d2_14 rfl rfl rfl ?_
  refine own_iload_n 16 X49 hx hby d2_15 rfl rfl ?_
  refine own_aaload 17 (.ref w_ADD_SERVICE) X49 hx hby hZ e49 (W.2.2.2.2.2.2.2.2.2.2.2.2.2.2.2.2.2.2.2.2.2.2.2.2.2.2.2.2.2.2.2.2.2.2.2.2.2.2.2.2.2.2.2.2.2.2.2.2.2.2.2.2.2.2.2.2.2.2.2.2.2.2.2.2.2.2.2.ext O0.2) rfl d2_16 rfl (by decide) rfl ?_
  refine own_astore 19 #[oI x0, oA w_ALL, oI (22 : Int32), oI (1 : Int32), oA w_ADD_SERVICE] X49 hx hby d2_17 rfl rfl rfl ?_
  refine own_aload 21 X49 hx hby d2_19 rfl rfl rfl ?_
  refine own_getF 24 X49 hx hby hZ hown (own_w hw 11 rfl) e49 (W.2.2.2.2.2.2.2.2.2.2.2.2.2.2.2.2.2.2.2.2.2.2.2.2.2.2.2.2.2.2.2.2.2.2.2.2.2.2.2.2.2.2.2.2.2.2.1.ext O0.2) d2_21 rfl ?_
  intro T51 X51 e51
  refine own_iload_n 25 X51 hx hby d2_24 rfl rfl ?_
  refine own_icY 31 X51 hx hby d2_25 (by decide) (by decide) (feq hc52).2 ?_
  refine own_iinc 34 #[oI x0, oA w_ALL, oI (22 : Int32), oI (2 : Int32), oA w_ADD_SERVICE] X51 hx hby d2_31 rfl rfl rfl ?_
  refine own_goto 9 X51 hx hby d2_34 (by decide) (by decide) ?_
  refine own_iload_n 10 X51 hx hby d2_9 rfl rfl ?_
  refine own_iload_n 11 X51 hx hby d2_10 rfl rfl ?_
  refine own_icN 14 X51 hx hby d2_11 rfl (by decide) ?_
  refine own_aload_n 15 X51 hx hby d2_14 rfl rfl rfl ?_
  refine own_iload_n 16 X51 hx hby d2_15 rfl rfl ?_
  refine own_aaload 17 (.ref w_GET_SERVICE) X51 hx hby hZ e51 (W.2.2.2.2.2.2.2.2.2.2.2.2.2.2.2.2.2.2.2.2.2.2.2.2.2.2.2.2.2.2.2.2.2.2.2.2.2.2.2.2.2.2.2.2.2.2.2.2.2.2.2.2.2.2.2.2.2.2.2.2.2.2.2.2.2.2.2.ext O0.2) rfl d2_16 rfl (by decide) rfl ?_
  refine own_astore 19 #[oI x0, oA w_ALL, oI (22 : Int32), oI (2 : Int32), oA w_GET_SERVICE] X51 hx hby d2_17 rfl rfl rfl ?_
  refine own_aload 21 X51 hx hby d2_19 rfl rfl rfl ?_
  refine own_getF 24 X51 hx hby hZ hown (own_w hw 11 rfl) e51 (W.2.2.2.2.2.2.2.2.2.2.2.2.2.2.2.2.2.2.2.2.2.2.2.2.2.2.2.2.2.2.2.2.2.2.2.2.2.2.2.2.2.2.2.2.2.2.2.1.ext O0.2) d2_21 rfl ?_
  intro T53 X53 e53
  refine own_iload_n 25 X53 hx hby d2_24 rfl rfl ?_
  refine own_icY 31 X53 hx hby d2_25 (by decide) (by decide) (feq hc54).2 ?_
  refine own_iinc 34 #[oI x0, oA w_ALL, oI (22 : Int32), oI (3 : Int32), oA w_GET_SERVICE] X53 hx hby d2_31 rfl rfl rfl ?_
  refine own_goto 9 X53 hx hby d2_34 (by decide) (by decide) ?_
  refine own_iload_n 10 X53 hx hby d2_9 rfl rfl ?_
  refine own_iload_n 11 X53 hx hby d2_10 rfl rfl ?_
  refine own_icN 14 X53 hx hby d2_11 rfl (by decide) ?_
  refine own_aload_n 15 X53 hx hby d2_14 rfl rfl rfl ?_
  refine own_iload_n 16 X53 hx hby d2_15 rfl rfl ?_
  refine own_aaload 17 (.ref w_LIST_SERVICES) X53 hx hby hZ e53 (W.2.2.2.2.2.2.2.2.2.2.2.2.2.2.2.2.2.2.2.2.2.2.2.2.2.2.2.2.2.2.2.2.2.2.2.2.2.2.2.2.2.2.2.2.2.2.2.2.2.2.2.2.2.2.2.2.2.2.2.2.2.2.2.2.2.2.2.ext O0.2) rfl d2_16 rfl (by decide) rfl ?_
  refine own_astore 19 #[oI x0, oA w_ALL, oI (22 : Int32), oI (3 : Int32), oA w_LIST_SERVICES] X53 hx hby d2_17 rfl rfl rfl ?_
  refine own_aload 21 X53 hx hby d2_19 rfl rfl rfl ?_
  refine own_getF 24 X53 hx hby hZ hown (own_w hw 11 rfl) e53 (W.2.2.2.2.2.2.2.2.2.2.2.2.2.2.2.2.2.2.2.2.2.2.2.2.2.2.2.2.2.2.2.2.2.2.2.2.2.2.2.2.2.2.2.2.2.2.2.2.1.ext O0.2) d2_21 rfl ?_
  intro T55 X55 e55
  refine own_iload_n 25 X55 hx hby d2_24 rfl rfl ?_
  refine own_icY 31 X55 hx hby d2_25 (by decide) (by decide) (feq hc56).2 ?_
  refine own_iinc 34 #[oI x0, oA w_ALL, oI (22 : Int32), oI (4 : Int32), oA w_LIST_SERVICES] X55 hx hby d2_31 rfl rfl rfl ?_
  refine own_goto 9 X55 hx hby d2_34 (by decide) (by decide) ?_
  refine own_iload_n 10 X55 hx hby d2_9 rfl rfl ?_
  refine own_iload_n 11 X55 hx hby d2_10 rfl rfl ?_
  refine own_icN 14 X55 hx hby d2_11 rfl (by decide) ?_
  refine own_aload_n 15 X55 hx hby d2_14 rfl rfl rfl ?_
  refine own_iload_n 16 X55 hx hby d2_15 rfl rfl ?_
  refine own_aaload 17 (.ref w_TRANSLATE) X55 hx hby hZ e55 (W.2.2.2.2.2.2.2.2.2.2.2.2.2.2.2.2.2.2.2.2.2.2.2.2.2.2.2.2.2.2.2.2.2.2.2.2.2.2.2.2.2.2.2.2.2.2.2.2.2.2.2.2.2.2.2.2.2.2.2.2.2.2.2.2.2.2.2.ext O0.2) rfl d2_16 rfl (by decide) rfl ?_
  refine own_astore 19 #[oI x0, oA w_ALL, oI (22 : Int32), oI (4 : Int32), oA w_TRANSLATE] X55 hx hby d2_17 rfl rfl rfl ?_
  refine own_aload 21 X55 hx hby d2_19 rfl rfl rfl ?_
  refine own_getF 24 X55 hx hby hZ hown (own_w hw 11 rfl) e55 (W.2.2.2.2.2.2.2.2.2.2.2.2.2.2.2.2.2.2.2.2.2.2.2.2.2.2.2.2.2.2.2.2.2.2.2.2.2.2.2.2.2.2.2.2.2.2.2.2.2.1.ext O0.2) d2_21 rfl ?_
  intro T57 X57 e57
  refine own_iload_n 25 X57 hx hby d2_24 rfl rfl ?_
  refine own_icY 31 X57 hx hby d2_25 (by decide) (by decide) (feq hc58).2 ?_
  refine own_iinc 34 #[oI x0, oA w_ALL, oI (22 : Int32), oI (5 : Int32), oA w_TRANSLATE] X57 hx hby d2_31 rfl rfl rfl ?_
  refine own_goto 9 X57 hx hby d2_34 (by decide) (by decide) ?_
  refine own_iload_n 10 X57 hx hby d2_9 rfl rfl ?_
  refine own_iload_n 11 X57 hx hby d2_10 rfl rfl ?_
  refine own_icN 14 X57 hx hby d2_11 rfl (by decide) ?_
  refine own_aload_n 15 X57 hx hby d2_14 rfl rfl rfl ?_
  refine own_iload_n 16 X57 hx hby d2_15 rfl rfl ?_
  refine own_aaload 17 (.ref w_RESOLVE) X57 hx hby hZ e57 (W.2.2.2.2.2.2.2.2.2.2.2.2.2.2.2.2.2.2.2.2.2.2.2.2.2.2.2.2.2.2.2.2.2.2.2.2.2.2.2.2.2.2.2.2.2.2.2.2.2.2.2.2.2.2.2.2.2.2.2.2.2.2.2.2.2.2.2.ext O0.2) rfl d2_16 rfl (by decide) rfl ?_
  refine own_astore 19 #[oI x0, oA w_ALL, oI (22 : Int32), oI (5 : Int32), oA w_RESOLVE] X57 hx hby d2_17 rfl rfl rfl ?_
  refine own_aload 21 X57 hx hby d2_19 rfl rfl rfl ?_
  refine own_getF 24 X57 hx hby hZ hown (own_w hw 11 rfl) e57 (W.2.2.2.2.2.2.2.2.2.2.2.2.2.2.2.2.2.2.2.2.2.2.2.2.2.2.2.2.2.2.2.2.2.2.2.2.2.2.2.2.2.2.2.2.2.2.2.2.2.2.1.ext O0.2) d2_21 rfl ?_
  intro T59 X59 e59
  refine own_iload_n 25 X59 hx hby d2_24 rfl rfl ?_
  refine own_icY 31 X59 hx hby d2_25 (by decide) (by decide) (feq hc60).2 ?_
  refine own_iinc 34 #[oI x0, oA w_ALL, oI (22 : Int32), oI (6 : Int32), oA w_RESOLVE] X59 hx hby d2_31 rfl rfl rfl ?_
  refine own_goto 9 X59 hx hby d2_34 (by decide) (by decide) ?_
  refine own_iload_n 10 X59 hx hby d2_9 rfl rfl ?_
  refine own_iload_n 11 X59 hx hby d2_10 rfl rfl ?_
  refine own_icN 14 X59 hx hby d2_11 rfl (by decide) ?_
  refine own_aload_n 15 X59 hx hby d2_14 rfl rfl rfl ?_
  refine own_iload_n 16 X59 hx hby d2_15 rfl rfl ?_
  refine own_aaload 17 (.ref w_RELEASE) X59 hx hby hZ e59 (W.2.2.2.2.2.2.2.2.2.2.2.2.2.2.2.2.2.2.2.2.2.2.2.2.2.2.2.2.2.2.2.2.2.2.2.2.2.2.2.2.2.2.2.2.2.2.2.2.2.2.2.2.2.2.2.2.2.2.2.2.2.2.2.2.2.2.2.ext O0.2) rfl d2_16 rfl (by decide) rfl ?_
  refine own_astore 19 #[oI x0, oA w_ALL, oI (22 : Int32), oI (6 : Int32), oA w_RELEASE] X59 hx hby d2_17 rfl rfl rfl ?_
  refine own_aload 21 X59 hx hby d2_19 rfl rfl rfl ?_
  refine own_getF 24 X59 hx hby hZ hown (own_w hw 11 rfl) e59 (W.2.2.2.2.2.2.2.2.2.2.2.2.2.2.2.2.2.2.2.2.2.2.2.2.2.2.2.2.2.2.2.2.2.2.2.2.2.2.2.2.2.2.2.2.2.2.2.2.2.2.2.1.ext O0.2) d2_21 rfl ?_
  intro T61 X61 e61
  refine own_iload_n 25 X61 hx hby d2_24 rfl rfl ?_
  refine own_icY 31 X61 hx hby d2_25 (by decide) (by decide) (feq hc62).2 ?_
  refine own_iinc 34 #[oI x0, oA w_ALL, oI (22 : Int32), oI (7 : Int32), oA w_RELEASE] X61 hx hby d2_31 rfl rfl rfl ?_
  refine own_goto 9 X61 hx hby d2_34 (by decide) (by decide) ?_
  refine own_iload_n 10 X61 hx hby d2_9 rfl rfl ?_
  refine own_iload_n 11 X61 hx hby d2_10 rfl rfl ?_
  refine own_icN 14 X61 hx hby d2_11 rfl (by decide) ?_
  refine own_aload_n 15 X61 hx hby d2_14 rfl rfl rfl ?_
  refine own_iload_n 16 X61 hx hby d2_15 rfl rfl ?_
  refine own_aaload 17 (.ref w_STATUS) X61 hx hby hZ e61 (W.2.2.2.2.2.2.2.2.2.2.2.2.2.2.2.2.2.2.2.2.2.2.2.2.2.2.2.2.2.2.2.2.2.2.2.2.2.2.2.2.2.2.2.2.2.2.2.2.2.2.2.2.2.2.2.2.2.2.2.2.2.2.2.2.2.2.2.ext O0.2) rfl d2_16 rfl (by decide) rfl ?_
  refine own_astore 19 #[oI x0, oA w_ALL, oI (22 : Int32), oI (7 : Int32), oA w_STATUS] X61 hx hby d2_17 rfl rfl rfl ?_
  refine own_aload 21 X61 hx hby d2_19 rfl rfl rfl ?_
  refine own_getF 24 X61 hx hby hZ hown (own_w hw 11 rfl) e61 (W.2.2.2.2.2.2.2.2.2.2.2.2.2.2.2.2.2.2.2.2.2.2.2.2.2.2.2.2.2.2.2.2.2.2.2.2.2.2.2.2.2.2.2.2.2.2.2.2.2.2.2.2.1.ext O0.2) d2_21 rfl ?_
  intro T63 X63 e63
  refine own_iload_n 25 X63 hx hby d2_24 rfl rfl ?_
  refine own_icY 31 X63 hx hby d2_25 (by decide) (by decide) (feq hc64).2 ?_
  refine own_iinc 34 #[oI x0, oA w_ALL, oI (22 : Int32), oI (8 : Int32), oA w_STATUS] X63 hx hby d2_31 rfl rfl rfl ?_
  refine own_goto 9 X63 hx hby d2_34 (by decide) (by decide) ?_
  refine own_iload_n 10 X63 hx hby d2_9 rfl rfl ?_
  refine own_iload_n 11 X63 hx hby d2_10 rfl rfl ?_
  refine own_icN 14 X63 hx hby d2_11 rfl (by decide) ?_
  refine own_aload_n 15 X63 hx hby d2_14 rfl rfl rfl ?_
  refine own_iload_n 16 X63 hx hby d2_15 rfl rfl ?_
  refine own_aaload 17 (.ref w_WAITING) X63 hx hby hZ e63 (W.2.2.2.2.2.2.2.2.2.2.2.2.2.2.2.2.2.2.2.2.2.2.2.2.2.2.2.2.2.2.2.2.2.2.2.2.2.2.2.2.2.2.2.2.2.2.2.2.2.2.2.2.2.2.2.2.2.2.2.2.2.2.2.2.2.2.2.ext O0.2) rfl d2_16 rfl (by decide) rfl ?_
  refine own_astore 19 #[oI x0, oA w_ALL, oI (22 : Int32), oI (8 : Int32), oA w_WAITING] X63 hx hby d2_17 rfl rfl rfl ?_
  refine own_aload 21 X63 hx hby d2_19 rfl rfl rfl ?_
  refine own_getF 24 X63 hx hby hZ hown (own_w hw 11 rfl) e63 (W.2.2.2.2.2.2.2.2.2.2.2.2.2.2.2.2.2.2.2.2.2.2.2.2.2.2.2.2.2.2.2.2.2.2.2.2.2.2.2.2.2.2.2.2.2.2.2.2.2.2.2.2.2.1.ext O0.2) d2_21 rfl ?_
  intro T65 X65 e65
  refine own_iload_n 25 X65 hx hby d2_24 rfl rfl ?_
  refine own_icY 31 X65 hx hby d2_25 (by decide) (by decide) (feq hc66).2 ?_
  refine own_iinc 34 #[oI x0, oA w_ALL, oI (22 : Int32), oI (9 : Int32), oA w_WAITING] X65 hx hby d2_31 rfl rfl rfl ?_
  refine own_goto 9 X65 hx hby d2_34 (by decide) (by decide) ?_
  refine own_iload_n 10 X65 hx hby d2_9 rfl rfl ?_
  refine own_iload_n 11 X65 hx hby d2_10 rfl rfl ?_
  refine own_icN 14 X65 hx hby d2_11 rfl (by decide) ?_
  refine own_aload_n 15 X65 hx hby d2_14 rfl rfl rfl ?_
  refine own_iload_n 16 X65 hx hby d2_15 rfl rfl ?_
  refine own_aaload 17 (.ref w_WATCH) X65 hx hby hZ e65 (W.2.2.2.2.2.2.2.2.2.2.2.2.2.2.2.2.2.2.2.2.2.2.2.2.2.2.2.2.2.2.2.2.2.2.2.2.2.2.2.2.2.2.2.2.2.2.2.2.2.2.2.2.2.2.2.2.2.2.2.2.2.2.2.2.2.2.2.ext O0.2) rfl d2_16 rfl (by decide) rfl ?_
  refine own_astore 19 #[oI x0, oA w_ALL, oI (22 : Int32), oI (9 : Int32), oA w_WATCH] X65 hx hby d2_17 rfl rfl rfl ?_
  refine own_aload 21 X65 hx hby d2_19 rfl rfl rfl ?_
  refine own_getF 24 X65 hx hby hZ hown (own_w hw 11 rfl) e65 (W.2.2.2.2.2.2.2.2.2.2.2.2.2.2.2.2.2.2.2.2.2.2.2.2.2.2.2.2.2.2.2.2.2.2.2.2.2.2.2.2.2.2.2.2.2.2.2.2.2.2.2.2.2.2.1.ext O0.2) d2_21 rfl ?_
  intro T67 X67 e67
  refine own_iload_n 25 X67 hx hby d2_24 rfl rfl ?_
  refine own_icY 31 X67 hx hby d2_25 (by decide) (by decide) (feq hc68).2 ?_
  refine own_iinc 34 #[oI x0, oA w_ALL, oI (22 : Int32), oI (10 : Int32), oA w_WATCH] X67 hx hby d2_31 rfl rfl rfl ?_
  refine own_goto 9 X67 hx hby d2_34 (by decide) (by decide) ?_
  refine own_iload_n 10 X67 hx hby d2_9 rfl rfl ?_
  refine own_iload_n 11 X67 hx hby d2_10 rfl rfl ?_
  refine own_icN 14 X67 hx hby d2_11 rfl (by decide) ?_
  refine own_aload_n 15 X67 hx hby d2_14 rfl rfl rfl ?_
  refine own_iload_n 16 X67 hx hby d2_15 rfl rfl ?_
  refine own_aaload 17 (.ref w_ACQUIRE) X67 hx hby hZ e67 (W.2.2.2.2.2.2.2.2.2.2.2.2.2.2.2.2.2.2.2.2.2.2.2.2.2.2.2.2.2.2.2.2.2.2.2.2.2.2.2.2.2.2.2.2.2.2.2.2.2.2.2.2.2.2.2.2.2.2.2.2.2.2.2.2.2.2.2.ext O0.2) rfl d2_16 rfl (by decide) rfl ?_
  refine own_astore 19 #[oI x0, oA w_ALL, oI (22 : Int32), oI (10 : Int32), oA w_ACQUIRE] X67 hx hby d2_17 rfl rfl rfl ?_
  refine own_aload 21 X67 hx hby d2_19 rfl rfl rfl ?_
  refine own_getF 24 X67 hx hby hZ hown (own_w hw 11 rfl) e67 (W.2.2.2.2.2.2.2.2.2.2.2.2.2.2.2.2.2.2.2.2.2.2.2.2.2.2.2.2.2.2.2.2.2.2.2.2.2.2.2.2.2.2.2.2.2.2.2.2.2.2.2.2.2.2.2.1.ext O0.2) d2_21 rfl ?_
  intro T69 X69 e69
  refine own_iload_n 25 X69 hx hby d2_24 rfl rfl ?_
  refine own_icY 31 X69 hx hby d2_25 (by decide) (by decide) (feq hc70).2 ?_
  refine own_iinc 34 #[oI x0, oA w_ALL, oI (22 : Int32), oI (11 : Int32), oA w_ACQUIRE] X69 hx hby d2_31 rfl rfl rfl ?_
  refine own_goto 9 X69 hx hby d2_34 (by decide) (by decide) ?_
  refine own_iload_n 10 X69 hx hby d2_9 rfl rfl ?_
  refine own_iload_n 11 X69 hx hby d2_10 rfl rfl ?_
  refine own_icN 14 X69 hx hby d2_11 rfl (by decide) ?_
  refine own_aload_n 15 X69 hx hby d2_14 rfl rfl rfl ?_
  refine own_iload_n 16 X69 hx hby d2_15 rfl rfl ?_
  refine own_aaload 17 (.ref w_RETIRE) X69 hx hby hZ e69 (W.2.2.2.2.2.2.2.2.2.2.2.2.2.2.2.2.2.2.2.2.2.2.2.2.2.2.2.2.2.2.2.2.2.2.2.2.2.2.2.2.2.2.2.2.2.2.2.2.2.2.2.2.2.2.2.2.2.2.2.2.2.2.2.2.2.2.2.ext O0.2) rfl d2_16 rfl (by decide) rfl ?_
  refine own_astore 19 #[oI x0, oA w_ALL, oI (22 : Int32), oI (11 : Int32), oA w_RETIRE] X69 hx hby d2_17 rfl rfl rfl ?_
  refine own_aload 21 X69 hx hby d2_19 rfl rfl rfl ?_
  refine own_getF 24 X69 hx hby hZ hown (own_w hw 11 rfl) e69 (W.2.2.2.2.2.2.2.2.2.2.2.2.2.2.2.2.2.2.2.2.2.2.2.2.2.2.2.2.2.2.2.2.2.2.2.2.2.2.2.2.2.2.2.2.2.2.2.2.2.2.2.2.2.2.2.2.1.ext O0.2) d2_21 rfl ?_
  intro T71 X71 e71
  refine own_iload_n 25 X71 hx hby d2_24 rfl rfl ?_
  refine own_icY 31 X71 hx hby d2_25 (by decide) (by decide) (feq hc72).2 ?_
  refine own_iinc 34 #[oI x0, oA w_ALL, oI (22 : Int32), oI (12 : Int32), oA w_RETIRE] X71 hx hby d2_31 rfl rfl rfl ?_
  refine own_goto 9 X71 hx hby d2_34 (by decide) (by decide) ?_
  refine own_iload_n 10 X71 hx hby d2_9 rfl rfl ?_
  refine own_iload_n 11 X71 hx hby d2_10 rfl rfl ?_
  refine own_icN 14 X71 hx hby d2_11 rfl (by decide) ?_
  refine own_aload_n 15 X71 hx hby d2_14 rfl rfl rfl ?_
  refine own_iload_n 16 X71 hx hby d2_15 rfl rfl ?_
  refine own_aaload 17 (.ref w_RESULT) X71 hx hby hZ e71 (W.2.2.2.2.2.2.2.2.2.2.2.2.2.2.2.2.2.2.2.2.2.2.2.2.2.2.2.2.2.2.2.2.2.2.2.2.2.2.2.2.2.2.2.2.2.2.2.2.2.2.2.2.2.2.2.2.2.2.2.2.2.2.2.2.2.2.2.ext O0.2) rfl d2_16 rfl (by decide) rfl ?_
  refine own_astore 19 #[oI x0, oA w_ALL, oI (22 : Int32), oI (12 : Int32), oA w_RESULT] X71 hx hby d2_17 rfl rfl rfl ?_
  refine own_aload 21 X71 hx hby d2_19 rfl rfl rfl ?_
  refine own_getF 24 X71 hx hby hZ hown (own_w hw 11 rfl) e71 (W.2.2.2.2.2.2.2.2.2.2.2.2.2.2.2.2.2.2.2.2.2.2.2.2.2.2.2.2.2.2.2.2.2.2.2.2.2.2.2.2.2.2.2.2.2.2.2.2.2.2.2.2.2.2.2.2.2.1.ext O0.2) d2_21 rfl ?_
  intro T73 X73 e73
  refine own_iload_n 25 X73 hx hby d2_24 rfl rfl ?_
  refine own_icY 31 X73 hx hby d2_25 (by decide) (by decide) (feq hc74).2 ?_
  refine own_iinc 34 #[oI x0, oA w_ALL, oI (22 : Int32), oI (13 : Int32), oA w_RESULT] X73 hx hby d2_31 rfl rfl rfl ?_
  refine own_goto 9 X73 hx hby d2_34 (by decide) (by decide) ?_
  refine own_iload_n 10 X73 hx hby d2_9 rfl rfl ?_
  refine own_iload_n 11 X73 hx hby d2_10 rfl rfl ?_
  refine own_icN 14 X73 hx hby d2_11 rfl (by decide) ?_
  refine own_aload_n 15 X73 hx hby d2_14 rfl rfl rfl ?_
  refine own_iload_n 16 X73 hx hby d2_15 rfl rfl ?_
  refine own_aaload 17 (.ref w_FAILURE) X73 hx hby hZ e73 (W.2.2.2.2.2.2.2.2.2.2.2.2.2.2.2.2.2.2.2.2.2.2.2.2.2.2.2.2.2.2.2.2.2.2.2.2.2.2.2.2.2.2.2.2.2.2.2.2.2.2.2.2.2.2.2.2.2.2.2.2.2.2.2.2.2.2.2.ext O0.2) rfl d2_16 rfl (by decide) rfl ?_
  refine own_astore 19 #[oI x0, oA w_ALL, oI (22 : Int32), oI (13 : Int32), oA w_FAILURE] X73 hx hby d2_17 rfl rfl rfl ?_
  refine own_aload 21 X73 hx hby d2_19 rfl rfl rfl ?_
  refine own_getF 24 X73 hx hby hZ hown (own_w hw 11 rfl) e73 (W.2.2.2.2.2.2.2.2.2.2.2.2.2.2.2.2.2.2.2.2.2.2.2.2.2.2.2.2.2.2.2.2.2.2.2.2.2.2.2.2.2.2.2.2.2.2.2.2.2.2.2.2.2.2.2.2.2.2.1.ext O0.2) d2_21 rfl ?_
  intro T75 X75 e75
  refine own_iload_n 25 X75 hx hby d2_24 rfl rfl ?_
  refine own_icY 31 X75 hx hby d2_25 (by decide) (by decide) (feq hc76).2 ?_
  refine own_iinc 34 #[oI x0, oA w_ALL, oI (22 : Int32), oI (14 : Int32), oA w_FAILURE] X75 hx hby d2_31 rfl rfl rfl ?_
  refine own_goto 9 X75 hx hby d2_34 (by decide) (by decide) ?_
  refine own_iload_n 10 X75 hx hby d2_9 rfl rfl ?_
  refine own_iload_n 11 X75 hx hby d2_10 rfl rfl ?_
  refine own_icN 14 X75 hx hby d2_11 rfl (by decide) ?_
  refine own_aload_n 15 X75 hx hby d2_14 rfl rfl rfl ?_
  refine own_iload_n 16 X75 hx hby d2_15 rfl rfl ?_
  refine own_aaload 17 (.ref w_DEAD) X75 hx hby hZ e75 (W.2.2.2.2.2.2.2.2.2.2.2.2.2.2.2.2.2.2.2.2.2.2.2.2.2.2.2.2.2.2.2.2.2.2.2.2.2.2.2.2.2.2.2.2.2.2.2.2.2.2.2.2.2.2.2.2.2.2.2.2.2.2.2.2.2.2.2.ext O0.2) rfl d2_16 rfl (by decide) rfl ?_
  refine own_astore 19 #[oI x0, oA w_ALL, oI (22 : Int32), oI (14 : Int32), oA w_DEAD] X75 hx hby d2_17 rfl rfl rfl ?_
  refine own_aload 21 X75 hx hby d2_19 rfl rfl rfl ?_
  refine own_getF 24 X75 hx hby hZ hown (own_w hw 11 rfl) e75 (W.2.2.2.2.2.2.2.2.2.2.2.2.2.2.2.2.2.2.2.2.2.2.2.2.2.2.2.2.2.2.2.2.2.2.2.2.2.2.2.2.2.2.2.2.2.2.2.2.2.2.2.2.2.2.2.2.2.2.2.1.ext O0.2) d2_21 rfl ?_
  intro T77 X77 e77
  refine own_iload_n 25 X77 hx hby d2_24 rfl rfl ?_
  refine own_icY 31 X77 hx hby d2_25 (by decide) (by decide) (feq hc78).2 ?_
  refine own_iinc 34 #[oI x0, oA w_ALL, oI (22 : Int32), oI (15 : Int32), oA w_DEAD] X77 hx hby d2_31 rfl rfl rfl ?_
  refine own_goto 9 X77 hx hby d2_34 (by decide) (by decide) ?_
  refine own_iload_n 10 X77 hx hby d2_9 rfl rfl ?_
  refine own_iload_n 11 X77 hx hby d2_10 rfl rfl ?_
  refine own_icN 14 X77 hx hby d2_11 rfl (by decide) ?_
  refine own_aload_n 15 X77 hx hby d2_14 rfl rfl rfl ?_
  refine own_iload_n 16 X77 hx hby d2_15 rfl rfl ?_
  refine own_aaload 17 (.ref w_COUNT_WAITING) X77 hx hby hZ e77 (W.2.2.2.2.2.2.2.2.2.2.2.2.2.2.2.2.2.2.2.2.2.2.2.2.2.2.2.2.2.2.2.2.2.2.2.2.2.2.2.2.2.2.2.2.2.2.2.2.2.2.2.2.2.2.2.2.2.2.2.2.2.2.2.2.2.2.2.ext O0.2) rfl d2_16 rfl (by decide) rfl ?_
  refine own_astore 19 #[oI x0, oA w_ALL, oI (22 : Int32), oI (15 : Int32), oA w_COUNT_WAITING] X77 hx hby d2_17 rfl rfl rfl ?_
  refine own_aload 21 X77 hx hby d2_19 rfl rfl rfl ?_
  refine own_getF 24 X77 hx hby hZ hown (own_w hw 11 rfl) e77 (W.2.2.2.2.2.2.2.2.2.2.2.2.2.2.2.2.2.2.2.2.2.2.2.2.2.2.2.2.2.2.2.2.2.2.2.2.2.2.2.2.2.2.2.2.2.2.2.2.2.2.2.2.2.2.2.2.2.2.2.2.1.ext O0.2) d2_21 rfl ?_
  intro T79 X79 e79
  refine own_iload_n 25 X79 hx hby d2_24 rfl rfl ?_
  refine own_icY 31 X79 hx hby d2_25 (by decide) (by decide) (feq hc80).2 ?_
  refine own_iinc 34 #[oI x0, oA w_ALL, oI (22 : Int32), oI (16 : Int32), oA w_COUNT_WAITING] X79 hx hby d2_31 rfl rfl rfl ?_
  refine own_goto 9 X79 hx hby d2_34 (by decide) (by decide) ?_
  refine own_iload_n 10 X79 hx hby d2_9 rfl rfl ?_
  refine own_iload_n 11 X79 hx hby d2_10 rfl rfl ?_
  refine own_icN 14 X79 hx hby d2_11 rfl (by decide) ?_
  refine own_aload_n 15 X79 hx hby d2_14 rfl rfl rfl ?_
  refine own_iload_n 16 X79 hx hby d2_15 rfl rfl ?_
  refine own_aaload 17 (.ref w_CLOSING) X79 hx hby hZ e79 (W.2.2.2.2.2.2.2.2.2.2.2.2.2.2.2.2.2.2.2.2.2.2.2.2.2.2.2.2.2.2.2.2.2.2.2.2.2.2.2.2.2.2.2.2.2.2.2.2.2.2.2.2.2.2.2.2.2.2.2.2.2.2.2.2.2.2.2.ext O0.2) rfl d2_16 rfl (by decide) rfl ?_
  refine own_astore 19 #[oI x0, oA w_ALL, oI (22 : Int32), oI (16 : Int32), oA w_CLOSING] X79 hx hby d2_17 rfl rfl rfl ?_
  refine own_aload 21 X79 hx hby d2_19 rfl rfl rfl ?_
  refine own_getF 24 X79 hx hby hZ hown (own_w hw 11 rfl) e79 (W.2.2.2.2.2.2.2.2.2.2.2.2.2.2.2.2.2.2.2.2.2.2.2.2.2.2.2.2.2.2.2.2.2.2.2.2.2.2.2.2.2.2.2.2.2.2.2.2.2.2.2.2.2.2.2.2.2.2.2.2.2.1.ext O0.2) d2_21 rfl ?_
  intro T81 X81 e81
  refine own_iload_n 25 X81 hx hby d2_24 rfl rfl ?_
  refine own_icY 31 X81 hx hby d2_25 (by decide) (by decide) (feq hc82).2 ?_
  refine own_iinc 34 #[oI x0, oA w_ALL, oI (22 : Int32), oI (17 : Int32), oA w_CLOSING] X81 hx hby d2_31 rfl rfl rfl ?_
  refine own_goto 9 X81 hx hby d2_34 (by decide) (by decide) ?_
  refine own_iload_n 10 X81 hx hby d2_9 rfl rfl ?_
  refine own_iload_n 11 X81 hx hby d2_10 rfl rfl ?_
  refine own_icN 14 X81 hx hby d2_11 rfl (by decide) ?_
  refine own_aload_n 15 X81 hx hby d2_14 rfl rfl rfl ?_
  refine own_iload_n 16 X81 hx hby d2_15 rfl rfl ?_
  refine own_aaload 17 (.ref w_UNHELD) X81 hx hby hZ e81 (W.2.2.2.2.2.2.2.2.2.2.2.2.2.2.2.2.2.2.2.2.2.2.2.2.2.2.2.2.2.2.2.2.2.2.2.2.2.2.2.2.2.2.2.2.2.2.2.2.2.2.2.2.2.2.2.2.2.2.2.2.2.2.2.2.2.2.2.ext O0.2) rfl d2_16 rfl (by decide) rfl ?_
  refine own_astore 19 #[oI x0, oA w_ALL, oI (22 : Int32), oI (17 : Int32), oA w_UNHELD] X81 hx hby d2_17 rfl rfl rfl ?_
  refine own_aload 21 X81 hx hby d2_19 rfl rfl rfl ?_
  refine own_getF 24 X81 hx hby hZ hown (own_w hw 11 rfl) e81 (W.2.2.2.2.2.2.2.2.2.2.2.2.2.2.2.2.2.2.2.2.2.2.2.2.2.2.2.2.2.2.2.2.2.2.2.2.2.2.2.2.2.2.2.2.2.2.2.2.2.2.2.2.2.2.2.2.2.2.2.2.2.2.1.ext O0.2) d2_21 rfl ?_
  intro T83 X83 e83
  refine own_iload_n 25 X83 hx hby d2_24 rfl rfl ?_
  refine own_icY 31 X83 hx hby d2_25 (by decide) (by decide) (feq hc84).2 ?_
  refine own_iinc 34 #[oI x0, oA w_ALL, oI (22 : Int32), oI (18 : Int32), oA w_UNHELD] X83 hx hby d2_31 rfl rfl rfl ?_
  refine own_goto 9 X83 hx hby d2_34 (by decide) (by decide) ?_
  refine own_iload_n 10 X83 hx hby d2_9 rfl rfl ?_
  refine own_iload_n 11 X83 hx hby d2_10 rfl rfl ?_
  refine own_icN 14 X83 hx hby d2_11 rfl (by decide) ?_
  refine own_aload_n 15 X83 hx hby d2_14 rfl rfl rfl ?_
  refine own_iload_n 16 X83 hx hby d2_15 rfl rfl ?_
  refine own_aaload 17 (.ref w_OPEN) X83 hx hby hZ e83 (W.2.2.2.2.2.2.2.2.2.2.2.2.2.2.2.2.2.2.2.2.2.2.2.2.2.2.2.2.2.2.2.2.2.2.2.2.2.2.2.2.2.2.2.2.2.2.2.2.2.2.2.2.2.2.2.2.2.2.2.2.2.2.2.2.2.2.2.ext O0.2) rfl d2_16 rfl (by decide) rfl ?_
  refine own_astore 19 #[oI x0, oA w_ALL, oI (22 : Int32), oI (18 : Int32), oA w_OPEN] X83 hx hby d2_17 rfl rfl rfl ?_
  refine own_aload 21 X83 hx hby d2_19 rfl rfl rfl ?_
  refine own_getF 24 X83 hx hby hZ hown (own_w hw 11 rfl) e83 (W.2.2.2.2.2.2.2.2.2.2.2.2.2.2.2.2.2.2.2.2.2.2.2.2.2.2.2.2.2.2.2.2.2.2.2.2.2.2.2.2.2.2.2.2.2.2.2.2.2.2.2.2.2.2.2.2.2.2.2.2.2.2.2.1.ext O0.2) d2_21 rfl ?_
  intro T85 X85 e85
  refine own_iload_n 25 X85 hx hby d2_24 rfl rfl ?_
  refine own_icY 31 X85 hx hby d2_25 (by decide) (by decide) (feq hc86).2 ?_
  refine own_iinc 34 #[oI x0, oA w_ALL, oI (22 : Int32), oI (19 : Int32), oA w_OPEN] X85 hx hby d2_31 rfl rfl rfl ?_
  refine own_goto 9 X85 hx hby d2_34 (by decide) (by decide) ?_
  refine own_iload_n 10 X85 hx hby d2_9 rfl rfl ?_
  refine own_iload_n 11 X85 hx hby d2_10 rfl rfl ?_
  refine own_icN 14 X85 hx hby d2_11 rfl (by decide) ?_
  refine own_aload_n 15 X85 hx hby d2_14 rfl rfl rfl ?_
  refine own_iload_n 16 X85 hx hby d2_15 rfl rfl ?_
  refine own_aaload 17 (.ref w_TRANSACTION) X85 hx hby hZ e85 (W.2.2.2.2.2.2.2.2.2.2.2.2.2.2.2.2.2.2.2.2.2.2.2.2.2.2.2.2.2.2.2.2.2.2.2.2.2.2.2.2.2.2.2.2.2.2.2.2.2.2.2.2.2.2.2.2.2.2.2.2.2.2.2.2.2.2.2.ext O0.2) rfl d2_16 rfl (by decide) rfl ?_
  refine own_astore 19 #[oI x0, oA w_ALL, oI (22 : Int32), oI (19 : Int32), oA w_TRANSACTION] X85 hx hby d2_17 rfl rfl rfl ?_
  refine own_aload 21 X85 hx hby d2_19 rfl rfl rfl ?_
  refine own_getF 24 X85 hx hby hZ hown (own_w hw 11 rfl) e85 (W.2.2.2.2.2.2.2.2.2.2.2.2.2.2.2.2.2.2.2.2.2.2.2.2.2.2.2.2.2.2.2.2.2.2.2.2.2.2.2.2.2.2.2.2.2.2.2.2.2.2.2.2.2.2.2.2.2.2.2.2.2.2.2.2.1.ext O0.2) d2_21 rfl ?_
  intro T87 X87 e87
  refine own_iload_n 25 X87 hx hby d2_24 rfl rfl ?_
  refine own_icY 31 X87 hx hby d2_25 (by decide) (by decide) (feq hc88).2 ?_
  refine own_iinc 34 #[oI x0, oA w_ALL, oI (22 : Int32), oI (20 : Int32), oA w_TRANSACTION] X87 hx hby d2_31 rfl rfl rfl ?_
  refine own_goto 9 X87 hx hby d2_34 (by decide) (by decide) ?_
  refine own_iload_n 10 X87 hx hby d2_9 rfl rfl ?_
  refine own_iload_n 11 X87 hx hby d2_10 rfl rfl ?_
  refine own_icN 14 X87 hx hby d2_11 rfl (by decide) ?_
  refine own_aload_n 15 X87 hx hby d2_14 rfl rfl rfl ?_
  refine own_iload_n 16 X87 hx hby d2_15 rfl rfl ?_
  refine own_aaload 17 (.ref w_REPLY) X87 hx hby hZ e87 (W.2.2.2.2.2.2.2.2.2.2.2.2.2.2.2.2.2.2.2.2.2.2.2.2.2.2.2.2.2.2.2.2.2.2.2.2.2.2.2.2.2.2.2.2.2.2.2.2.2.2.2.2.2.2.2.2.2.2.2.2.2.2.2.2.2.2.2.ext O0.2) rfl d2_16 rfl (by decide) rfl ?_
  refine own_astore 19 #[oI x0, oA w_ALL, oI (22 : Int32), oI (20 : Int32), oA w_REPLY] X87 hx hby d2_17 rfl rfl rfl ?_
  refine own_aload 21 X87 hx hby d2_19 rfl rfl rfl ?_
  refine own_getF 24 X87 hx hby hZ hown (own_w hw 11 rfl) e87 (W.2.2.2.2.2.2.2.2.2.2.2.2.2.2.2.2.2.2.2.2.2.2.2.2.2.2.2.2.2.2.2.2.2.2.2.2.2.2.2.2.2.2.2.2.2.2.2.2.2.2.2.2.2.2.2.2.2.2.2.2.2.2.2.2.2.1.ext O0.2) d2_21 rfl ?_
  intro T89 X89 e89
  refine own_iload_n 25 X89 hx hby d2_24 rfl rfl ?_
  refine own_icN 28 X89 hx hby d2_25 rfl (teq hc90).2 ?_
  refine own_aload 30 X89 hx hby d2_28 rfl rfl rfl ?_
  exact own_ret (Q := own_Q _ n0 h0) X89 hx hby hret hlk d2_30 rfl (Or.inr (Or.inr (Or.inr (Or.inr ⟨rfl, rfl, rfl⟩)))) (by decide) (by decide) ⟨rfl, N0, e89⟩
set_option maxRecDepth 65536 in
set_option maxHeartbeats 40000000 in
theorem rm2_22 (l : Launch) (Z : State) (a0 : Array Value) (hw : ∀ d ∈ tables_1, d.before a0 Z = true) (ws : List Jvm.Cond) (w_HELLO w_ADD_SERVICE w_GET_SERVICE w_LIST_SERVICES w_TRANSLATE w_RESOLVE w_RELEASE w_STATUS w_WAITING w_WATCH w_ACQUIRE w_RETIRE w_RESULT w_FAILURE w_DEAD w_COUNT_WAITING w_CLOSING w_UNHELD w_OPEN w_TRANSACTION w_REPLY w_KNOCK w_ALL k_ALL : Addr) (W : own_W Z w_HELLO w_ADD_SERVICE w_GET_SERVICE w_LIST_SERVICES w_TRANSLATE w_RESOLVE w_RELEASE w_STATUS w_WAITING w_WATCH w_ACQUIRE w_RETIRE w_RESULT w_FAILURE w_DEAD w_COUNT_WAITING w_CLOSING w_UNHELD w_OPEN w_TRANSACTION w_REPLY w_KNOCK w_ALL k_ALL) (x0 : Int32) (h0 : Heap) (n0 : Nat) (O0 : Old Z n0 h0) (hc50 : ¬ ((1 : Int32) = x0)) (hc52 : ¬ ((2 : Int32) = x0)) (hc54 : ¬ ((3 : Int32) = x0)) (hc56 : ¬ ((4 : Int32) = x0)) (hc58 : ¬ ((5 : Int32) = x0)) (hc60 : ¬ ((6 : Int32) = x0)) (hc62 : ¬ ((7 : Int32) = x0)) (hc64 : ¬ ((8 : Int32) = x0)) (hc66 : ¬ ((9 : Int32) = x0)) (hc68 : ¬ ((10 : Int32) = x0)) (hc70 : ¬ ((11 : Int32) = x0)) (hc72 : ¬ ((12 : Int32) = x0)) (hc74 : ¬ ((16 : Int32) = x0)) (hc76 : ¬ ((17 : Int32) = x0)) (hc78 : ¬ ((18 : Int32) = x0)) (hc80 : ¬ ((19 : Int32) = x0)) (hc82 : ¬ ((20 : Int32) = x0)) (hc84 : ¬ ((21 : Int32) = x0)) (hc86 : ¬ ((32 : Int32) = x0)) (hc88 : ¬ ((33 : Int32) = x0)) (hc90 : ¬ ((34 : Int32) = x0)) (hc92 : (35 : Int32) = x0) :
    MetFree l (⟨"com/example/hop1/hop1/protocol/FrameKind", "of", "(I)Lcom/example/hop1/hop1/protocol/FrameKind;"⟩ : MethodName) (head1 (Jvm.Cond.code (⟨"com/example/hop1/hop1/protocol/FrameKind", "of", "(I)Lcom/example/hop1/hop1/protocol/FrameKind;"⟩ : MethodName) prog_113_method_5_code 5 (some (.object "com/example/hop1/hop1/protocol/FrameKind")) :: ws) ({ frames := 0, cells := 0, slots := 0, locals := 0 } : Room)) (fun a U => a = #[(.int x0)] ∧ Z.Warmed39 U.vm ∧ U.heap = h0) (fun _ _ _ _ _ => True) (fun _ U o U' => ∃ v L, o = .returned v ∧ own_Q (some (.ref w_KNOCK)) n0 h0 v U'.heap L ∧ FrameEnd U o U' L ({ frames := 0, cells := 0, slots := 0, locals := 0 } : Room).cells ({ frames := 0, cells := 0, slots := 0, locals := 0 } : Room).slots) := by
  refine MetFree.of_bodySF (plainFor_of_name pn_1) hisR ?_
  intro p e s m args below meth c s₁ Bd hml0 hP hK
  obtain ⟨rfl, hZ, hh⟩ := hP
  have hx := Bd.exec
  have hby := Bd.bytes
  have hml : c.maxLocals = 5 := hml0
  have hlk := BodyLoose.notSynchronized Bd
  have hret := Bd.returns
  have hown : s.vm.findClass "com/example/hop1/hop1/protocol/FrameKind" = some m.cls := findClass_of_methodNamed Bd.named
  have hnm := (name_of_methodNamed Bd.named Bd.method).1
  have X0 : Stand p l e ({ frames := 0, cells := 0, slots := 0, locals := 0 } : Room) s m #[(.int x0)] below meth c s₁ [] 0 0 := Stand.of_body Bd
  have e0 : s₁.heap = h0 := by rw [← hh, Bd.state]; rfl
  have N0 := Fr.nil n0
  rw [ef_2 m x0]
  show Go p e below _ (s₁.setTop (mkF m 0 #[oI x0, oU, oU, oU, oU] []))
  refine own_getS 3 X0 hx hby hZ hown (own_w hw 8 rfl) e0 (W.2.2.2.2.2.2.2.2.2.2.2.2.2.2.2.2.2.2.2.2.2.2.2.2.2.2.2.2.2.2.2.2.2.2.2.2.2.2.2.2.2.2.2.2.1.ext O0.2) d2_0 rfl ?_
  intro T48 X48 e48
  refine own_astore_n 4 #[oI x0, oA w_ALL, oU, oU, oU] X48 hx hby d2_3 rfl rfl rfl ?_
  refine own_aload_n 5 X48 hx hby d2_4 rfl rfl rfl ?_
  refine own_len 6 X48 hx hby hZ e48 (W.2.2.2.2.2.2.2.2.2.2.2.2.2.2.2.2.2.2.2.2.2.2.2.2.2.2.2.2.2.2.2.2.2.2.2.2.2.2.2.2.2.2.2.2.2.2.2.2.2.2.2.2.2.2.2.2.2.2.2.2.2.2.2.2.2.2.2.ext O0.2) d2_5 rfl ?_
  refine own_istore_n 7 #[oI x0, oA w_ALL, oI (22 : Int32), oU, oU] X48 hx hby d2_6 rfl rfl ?_
  refine own_iconst 8 (0 : Int32) X48 hx hby d2_7 rfl (by decide) ?_
  refine own_istore_n 9 #[oI x0, oA w_ALL, oI (22 : Int32), oI (0 : Int32), oU] X48 hx hby d2_8 rfl rfl ?_
  refine own_iload_n 10 X48 hx hby d2_9 rfl rfl ?_
  refine own_iload_n 11 X48 hx hby d2_10 rfl rfl ?_
  refine own_icN 14 X48 hx hby d2_11 rfl (by decide) ?_
  refine own_aload_n 15 X48 hx hby d2_14 rfl rfl rfl ?_
  refine own_iload_n 16 X48 hx hby d2_15 rfl rfl ?_
  refine own_aaload 17 (.ref w_HELLO) X48 hx hby hZ e48 (W.2.2.2.2.2.2.2.2.2.2.2.2.2.2.2.2.2.2.2.2.2.2.2.2.2.2.2.2.2.2.2.2.2.2.2.2.2.2.2.2.2.2.2.2.2.2.2.2.2.2.2.2.2.2.2.2.2.2.2.2.2.2.2.2.2.2.2.ext O0.2) rfl d2_16 rfl (by decide) rfl ?_
  refine own_astore 19 #[oI x0, oA w_ALL, oI (22 : Int32), oI (0 : Int32), oA w_HELLO] X48 hx hby d2_17 rfl rfl rfl ?_
  refine own_aload 21 X48 hx hby d2_19 rfl rfl rfl ?_
  refine own_getF 24 X48 hx hby hZ hown (own_w hw 11 rfl) e48 (W.2.2.2.2.2.2.2.2.2.2.2.2.2.2.2.2.2.2.2.2.2.2.2.2.2.2.2.2.2.2.2.2.2.2.2.2.2.2.2.2.2.2.2.2.2.1.ext O0.2) d2_21 rfl ?_
  intro T49 X49 e49
  refine own_iload_n 25 X49 hx hby d2_24 rfl rfl ?_
  refine own_icY 31 X49 hx hby d2_25 (by decide) (by decide) (feq hc50).2 ?_
  refine own_iinc 34 #[oI x0, oA w_ALL, oI (22 : Int32), oI (1 : Int32), oA w_HELLO] X49 hx hby d2_31 rfl rfl rfl ?_
  refine own_goto 9 X49 hx hby d2_34 (by decide) (by decide) ?_
  refine own_iload_n 10 X49 hx hby d2_9 rfl rfl ?_
  refine own_iload_n 11 X49 hx hby d2_10 rfl rfl ?_
  refine own_icN 14 X49 hx hby d2_11 rfl (by decide) ?_
  refine own_aload_n 15 X49 hx hby d2_14 rfl rfl rfl ?_
  refine own_iload_n 16 X49 hx hby d2_15 rfl rfl ?_
  refine own_aaload 17 (.ref w_ADD_SERVICE) X49 hx hby hZ e49 (W.2.2.2.2.2.2.2.2.2.2.2.2.2.2.2.2.2.2.2.2.2.2.2.2.2.2.2.2.2.2.2.2.2.2.2.2.2.2.2.2.2.2.2.2.2.2.2.2.2.2.2.2.2.2.2.2.2.2.2.2.2.2.2.2.2.2.2.ext O0.2) rfl d2_16 rfl (by decide) rfl ?_
  refine own_astore 19 #[oI x0, oA w_ALL, oI (22 : Int32), oI (1 : Int32), oA w_ADD_SERVICE] X49 hx hby d2_17 rfl rfl rfl ?_
  refine own_aload 21 X49 hx hby d2_19 rfl rfl rfl ?_
  refine own_getF 24 X49 hx hby hZ hown (own_w hw 11 rfl) e49 (W.2.2.2.2.2.2.2.2.2.2.2.2.2.2.2.2.2.2.2.2.2.2.2.2.2.2.2.2.2.2.2.2.2.2.2.2.2.2.2.2.2.2.2.2.2.2.1.ext O0.2) d2_21 rfl ?_
  intro T51 X51 e51
  refine own_iload_n 25 X51 hx hby d2_24 rfl rfl ?_
  refine own_icY 31 X51 hx hby d2_25 (by decide) (by decide) (feq hc52).2 ?_
  refine own_iinc 34 #[oI x0, oA w_ALL, oI (22 : Int32), oI (2 : Int32), oA w_ADD_SERVICE] X51 hx hby d2_31 rfl rfl rfl ?_
  refine own_goto 9 X51 hx hby d2_34 (by decide) (by decide) ?_
  refine own_iload_n 10 X51 hx hby d2_9 rfl rfl ?_
  refine own_iload_n 11 X51 hx hby d2_10 rfl rfl ?_
  refine own_icN 14 X51 hx hby d2_11 rfl (by decide) ?_
  refine own_aload_n 15 X51 hx hby d2_14 rfl rfl rfl ?_
  refine own_iload_n 16 X51 hx hby d2_15 rfl rfl ?_
  refine own_aaload 17 (.ref w_GET_SERVICE) X51 hx hby hZ e51 (W.2.2.2.2.2.2.2.2.2.2.2.2.2.2.2.2.2.2.2.2.2.2.2.2.2.2.2.2.2.2.2.2.2.2.2.2.2.2.2.2.2.2.2.2.2.2.2.2.2.2.2.2.2.2.2.2.2.2.2.2.2.2.2.2.2.2.2.ext O0.2) rfl d2_16 rfl (by decide) rfl ?_
  refine own_astore 19 #[oI x0, oA w_ALL, oI (22 : Int32), oI (2 : Int32), oA w_GET_SERVICE] X51 hx hby d2_17 rfl rfl rfl ?_
  refine own_aload 21 X51 hx hby d2_19 rfl rfl rfl ?_
  refine own_getF 24 X51 hx hby hZ hown (own_w hw 11 rfl) e51 (W.2.2.2.2.2.2.2.2.2.2.2.2.2.2.2.2.2.2.2.2.2.2.2.2.2.2.2.2.2.2.2.2.2.2.2.2.2.2.2.2.2.2.2.2.2.2.2.1.ext O0.2) d2_21 rfl ?_
  intro T53 X53 e53
  refine own_iload_n 25 X53 hx hby d2_24 rfl rfl ?_
  refine own_icY 31 X53 hx hby d2_25 (by decide) (by decide) (feq hc54).2 ?_
  refine own_iinc 34 #[oI x0, oA w_ALL, oI (22 : Int32), oI (3 : Int32), oA w_GET_SERVICE] X53 hx hby d2_31 rfl rfl rfl ?_
  refine own_goto 9 X53 hx hby d2_34 (by decide) (by decide) ?_
  refine own_iload_n 10 X53 hx hby d2_9 rfl rfl ?_
  refine own_iload_n 11 X53 hx hby d2_10 rfl rfl ?_
  refine own_icN 14 X53 hx hby d2_11 rfl (by decide) ?_
  refine own_aload_n 15 X53 hx hby d2_14 rfl rfl rfl ?_
  refine own_iload_n 16 X53 hx hby d2_15 rfl rfl ?_
  refine own_aaload 17 (.ref w_LIST_SERVICES) X53 hx hby hZ e53 (W.2.2.2.2.2.2.2.2.2.2.2.2.2.2.2.2.2.2.2.2.2.2.2.2.2.2.2.2.2.2.2.2.2.2.2.2.2.2.2.2.2.2.2.2.2.2.2.2.2.2.2.2.2.2.2.2.2.2.2.2.2.2.2.2.2.2.2.ext O0.2) rfl d2_16 rfl (by decide) rfl ?_
  refine own_astore 19 #[oI x0, oA w_ALL, oI (22 : Int32), oI (3 : Int32), oA w_LIST_SERVICES] X53 hx hby d2_17 rfl rfl rfl ?_
  refine own_aload 21 X53 hx hby d2_19 rfl rfl rfl ?_
  refine own_getF 24 X53 hx hby hZ hown (own_w hw 11 rfl) e53 (W.2.2.2.2.2.2.2.2.2.2.2.2.2.2.2.2.2.2.2.2.2.2.2.2.2.2.2.2.2.2.2.2.2.2.2.2.2.2.2.2.2.2.2.2.2.2.2.2.1.ext O0.2) d2_21 rfl ?_
  intro T55 X55 e55
  refine own_iload_n 25 X55 hx hby d2_24 rfl rfl ?_
  refine own_icY 31 X55 hx hby d2_25 (by decide) (by decide) (feq hc56).2 ?_
  refine own_iinc 34 #[oI x0, oA w_ALL, oI (22 : Int32), oI (4 : Int32), oA w_LIST_SERVICES] X55 hx hby d2_31 rfl rfl rfl ?_
  refine own_goto 9 X55 hx hby d2_34 (by decide) (by decide) ?_
  refine own_iload_n 10 X55 hx hby d2_9 rfl rfl ?_
  refine own_iload_n 11 X55 hx hby d2_10 rfl rfl ?_
  refine own_icN 14 X55 hx hby d2_11 rfl (by decide) ?_
  refine own_aload_n 15 X55 hx hby d2_14 rfl rfl rfl ?_
  refine own_iload_n 16 X55 hx hby d2_15 rfl rfl ?_
  refine own_aaload 17 (.ref w_TRANSLATE) X55 hx hby hZ e55 (W.2.2.2.2.2.2.2.2.2.2.2.2.2.2.2.2.2.2.2.2.2.2.2.2.2.2.2.2.2.2.2.2.2.2.2.2.2.2.2.2.2.2.2.2.2.2.2.2.2.2.2.2.2.2.2.2.2.2.2.2.2.2.2.2.2.2.2.ext O0.2) rfl d2_16 rfl (by decide) rfl ?_
  refine own_astore 19 #[oI x0, oA w_ALL, oI (22 : Int32), oI (4 : Int32), oA w_TRANSLATE] X55 hx hby d2_17 rfl rfl rfl ?_
  refine own_aload 21 X55 hx hby d2_19 rfl rfl rfl ?_
  refine own_getF 24 X55 hx hby hZ hown (own_w hw 11 rfl) e55 (W.2.2.2.2.2.2.2.2.2.2.2.2.2.2.2.2.2.2.2.2.2.2.2.2.2.2.2.2.2.2.2.2.2.2.2.2.2.2.2.2.2.2.2.2.2.2.2.2.2.1.ext O0.2) d2_21 rfl ?_
  intro T57 X57 e57
  refine own_iload_n 25 X57 hx hby d2_24 rfl rfl ?_
  refine own_icY 31 X57 hx hby d2_25 (by decide) (by decide) (feq hc58).2 ?_
  refine own_iinc 34 #[oI x0, oA w_ALL, oI (22 : Int32), oI (5 : Int32), oA w_TRANSLATE] X57 hx hby d2_31 rfl rfl rfl ?_
  refine own_goto 9 X57 hx hby d2_34 (by decide) (by decide) ?_
  refine own_iload_n 10 X57 hx hby d2_9 rfl rfl ?_
  refine own_iload_n 11 X57 hx hby d2_10 rfl rfl ?_
  refine own_icN 14 X57 hx hby d2_11 rfl (by decide) ?_
  refine own_aload_n 15 X57 hx hby d2_14 rfl rfl rfl ?_
  refine own_iload_n 16 X57 hx hby d2_15 rfl rfl ?_
  refine own_aaload 17 (.ref w_RESOLVE) X57 hx hby hZ e57 (W.2.2.2.2.2.2.2.2.2.2.2.2.2.2.2.2.2.2.2.2.2.2.2.2.2.2.2.2.2.2.2.2.2.2.2.2.2.2.2.2.2.2.2.2.2.2.2.2.2.2.2.2.2.2.2.2.2.2.2.2.2.2.2.2.2.2.2.ext O0.2) rfl d2_16 rfl (by decide) rfl ?_
  refine own_astore 19 #[oI x0, oA w_ALL, oI (22 : Int32), oI (5 : Int32), oA w_RESOLVE] X57 hx hby d2_17 rfl rfl rfl ?_
  refine own_aload 21 X57 hx hby d2_19 rfl rfl rfl ?_
  refine own_getF 24 X57 hx hby hZ hown (own_w hw 11 rfl) e57 (W.2.2.2.2.2.2.2.2.2.2.2.2.2.2.2.2.2.2.2.2.2.2.2.2.2.2.2.2.2.2.2.2.2.2.2.2.2.2.2.2.2.2.2.2.2.2.2.2.2.2.1.ext O0.2) d2_21 rfl ?_
  intro T59 X59 e59
  refine own_iload_n 25 X59 hx hby d2_24 rfl rfl ?_
  refine own_icY 31 X59 hx hby d2_25 (by decide) (by decide) (feq hc60).2 ?_
  refine own_iinc 34 #[oI x0, oA w_ALL, oI (22 : Int32), oI (6 : Int32), oA w_RESOLVE] X59 hx hby d2_31 rfl rfl rfl ?_
  refine own_goto 9 X59 hx hby d2_34 (by decide) (by decide) ?_
  refine own_iload_n 10 X59 hx hby d2_9 rfl rfl ?_
  refine own_iload_n 11 X59 hx hby d2_10 rfl rfl ?_
  refine own_icN 14 X59 hx hby d2_11 rfl (by decide) ?_
  refine own_aload_n 15 X59 hx hby d2_14 rfl rfl rfl ?_
  refine own_iload_n 16 X59 hx hby d2_15 rfl rfl ?_
  refine own_aaload 17 (.ref w_RELEASE) X59 hx hby hZ e59 (W.2.2.2.2.2.2.2.2.2.2.2.2.2.2.2.2.2.2.2.2.2.2.2.2.2.2.2.2.2.2.2.2.2.2.2.2.2.2.2.2.2.2.2.2.2.2.2.2.2.2.2.2.2.2.2.2.2.2.2.2.2.2.2.2.2.2.2.ext O0.2) rfl d2_16 rfl (by decide) rfl ?_
  refine own_astore 19 #[oI x0, oA w_ALL, oI (22 : Int32), oI (6 : Int32), oA w_RELEASE] X59 hx hby d2_17 rfl rfl rfl ?_
  refine own_aload 21 X59 hx hby d2_19 rfl rfl rfl ?_
  refine own_getF 24 X59 hx hby hZ hown (own_w hw 11 rfl) e59 (W.2.2.2.2.2.2.2.2.2.2.2.2.2.2.2.2.2.2.2.2.2.2.2.2.2.2.2.2.2.2.2.2.2.2.2.2.2.2.2.2.2.2.2.2.2.2.2.2.2.2.2.1.ext O0.2) d2_21 rfl ?_
  intro T61 X61 e61
  refine own_iload_n 25 X61 hx hby d2_24 rfl rfl ?_
  refine own_icY 31 X61 hx hby d2_25 (by decide) (by decide) (feq hc62).2 ?_
  refine own_iinc 34 #[oI x0, oA w_ALL, oI (22 : Int32), oI (7 : Int32), oA w_RELEASE] X61 hx hby d2_31 rfl rfl rfl ?_
  refine own_goto 9 X61 hx hby d2_34 (by decide) (by decide) ?_
  refine own_iload_n 10 X61 hx hby d2_9 rfl rfl ?_
  refine own_iload_n 11 X61 hx hby d2_10 rfl rfl ?_
  refine own_icN 14 X61 hx hby d2_11 rfl (by decide) ?_
  refine own_aload_n 15 X61 hx hby d2_14 rfl rfl rfl ?_
  refine own_iload_n 16 X61 hx hby d2_15 rfl rfl ?_
  refine own_aaload 17 (.ref w_STATUS) X61 hx hby hZ e61 (W.2.2.2.2.2.2.2.2.2.2.2.2.2.2.2.2.2.2.2.2.2.2.2.2.2.2.2.2.2.2.2.2.2.2.2.2.2.2.2.2.2.2.2.2.2.2.2.2.2.2.2.2.2.2.2.2.2.2.2.2.2.2.2.2.2.2.2.ext O0.2) rfl d2_16 rfl (by decide) rfl ?_
  refine own_astore 19 #[oI x0, oA w_ALL, oI (22 : Int32), oI (7 : Int32), oA w_STATUS] X61 hx hby d2_17 rfl rfl rfl ?_
  refine own_aload 21 X61 hx hby d2_19 rfl rfl rfl ?_
  refine own_getF 24 X61 hx hby hZ hown (own_w hw 11 rfl) e61 (W.2.2.2.2.2.2.2.2.2.2.2.2.2.2.2.2.2.2.2.2.2.2.2.2.2.2.2.2.2.2.2.2.2.2.2.2.2.2.2.2.2.2.2.2.2.2.2.2.2.2.2.2.1.ext O0.2) d2_21 rfl ?_
  intro T63 X63 e63
  refine own_iload_n 25 X63 hx hby d2_24 rfl rfl ?_
  refine own_icY 31 X63 hx hby d2_25 (by decide) (by decide) (feq hc64).2 ?_
  refine own_iinc 34 #[oI x0, oA w_ALL, oI (22 : Int32), oI (8 : Int32), oA w_STATUS] X63 hx hby d2_31 rfl rfl rfl ?_
  refine own_goto 9 X63 hx hby d2_34 (by decide) (by decide) ?_
  refine own_iload_n 10 X63 hx hby d2_9 rfl rfl ?_
  refine own_iload_n 11 X63 hx hby d2_10 rfl rfl ?_
  refine own_icN 14 X63 hx hby d2_11 rfl (by decide) ?_
  refine own_aload_n 15 X63 hx hby d2_14 rfl rfl rfl ?_
  refine own_iload_n 16 X63 hx hby d2_15 rfl rfl ?_
  refine own_aaload 17 (.ref w_WAITING) X63 hx hby hZ e63 (W.2.2.2.2.2.2.2.2.2.2.2.2.2.2.2.2.2.2.2.2.2.2.2.2.2.2.2.2.2.2.2.2.2.2.2.2.2.2.2.2.2.2.2.2.2.2.2.2.2.2.2.2.2.2.2.2.2.2.2.2.2.2.2.2.2.2.2.ext O0.2) rfl d2_16 rfl (by decide) rfl ?_
  refine own_astore 19 #[oI x0, oA w_ALL, oI (22 : Int32), oI (8 : Int32), oA w_WAITING] X63 hx hby d2_17 rfl rfl rfl ?_
  refine own_aload 21 X63 hx hby d2_19 rfl rfl rfl ?_
  refine own_getF 24 X63 hx hby hZ hown (own_w hw 11 rfl) e63 (W.2.2.2.2.2.2.2.2.2.2.2.2.2.2.2.2.2.2.2.2.2.2.2.2.2.2.2.2.2.2.2.2.2.2.2.2.2.2.2.2.2.2.2.2.2.2.2.2.2.2.2.2.2.1.ext O0.2) d2_21 rfl ?_
  intro T65 X65 e65
  refine own_iload_n 25 X65 hx hby d2_24 rfl rfl ?_
  refine own_icY 31 X65 hx hby d2_25 (by decide) (by decide) (feq hc66).2 ?_
  refine own_iinc 34 #[oI x0, oA w_ALL, oI (22 : Int32), oI (9 : Int32), oA w_WAITING] X65 hx hby d2_31 rfl rfl rfl ?_
  refine own_goto 9 X65 hx hby d2_34 (by decide) (by decide) ?_
  refine own_iload_n 10 X65 hx hby d2_9 rfl rfl ?_
  refine own_iload_n 11 X65 hx hby d2_10 rfl rfl ?_
  refine own_icN 14 X65 hx hby d2_11 rfl (by decide) ?_
  refine own_aload_n 15 X65 hx hby d2_14 rfl rfl rfl ?_
  refine own_iload_n 16 X65 hx hby d2_15 rfl rfl ?_
  refine own_aaload 17 (.ref w_WATCH) X65 hx hby hZ e65 (W.2.2.2.2.2.2.2.2.2.2.2.2.2.2.2.2.2.2.2.2.2.2.2.2.2.2.2.2.2.2.2.2.2.2.2.2.2.2.2.2.2.2.2.2.2.2.2.2.2.2.2.2.2.2.2.2.2.2.2.2.2.2.2.2.2.2.2.ext O0.2) rfl d2_16 rfl (by decide) rfl ?_
  refine own_astore 19 #[oI x0, oA w_ALL, oI (22 : Int32), oI (9 : Int32), oA w_WATCH] X65 hx hby d2_17 rfl rfl rfl ?_
  refine own_aload 21 X65 hx hby d2_19 rfl rfl rfl ?_
  refine own_getF 24 X65 hx hby hZ hown (own_w hw 11 rfl) e65 (W.2.2.2.2.2.2.2.2.2.2.2.2.2.2.2.2.2.2.2.2.2.2.2.2.2.2.2.2.2.2.2.2.2.2.2.2.2.2.2.2.2.2.2.2.2.2.2.2.2.2.2.2.2.2.1.ext O0.2) d2_21 rfl ?_
  intro T67 X67 e67
  refine own_iload_n 25 X67 hx hby d2_24 rfl rfl ?_
  refine own_icY 31 X67 hx hby d2_25 (by decide) (by decide) (feq hc68).2 ?_
  refine own_iinc 34 #[oI x0, oA w_ALL, oI (22 : Int32), oI (10 : Int32), oA w_WATCH] X67 hx hby d2_31 rfl rfl rfl ?_
  refine own_goto 9 X67 hx hby d2_34 (by decide) (by decide) ?_
  refine own_iload_n 10 X67 hx hby d2_9 rfl rfl ?_
  refine own_iload_n 11 X67 hx hby d2_10 rfl rfl ?_
  refine own_icN 14 X67 hx hby d2_11 rfl (by decide) ?_
  refine own_aload_n 15 X67 hx hby d2_14 rfl rfl rfl ?_
  refine own_iload_n 16 X67 hx hby d2_15 rfl rfl ?_
  refine own_aaload 17 (.ref w_ACQUIRE) X67 hx hby hZ e67 (W.2.2.2.2.2.2.2.2.2.2.2.2.2.2.2.2.2.2.2.2.2.2.2.2.2.2.2.2.2.2.2.2.2.2.2.2.2.2.2.2.2.2.2.2.2.2.2.2.2.2.2.2.2.2.2.2.2.2.2.2.2.2.2.2.2.2.2.ext O0.2) rfl d2_16 rfl (by decide) rfl ?_
  refine own_astore 19 #[oI x0, oA w_ALL, oI (22 : Int32), oI (10 : Int32), oA w_ACQUIRE] X67 hx hby d2_17 rfl rfl rfl ?_
  refine own_aload 21 X67 hx hby d2_19 rfl rfl rfl ?_
  refine own_getF 24 X67 hx hby hZ hown (own_w hw 11 rfl) e67 (W.2.2.2.2.2.2.2.2.2.2.2.2.2.2.2.2.2.2.2.2.2.2.2.2.2.2.2.2.2.2.2.2.2.2.2.2.2.2.2.2.2.2.2.2.2.2.2.2.2.2.2.2.2.2.2.1.ext O0.2) d2_21 rfl ?_
  intro T69 X69 e69
  refine own_iload_n 25 X69 hx hby d2_24 rfl rfl ?_
  refine own_icY 31 X69 hx hby d2_25 (by decide) (by decide) (feq hc70).2 ?_
  refine own_iinc 34 #[oI x0, oA w_ALL, oI (22 : Int32), oI (11 : Int32), oA w_ACQUIRE] X69 hx hby d2_31 rfl rfl rfl ?_
  refine own_goto 9 X69 hx hby d2_34 (by decide) (by decide) ?_
  refine own_iload_n 10 X69 hx hby d2_9 rfl rfl ?_
  refine own_iload_n 11 X69 hx hby d2_10 rfl rfl ?_
  refine own_icN 14 X69 hx hby d2_11 rfl (by decide) ?_
  refine own_aload_n 15 X69 hx hby d2_14 rfl rfl rfl ?_
  refine own_iload_n 16 X69 hx hby d2_15 rfl rfl ?_
  refine own_aaload 17 (.ref w_RETIRE) X69 hx hby hZ e69 (W.2.2.2.2.2.2.2.2.2.2.2.2.2.2.2.2.2.2.2.2.2.2.2.2.2.2.2.2.2.2.2.2.2.2.2.2.2.2.2.2.2.2.2.2.2.2.2.2.2.2.2.2.2.2.2.2.2.2.2.2.2.2.2.2.2.2.2.ext O0.2) rfl d2_16 rfl (by decide) rfl ?_
  refine own_astore 19 #[oI x0, oA w_ALL, oI (22 : Int32), oI (11 : Int32), oA w_RETIRE] X69 hx hby d2_17 rfl rfl rfl ?_
  refine own_aload 21 X69 hx hby d2_19 rfl rfl rfl ?_
  refine own_getF 24 X69 hx hby hZ hown (own_w hw 11 rfl) e69 (W.2.2.2.2.2.2.2.2.2.2.2.2.2.2.2.2.2.2.2.2.2.2.2.2.2.2.2.2.2.2.2.2.2.2.2.2.2.2.2.2.2.2.2.2.2.2.2.2.2.2.2.2.2.2.2.2.1.ext O0.2) d2_21 rfl ?_
  intro T71 X71 e71
  refine own_iload_n 25 X71 hx hby d2_24 rfl rfl ?_
  refine own_icY 31 X71 hx hby d2_25 (by decide) (by decide) (feq hc72).2 ?_
  refine own_iinc 34 #[oI x0, oA w_ALL, oI (22 : Int32), oI (12 : Int32), oA w_RETIRE] X71 hx hby d2_31 rfl rfl rfl ?_
  refine own_goto 9 X71 hx hby d2_34 (by decide) (by decide) ?_
  refine own_iload_n 10 X71 hx hby d2_9 rfl rfl ?_
  refine own_iload_n 11 X71 hx hby d2_10 rfl rfl ?_
  refine own_icN 14 X71 hx hby d2_11 rfl (by decide) ?_
  refine own_aload_n 15 X71 hx hby d2_14 rfl rfl rfl ?_
  refine own_iload_n 16 X71 hx hby d2_15 rfl rfl ?_
  refine own_aaload 17 (.ref w_RESULT) X71 hx hby hZ e71 (W.2.2.2.2.2.2.2.2.2.2.2.2.2.2.2.2.2.2.2.2.2.2.2.2.2.2.2.2.2.2.2.2.2.2.2.2.2.2.2.2.2.2.2.2.2.2.2.2.2.2.2.2.2.2.2.2.2.2.2.2.2.2.2.2.2.2.2.ext O0.2) rfl d2_16 rfl (by decide) rfl ?_
  refine own_astore 19 #[oI x0, oA w_ALL, oI (22 : Int32), oI (12 : Int32), oA w_RESULT] X71 hx hby d2_17 rfl rfl rfl ?_
  refine own_aload 21 X71 hx hby d2_19 rfl rfl rfl ?_
  refine own_getF 24 X71 hx hby hZ hown (own_w hw 11 rfl) e71 (W.2.2.2.2.2.2.2.2.2.2.2.2.2.2.2.2.2.2.2.2.2.2.2.2.2.2.2.2.2.2.2.2.2.2.2.2.2.2.2.2.2.2.2.2.2.2.2.2.2.2.2.2.2.2.2.2.2.1.ext O0.2) d2_21 rfl ?_
  intro T73 X73 e73
  refine own_iload_n 25 X73 hx hby d2_24 rfl rfl ?_
  refine own_icY 31 X73 hx hby d2_25 (by decide) (by decide) (feq hc74).2 ?_
  refine own_iinc 34 #[oI x0, oA w_ALL, oI (22 : Int32), oI (13 : Int32), oA w_RESULT] X73 hx hby d2_31 rfl rfl rfl ?_
  refine own_goto 9 X73 hx hby d2_34 (by decide) (by decide) ?_
  refine own_iload_n 10 X73 hx hby d2_9 rfl rfl ?_
  refine own_iload_n 11 X73 hx hby d2_10 rfl rfl ?_
  refine own_icN 14 X73 hx hby d2_11 rfl (by decide) ?_
  refine own_aload_n 15 X73 hx hby d2_14 rfl rfl rfl ?_
  refine own_iload_n 16 X73 hx hby d2_15 rfl rfl ?_
  refine own_aaload 17 (.ref w_FAILURE) X73 hx hby hZ e73 (W.2.2.2.2.2.2.2.2.2.2.2.2.2.2.2.2.2.2.2.2.2.2.2.2.2.2.2.2.2.2.2.2.2.2.2.2.2.2.2.2.2.2.2.2.2.2.2.2.2.2.2.2.2.2.2.2.2.2.2.2.2.2.2.2.2.2.2.ext O0.2) rfl d2_16 rfl (by decide) rfl ?_
  refine own_astore 19 #[oI x0, oA w_ALL, oI (22 : Int32), oI (13 : Int32), oA w_FAILURE] X73 hx hby d2_17 rfl rfl rfl ?_
  refine own_aload 21 X73 hx hby d2_19 rfl rfl rfl ?_
  refine own_getF 24 X73 hx hby hZ hown (own_w hw 11 rfl) e73 (W.2.2.2.2.2.2.2.2.2.2.2.2.2.2.2.2.2.2.2.2.2.2.2.2.2.2.2.2.2.2.2.2.2.2.2.2.2.2.2.2.2.2.2.2.2.2.2.2.2.2.2.2.2.2.2.2.2.2.1.ext O0.2) d2_21 rfl ?_
  intro T75 X75 e75
  refine own_iload_n 25 X75 hx hby d2_24 rfl rfl ?_
  refine own_icY 31 X75 hx hby d2_25 (by decide) (by decide) (feq hc76).2 ?_
  refine own_iinc 34 #[oI x0, oA w_ALL, oI (22 : Int32), oI (14 : Int32), oA w_FAILURE] X75 hx hby d2_31 rfl rfl rfl ?_
  refine own_goto 9 X75 hx hby d2_34 (by decide) (by decide) ?_
  refine own_iload_n 10 X75 hx hby d2_9 rfl rfl ?_
  refine own_iload_n 11 X75 hx hby d2_10 rfl rfl ?_
  refine own_icN 14 X75 hx hby d2_11 rfl (by decide) ?_
  refine own_aload_n 15 X75 hx hby d2_14 rfl rfl rfl ?_
  refine own_iload_n 16 X75 hx hby d2_15 rfl rfl ?_
  refine own_aaload 17 (.ref w_DEAD) X75 hx hby hZ e75 (W.2.2.2.2.2.2.2.2.2.2.2.2.2.2.2.2.2.2.2.2.2.2.2.2.2.2.2.2.2.2.2.2.2.2.2.2.2.2.2.2.2.2.2.2.2.2.2.2.2.2.2.2.2.2.2.2.2.2.2.2.2.2.2.2.2.2.2.ext O0.2) rfl d2_16 rfl (by decide) rfl ?_
  refine own_astore 19 #[oI x0, oA w_ALL, oI (22 : Int32), oI (14 : Int32), oA w_DEAD] X75 hx hby d2_17 rfl rfl rfl ?_
  refine own_aload 21 X75 hx hby d2_19 rfl rfl rfl ?_
  refine own_getF 24 X75 hx hby hZ hown (own_w hw 11 rfl) e75 (W.2.2.2.2.2.2.2.2.2.2.2.2.2.2.2.2.2.2.2.2.2.2.2.2.2.2.2.2.2.2.2.2.2.2.2.2.2.2.2.2.2.2.2.2.2.2.2.2.2.2.2.2.2.2.2.2.2.2.2.1.ext O0.2) d2_21 rfl ?_
  intro T77 X77 e77
  refine own_iload_n 25 X77 hx hby d2_24 rfl rfl ?_
  refine own_icY 31 X77 hx hby d2_25 (by decide) (by decide) (feq hc78).2 ?_
  refine own_iinc 34 #[oI x0, oA w_ALL, oI (22 : Int32), oI (15 : Int32), oA w_DEAD] X77 hx hby d2_31 rfl rfl rfl ?_
  refine own_goto 9 X77 hx hby d2_34 (by decide) (by decide) ?_
  refine own_iload_n 10 X77 hx hby d2_9 rfl rfl ?_
  refine own_iload_n 11 X77 hx hby d2_10 rfl rfl ?_
  refine own_icN 14 X77 hx hby d2_11 rfl (by decide) ?_
  refine own_aload_n 15 X77 hx hby d2_14 rfl rfl rfl ?_
  refine own_iload_n 16 X77 hx hby d2_15 rfl rfl ?_
  refine own_aaload 17 (.ref w_COUNT_WAITING) X77 hx hby hZ e77 (W.2.2.2.2.2.2.2.2.2.2.2.2.2.2.2.2.2.2.2.2.2.2.2.2.2.2.2.2.2.2.2.2.2.2.2.2.2.2.2.2.2.2.2.2.2.2.2.2.2.2.2.2.2.2.2.2.2.2.2.2.2.2.2.2.2.2.2.ext O0.2) rfl d2_16 rfl (by decide) rfl ?_
  refine own_astore 19 #[oI x0, oA w_ALL, oI (22 : Int32), oI (15 : Int32), oA w_COUNT_WAITING] X77 hx hby d2_17 rfl rfl rfl ?_
  refine own_aload 21 X77 hx hby d2_19 rfl rfl rfl ?_
  refine own_getF 24 X77 hx hby hZ hown (own_w hw 11 rfl) e77 (W.2.2.2.2.2.2.2.2.2.2.2.2.2.2.2.2.2.2.2.2.2.2.2.2.2.2.2.2.2.2.2.2.2.2.2.2.2.2.2.2.2.2.2.2.2.2.2.2.2.2.2.2.2.2.2.2.2.2.2.2.1.ext O0.2) d2_21 rfl ?_
  intro T79 X79 e79
  refine own_iload_n 25 X79 hx hby d2_24 rfl rfl ?_
  refine own_icY 31 X79 hx hby d2_25 (by decide) (by decide) (feq hc80).2 ?_
  refine own_iinc 34 #[oI x0, oA w_ALL, oI (22 : Int32), oI (16 : Int32), oA w_COUNT_WAITING] X79 hx hby d2_31 rfl rfl rfl ?_
  refine own_goto 9 X79 hx hby d2_34 (by decide) (by decide) ?_
  refine own_iload_n 10 X79 hx hby d2_9 rfl rfl ?_
  refine own_iload_n 11 X79 hx hby d2_10 rfl rfl ?_
  refine own_icN 14 X79 hx hby d2_11 rfl (by decide) ?_
  refine own_aload_n 15 X79 hx hby d2_14 rfl rfl rfl ?_
  refine own_iload_n 16 X79 hx hby d2_15 rfl rfl ?_
  refine own_aaload 17 (.ref w_CLOSING) X79 hx hby hZ e79 (W.2.2.2.2.2.2.2.2.2.2.2.2.2.2.2.2.2.2.2.2.2.2.2.2.2.2.2.2.2.2.2.2.2.2.2.2.2.2.2.2.2.2.2.2.2.2.2.2.2.2.2.2.2.2.2.2.2.2.2.2.2.2.2.2.2.2.2.ext O0.2) rfl d2_16 rfl (by decide) rfl ?_
  refine own_astore 19 #[oI x0, oA w_ALL, oI (22 : Int32), oI (16 : Int32), oA w_CLOSING] X79 hx hby d2_17 rfl rfl rfl ?_
  refine own_aload 21 X79 hx hby d2_19 rfl rfl rfl ?_
  refine own_getF 24 X79 hx hby hZ hown (own_w hw 11 rfl) e79 (W.2.2.2.2.2.2.2.2.2.2.2.2.2.2.2.2.2.2.2.2.2.2.2.2.2.2.2.2.2.2.2.2.2.2.2.2.2.2.2.2.2.2.2.2.2.2.2.2.2.2.2.2.2.2.2.2.2.2.2.2.2.1.ext O0.2) d2_21 rfl ?_
  intro T81 X81 e81
  refine own_iload_n 25 X81 hx hby d2_24 rfl rfl ?_
  refine own_icY 31 X81 hx hby d2_25 (by decide) (by decide) (feq hc82).2 ?_
  refine own_iinc 34 #[oI x0, oA w_ALL, oI (22 : Int32), oI (17 : Int32), oA w_CLOSING] X81 hx hby d2_31 rfl rfl rfl ?_
  refine own_goto 9 X81 hx hby d2_34 (by decide) (by decide) ?_
  refine own_iload_n 10 X81 hx hby d2_9 rfl rfl ?_
  refine own_iload_n 11 X81 hx hby d2_10 rfl rfl ?_
  refine own_icN 14 X81 hx hby d2_11 rfl (by decide) ?_
  refine own_aload_n 15 X81 hx hby d2_14 rfl rfl rfl ?_
  refine own_iload_n 16 X81 hx hby d2_15 rfl rfl ?_
  refine own_aaload 17 (.ref w_UNHELD) X81 hx hby hZ e81 (W.2.2.2.2.2.2.2.2.2.2.2.2.2.2.2.2.2.2.2.2.2.2.2.2.2.2.2.2.2.2.2.2.2.2.2.2.2.2.2.2.2.2.2.2.2.2.2.2.2.2.2.2.2.2.2.2.2.2.2.2.2.2.2.2.2.2.2.ext O0.2) rfl d2_16 rfl (by decide) rfl ?_
  refine own_astore 19 #[oI x0, oA w_ALL, oI (22 : Int32), oI (17 : Int32), oA w_UNHELD] X81 hx hby d2_17 rfl rfl rfl ?_
  refine own_aload 21 X81 hx hby d2_19 rfl rfl rfl ?_
  refine own_getF 24 X81 hx hby hZ hown (own_w hw 11 rfl) e81 (W.2.2.2.2.2.2.2.2.2.2.2.2.2.2.2.2.2.2.2.2.2.2.2.2.2.2.2.2.2.2.2.2.2.2.2.2.2.2.2.2.2.2.2.2.2.2.2.2.2.2.2.2.2.2.2.2.2.2.2.2.2.2.1.ext O0.2) d2_21 rfl ?_
  intro T83 X83 e83
  refine own_iload_n 25 X83 hx hby d2_24 rfl rfl ?_
  refine own_icY 31 X83 hx hby d2_25 (by decide) (by decide) (feq hc84).2 ?_
  refine own_iinc 34 #[oI x0, oA w_ALL, oI (22 : Int32), oI (18 : Int32), oA w_UNHELD] X83 hx hby d2_31 rfl rfl rfl ?_
  refine own_goto 9 X83 hx hby d2_34 (by decide) (by decide) ?_
  refine own_iload_n 10 X83 hx hby d2_9 rfl rfl ?_
  refine own_iload_n 11 X83 hx hby d2_10 rfl rfl ?_
  refine own_icN 14 X83 hx hby d2_11 rfl (by decide) ?_
  refine own_aload_n 15 X83 hx hby d2_14 rfl rfl rfl ?_
  refine own_iload_n 16 X83 hx hby d2_15 rfl rfl ?_
  refine own_aaload 17 (.ref w_OPEN) X83 hx hby hZ e83 (W.2.2.2.2.2.2.2.2.2.2.2.2.2.2.2.2.2.2.2.2.2.2.2.2.2.2.2.2.2.2.2.2.2.2.2.2.2.2.2.2.2.2.2.2.2.2.2.2.2.2.2.2.2.2.2.2.2.2.2.2.2.2.2.2.2.2.2.ext O0.2) rfl d2_16 rfl (by decide) rfl ?_
  refine own_astore 19 #[oI x0, oA w_ALL, oI (22 : Int32), oI (18 : Int32), oA w_OPEN] X83 hx hby d2_17 rfl rfl rfl ?_
  refine own_aload 21 X83 hx hby d2_19 rfl rfl rfl ?_
  refine own_getF 24 X83 hx hby hZ hown (own_w hw 11 rfl) e83 (W.2.2.2.2.2.2.2.2.2.2.2.2.2.2.2.2.2.2.2.2.2.2.2.2.2.2.2.2.2.2.2.2.2.2.2.2.2.2.2.2.2.2.2.2.2.2.2.2.2.2.2.2.2.2.2.2.2.2.2.2.2.2.2.1.ext O0.2) d2_21 rfl ?_
  intro T85 X85 e85
  refine own_iload_n 25 X85 hx hby d2_24 rfl rfl ?_
  refine own_icY 31 X85 hx hby d2_25 (by decide) (by decide) (feq hc86).2 ?_
  refine own_iinc 34 #[oI x0, oA w_ALL, oI (22 : Int32), oI (19 : Int32), oA w_OPEN] X85 hx hby d2_31 rfl rfl rfl ?_
  refine own_goto 9 X85 hx hby d2_34 (by decide) (by decide) ?_
  refine own_iload_n 10 X85 hx hby d2_9 rfl rfl ?_
  refine own_iload_n 11 X85 hx hby d2_10 rfl rfl ?_
  refine own_icN 14 X85 hx hby d2_11 rfl (by decide) ?_
  refine own_aload_n 15 X85 hx hby d2_14 rfl rfl rfl ?_
  refine own_iload_n 16 X85 hx hby d2_15 rfl rfl ?_
  refine own_aaload 17 (.ref w_TRANSACTION) X85 hx hby hZ e85 (W.2.2.2.2.2.2.2.2.2.2.2.2.2.2.2.2.2.2.2.2.2.2.2.2.2.2.2.2.2.2.2.2.2.2.2.2.2.2.2.2.2.2.2.2.2.2.2.2.2.2.2.2.2.2.2.2.2.2.2.2.2.2.2.2.2.2.2.ext O0.2) rfl d2_16 rfl (by decide) rfl ?_
  refine own_astore 19 #[oI x0, oA w_ALL, oI (22 : Int32), oI (19 : Int32), oA w_TRANSACTION] X85 hx hby d2_17 rfl rfl rfl ?_
  refine own_aload 21 X85 hx hby d2_19 rfl rfl rfl ?_
  refine own_getF 24 X85 hx hby hZ hown (own_w hw 11 rfl) e85 (W.2.2.2.2.2.2.2.2.2.2.2.2.2.2.2.2.2.2.2.2.2.2.2.2.2.2.2.2.2.2.2.2.2.2.2.2.2.2.2.2.2.2.2.2.2.2.2.2.2.2.2.2.2.2.2.2.2.2.2.2.2.2.2.2.1.ext O0.2) d2_21 rfl ?_
  intro T87 X87 e87
  refine own_iload_n 25 X87 hx hby d2_24 rfl rfl ?_
  refine own_icY 31 X87 hx hby d2_25 (by decide) (by decide) (feq hc88).2 ?_
  refine own_iinc 34 #[oI x0, oA w_ALL, oI (22 : Int32), oI (20 : Int32), oA w_TRANSACTION] X87 hx hby d2_31 rfl rfl rfl ?_
  refine own_goto 9 X87 hx hby d2_34 (by decide) (by decide) ?_
  refine own_iload_n 10 X87 hx hby d2_9 rfl rfl ?_
  refine own_iload_n 11 X87 hx hby d2_10 rfl rfl ?_
  refine own_icN 14 X87 hx hby d2_11 rfl (by decide) ?_
  refine own_aload_n 15 X87 hx hby d2_14 rfl rfl rfl ?_
  refine own_iload_n 16 X87 hx hby d2_15 rfl rfl ?_
  refine own_aaload 17 (.ref w_REPLY) X87 hx hby hZ e87 (W.2.2.2.2.2.2.2.2.2.2.2.2.2.2.2.2.2.2.2.2.2.2.2.2.2.2.2.2.2.2.2.2.2.2.2.2.2.2.2.2.2.2.2.2.2.2.2.2.2.2.2.2.2.2.2.2.2.2.2.2.2.2.2.2.2.2.2.ext O0.2) rfl d2_16 rfl (by decide) rfl ?_
  refine own_astore 19 #[oI x0, oA w_ALL, oI (22 : Int32), oI (20 : Int32), oA w_REPLY] X87 hx hby d2_17 rfl rfl rfl ?_
  refine own_aload 21 X87 hx hby d2_19 rfl rfl rfl ?_
  refine own_getF 24 X87 hx hby hZ hown (own_w hw 11 rfl) e87 (W.2.2.2.2.2.2.2.2.2.2.2.2.2.2.2.2.2.2.2.2.2.2.2.2.2.2.2.2.2.2.2.2.2.2.2.2.2.2.2.2.2.2.2.2.2.2.2.2.2.2.2.2.2.2.2.2.2.2.2.2.2.2.2.2.2.1.ext O0.2) d2_21 rfl ?_
  intro T89 X89 e89
  refine own_iload_n 25 X89 hx hby d2_24 rfl rfl ?_
  refine own_icY 31 X89 hx hby d2_25 (by decide) (by decide) (feq hc90).2 ?_
  refine own_iinc 34 #[oI x0, oA w_ALL, oI (22 : Int32), oI (21 : Int32), oA w_REPLY] X89 hx hby d2_31 rfl rfl rfl ?_
  refine own_goto 9 X89 hx hby d2_34 (by decide) (by decide) ?_
  refine own_iload_n 10 X89 hx hby d2_9 rfl rfl ?_
  refine own_iload_n 11 X89 hx hby d2_10 rfl rfl ?_
  refine own_icN 14 X89 hx hby d2_11 rfl (by decide) ?_
  refine own_aload_n 15 X89 hx hby d2_14 rfl rfl rfl ?_
  refine own_iload_n 16 X89 hx hby d2_15 rfl rfl ?_
  refine own_aaload 17 (.ref w_KNOCK) X89 hx hby hZ e89 (W.2.2.2.2.2.2.2.2.2.2.2.2.2.2.2.2.2.2.2.2.2.2.2.2.2.2.2.2.2.2.2.2.2.2.2.2.2.2.2.2.2.2.2.2.2.2.2.2.2.2.2.2.2.2.2.2.2.2.2.2.2.2.2.2.2.2.2.ext O0.2) rfl d2_16 rfl (by decide) rfl ?_
  refine own_astore 19 #[oI x0, oA w_ALL, oI (22 : Int32), oI (21 : Int32), oA w_KNOCK] X89 hx hby d2_17 rfl rfl rfl ?_
  refine own_aload 21 X89 hx hby d2_19 rfl rfl rfl ?_
  refine own_getF 24 X89 hx hby hZ hown (own_w hw 11 rfl) e89 (W.2.2.2.2.2.2.2.2.2.2.2.2.2.2.2.2.2.2.2.2.2.2.2.2.2.2.2.2.2.2.2.2.2.2.2.2.2.2.2.2.2.2.2.2.2.2.2.2.2.2.2.2.2.2.2.2.2.2.2.2.2.2.2.2.2.2.1.ext O0.2) d2_21 rfl ?_
  intro T91 X91 e91
  refine own_iload_n 25 X91 hx hby d2_24 rfl rfl ?_
  refine own_icN 28 X91 hx hby d2_25 rfl (teq hc92).2 ?_
  refine own_aload 30 X91 hx hby d2_28 rfl rfl rfl ?_
  exact own_ret (Q := own_Q _ n0 h0) X91 hx hby hret hlk d2_30 rfl (Or.inr (Or.inr (Or.inr (Or.inr ⟨rfl, rfl, rfl⟩)))) (by decide) (by decide) ⟨rfl, N0, e91⟩
set_option maxRecDepth 65536 in
set_option maxHeartbeats 40000000 in
theorem rm2_23 (l : Launch) (Z : State) (a0 : Array Value) (hw : ∀ d ∈ tables_1, d.before a0 Z = true) (ws : List Jvm.Cond) (w_HELLO w_ADD_SERVICE w_GET_SERVICE w_LIST_SERVICES w_TRANSLATE w_RESOLVE w_RELEASE w_STATUS w_WAITING w_WATCH w_ACQUIRE w_RETIRE w_RESULT w_FAILURE w_DEAD w_COUNT_WAITING w_CLOSING w_UNHELD w_OPEN w_TRANSACTION w_REPLY w_KNOCK w_ALL k_ALL : Addr) (W : own_W Z w_HELLO w_ADD_SERVICE w_GET_SERVICE w_LIST_SERVICES w_TRANSLATE w_RESOLVE w_RELEASE w_STATUS w_WAITING w_WATCH w_ACQUIRE w_RETIRE w_RESULT w_FAILURE w_DEAD w_COUNT_WAITING w_CLOSING w_UNHELD w_OPEN w_TRANSACTION w_REPLY w_KNOCK w_ALL k_ALL) (x0 : Int32) (h0 : Heap) (n0 : Nat) (O0 : Old Z n0 h0) (hc50 : ¬ ((1 : Int32) = x0)) (hc52 : ¬ ((2 : Int32) = x0)) (hc54 : ¬ ((3 : Int32) = x0)) (hc56 : ¬ ((4 : Int32) = x0)) (hc58 : ¬ ((5 : Int32) = x0)) (hc60 : ¬ ((6 : Int32) = x0)) (hc62 : ¬ ((7 : Int32) = x0)) (hc64 : ¬ ((8 : Int32) = x0)) (hc66 : ¬ ((9 : Int32) = x0)) (hc68 : ¬ ((10 : Int32) = x0)) (hc70 : ¬ ((11 : Int32) = x0)) (hc72 : ¬ ((12 : Int32) = x0)) (hc74 : ¬ ((16 : Int32) = x0)) (hc76 : ¬ ((17 : Int32) = x0)) (hc78 : ¬ ((18 : Int32) = x0)) (hc80 : ¬ ((19 : Int32) = x0)) (hc82 : ¬ ((20 : Int32) = x0)) (hc84 : ¬ ((21 : Int32) = x0)) (hc86 : ¬ ((32 : Int32) = x0)) (hc88 : ¬ ((33 : Int32) = x0)) (hc90 : ¬ ((34 : Int32) = x0)) (hc92 : ¬ ((35 : Int32) = x0)) :
    MetFree l (⟨"com/example/hop1/hop1/protocol/FrameKind", "of", "(I)Lcom/example/hop1/hop1/protocol/FrameKind;"⟩ : MethodName) (head1 (Jvm.Cond.code (⟨"com/example/hop1/hop1/protocol/FrameKind", "of", "(I)Lcom/example/hop1/hop1/protocol/FrameKind;"⟩ : MethodName) prog_113_method_5_code 5 (some (.object "com/example/hop1/hop1/protocol/FrameKind")) :: ws) ({ frames := 0, cells := 0, slots := 0, locals := 0 } : Room)) (fun a U => a = #[(.int x0)] ∧ Z.Warmed39 U.vm ∧ U.heap = h0) (fun _ _ _ _ _ => True) (fun _ U o U' => ∃ v L, o = .returned v ∧ own_Q (some .null) n0 h0 v U'.heap L ∧ FrameEnd U o U' L ({ frames := 0, cells := 0, slots := 0, locals := 0 } : Room).cells ({ frames := 0, cells := 0, slots := 0, locals := 0 } : Room).slots) := by
  refine MetFree.of_bodySF (plainFor_of_name pn_1) hisR ?_
  intro p e s m args below meth c s₁ Bd hml0 hP hK
  obtain ⟨rfl, hZ, hh⟩ := hP
  have hx := Bd.exec
  have hby := Bd.bytes
  have hml : c.maxLocals = 5 := hml0
  have hlk := BodyLoose.notSynchronized Bd
  have hret := Bd.returns
  have hown : s.vm.findClass "com/example/hop1/hop1/protocol/FrameKind" = some m.cls := findClass_of_methodNamed Bd.named
  have hnm := (name_of_methodNamed Bd.named Bd.method).1
  have X0 : Stand p l e ({ frames := 0, cells := 0, slots := 0, locals := 0 } : Room) s m #[(.int x0)] below meth c s₁ [] 0 0 := Stand.of_body Bd
  have e0 : s₁.heap = h0 := by rw [← hh, Bd.state]; rfl
  have N0 := Fr.nil n0
  rw [ef_2 m x0]
  show Go p e below _ (s₁.setTop (mkF m 0 #[oI x0, oU, oU, oU, oU] []))
  refine own_getS 3 X0 hx hby hZ hown (own_w hw 8 rfl) e0 (W.2.2.2.2.2.2.2.2.2.2.2.2.2.2.2.2.2.2.2.2.2.2.2.2.2.2.2.2.2.2.2.2.2.2.2.2.2.2.2.2.2.2.2.2.1.ext O0.2) d2_0 rfl ?_
  intro T48 X48 e48
  refine own_astore_n 4 #[oI x0, oA w_ALL, oU, oU, oU] X48 hx hby d2_3 rfl rfl rfl ?_
  refine own_aload_n 5 X48 hx hby d2_4 rfl rfl rfl ?_
  refine own_len 6 X48 hx hby hZ e48 (W.2.2.2.2.2.2.2.2.2.2.2.2.2.2.2.2.2.2.2.2.2.2.2.2.2.2.2.2.2.2.2.2.2.2.2.2.2.2.2.2.2.2.2.2.2.2.2.2.2.2.2.2.2.2.2.2.2.2.2.2.2.2.2.2.2.2.2.ext O0.2) d2_5 rfl ?_
  refine own_istore_n 7 #[oI x0, oA w_ALL, oI (22 : Int32), oU, oU] X48 hx hby d2_6 rfl rfl ?_
  refine own_iconst 8 (0 : Int32) X48 hx hby d2_7 rfl (by decide) ?_
  refine own_istore_n 9 #[oI x0, oA w_ALL, oI (22 : Int32), oI (0 : Int32), oU] X48 hx hby d2_8 rfl rfl ?_
  refine own_iload_n 10 X48 hx hby d2_9 rfl rfl ?_
  refine own_iload_n 11 X48 hx hby d2_10 rfl rfl ?_
  refine own_icN 14 X48 hx hby d2_11 rfl (by decide) ?_
  refine own_aload_n 15 X48 hx hby d2_14 rfl rfl rfl ?_
  refine own_iload_n 16 X48 hx hby d2_15 rfl rfl ?_
  refine own_aaload 17 (.ref w_HELLO) X48 hx hby hZ e48 (W.2.2.2.2.2.2.2.2.2.2.2.2.2.2.2.2.2.2.2.2.2.2.2.2.2.2.2.2.2.2.2.2.2.2.2.2.2.2.2.2.2.2.2.2.2.2.2.2.2.2.2.2.2.2.2.2.2.2.2.2.2.2.2.2.2.2.2.ext O0.2) rfl d2_16 rfl (by decide) rfl ?_
  refine own_astore 19 #[oI x0, oA w_ALL, oI (22 : Int32), oI (0 : Int32), oA w_HELLO] X48 hx hby d2_17 rfl rfl rfl ?_
  refine own_aload 21 X48 hx hby d2_19 rfl rfl rfl ?_
  refine own_getF 24 X48 hx hby hZ hown (own_w hw 11 rfl) e48 (W.2.2.2.2.2.2.2.2.2.2.2.2.2.2.2.2.2.2.2.2.2.2.2.2.2.2.2.2.2.2.2.2.2.2.2.2.2.2.2.2.2.2.2.2.2.1.ext O0.2) d2_21 rfl ?_
  intro T49 X49 e49
  refine own_iload_n 25 X49 hx hby d2_24 rfl rfl ?_
  refine own_icY 31 X49 hx hby d2_25 (by decide) (by decide) (feq hc50).2 ?_
  refine own_iinc 34 #[oI x0, oA w_ALL, oI (22 : Int32), oI (1 : Int32), oA w_HELLO] X49 hx hby d2_31 rfl rfl rfl ?_
  refine own_goto 9 X49 hx hby d2_34 (by decide) (by decide) ?_
  refine own_iload_n 10 X49 hx hby d2_9 rfl rfl ?_
  refine own_iload_n 11 X49 hx hby d2_10 rfl rfl ?_
  refine own_icN 14 X49 hx hby d2_11 rfl (by decide) ?_
  refine own_aload_n 15 X49 hx hby d2_14 rfl rfl rfl ?_
  refine own_iload_n 16 X49 hx hby d2_15 rfl rfl ?_
  refine own_aaload 17 (.ref w_ADD_SERVICE) X49 hx hby hZ e49 (W.2.2.2.2.2.2.2.2.2.2.2.2.2.2.2.2.2.2.2.2.2.2.2.2.2.2.2.2.2.2.2.2.2.2.2.2.2.2.2.2.2.2.2.2.2.2.2.2.2.2.2.2.2.2.2.2.2.2.2.2.2.2.2.2.2.2.2.ext O0.2) rfl d2_16 rfl (by decide) rfl ?_
  refine own_astore 19 #[oI x0, oA w_ALL, oI (22 : Int32), oI (1 : Int32), oA w_ADD_SERVICE] X49 hx hby d2_17 rfl rfl rfl ?_
  refine own_aload 21 X49 hx hby d2_19 rfl rfl rfl ?_
  refine own_getF 24 X49 hx hby hZ hown (own_w hw 11 rfl) e49 (W.2.2.2.2.2.2.2.2.2.2.2.2.2.2.2.2.2.2.2.2.2.2.2.2.2.2.2.2.2.2.2.2.2.2.2.2.2.2.2.2.2.2.2.2.2.2.1.ext O0.2) d2_21 rfl ?_
  intro T51 X51 e51
  refine own_iload_n 25 X51 hx hby d2_24 rfl rfl ?_
  refine own_icY 31 X51 hx hby d2_25 (by decide) (by decide) (feq hc52).2 ?_
  refine own_iinc 34 #[oI x0, oA w_ALL, oI (22 : Int32), oI (2 : Int32), oA w_ADD_SERVICE] X51 hx hby d2_31 rfl rfl rfl ?_
  refine own_goto 9 X51 hx hby d2_34 (by decide) (by decide) ?_
  refine own_iload_n 10 X51 hx hby d2_9 rfl rfl ?_
  refine own_iload_n 11 X51 hx hby d2_10 rfl rfl ?_
  refine own_icN 14 X51 hx hby d2_11 rfl (by decide) ?_
  refine own_aload_n 15 X51 hx hby d2_14 rfl rfl rfl ?_
  refine own_iload_n 16 X51 hx hby d2_15 rfl rfl ?_
  refine own_aaload 17 (.ref w_GET_SERVICE) X51 hx hby hZ e51 (W.2.2.2.2.2.2.2.2.2.2.2.2.2.2.2.2.2.2.2.2.2.2.2.2.2.2.2.2.2.2.2.2.2.2.2.2.2.2.2.2.2.2.2.2.2.2.2.2.2.2.2.2.2.2.2.2.2.2.2.2.2.2.2.2.2.2.2.ext O0.2) rfl d2_16 rfl (by decide) rfl ?_
  refine own_astore 19 #[oI x0, oA w_ALL, oI (22 : Int32), oI (2 : Int32), oA w_GET_SERVICE] X51 hx hby d2_17 rfl rfl rfl ?_
  refine own_aload 21 X51 hx hby d2_19 rfl rfl rfl ?_
  refine own_getF 24 X51 hx hby hZ hown (own_w hw 11 rfl) e51 (W.2.2.2.2.2.2.2.2.2.2.2.2.2.2.2.2.2.2.2.2.2.2.2.2.2.2.2.2.2.2.2.2.2.2.2.2.2.2.2.2.2.2.2.2.2.2.2.1.ext O0.2) d2_21 rfl ?_
  intro T53 X53 e53
  refine own_iload_n 25 X53 hx hby d2_24 rfl rfl ?_
  refine own_icY 31 X53 hx hby d2_25 (by decide) (by decide) (feq hc54).2 ?_
  refine own_iinc 34 #[oI x0, oA w_ALL, oI (22 : Int32), oI (3 : Int32), oA w_GET_SERVICE] X53 hx hby d2_31 rfl rfl rfl ?_
  refine own_goto 9 X53 hx hby d2_34 (by decide) (by decide) ?_
  refine own_iload_n 10 X53 hx hby d2_9 rfl rfl ?_
  refine own_iload_n 11 X53 hx hby d2_10 rfl rfl ?_
  refine own_icN 14 X53 hx hby d2_11 rfl (by decide) ?_
  refine own_aload_n 15 X53 hx hby d2_14 rfl rfl rfl ?_
  refine own_iload_n 16 X53 hx hby d2_15 rfl rfl ?_
  refine own_aaload 17 (.ref w_LIST_SERVICES) X53 hx hby hZ e53 (W.2.2.2.2.2.2.2.2.2.2.2.2.2.2.2.2.2.2.2.2.2.2.2.2.2.2.2.2.2.2.2.2.2.2.2.2.2.2.2.2.2.2.2.2.2.2.2.2.2.2.2.2.2.2.2.2.2.2.2.2.2.2.2.2.2.2.2.ext O0.2) rfl d2_16 rfl (by decide) rfl ?_
  refine own_astore 19 #[oI x0, oA w_ALL, oI (22 : Int32), oI (3 : Int32), oA w_LIST_SERVICES] X53 hx hby d2_17 rfl rfl rfl ?_
  refine own_aload 21 X53 hx hby d2_19 rfl rfl rfl ?_
  refine own_getF 24 X53 hx hby hZ hown (own_w hw 11 rfl) e53 (W.2.2.2.2.2.2.2.2.2.2.2.2.2.2.2.2.2.2.2.2.2.2.2.2.2.2.2.2.2.2.2.2.2.2.2.2.2.2.2.2.2.2.2.2.2.2.2.2.1.ext O0.2) d2_21 rfl ?_
  intro T55 X55 e55
  refine own_iload_n 25 X55 hx hby d2_24 rfl rfl ?_
  refine own_icY 31 X55 hx hby d2_25 (by decide) (by decide) (feq hc56).2 ?_
  refine own_iinc 34 #[oI x0, oA w_ALL, oI (22 : Int32), oI (4 : Int32), oA w_LIST_SERVICES] X55 hx hby d2_31 rfl rfl rfl ?_
  refine own_goto 9 X55 hx hby d2_34 (by decide) (by decide) ?_
  refine own_iload_n 10 X55 hx hby d2_9 rfl rfl ?_
  refine own_iload_n 11 X55 hx hby d2_10 rfl rfl ?_
  refine own_icN 14 X55 hx hby d2_11 rfl (by decide) ?_
  refine own_aload_n 15 X55 hx hby d2_14 rfl rfl rfl ?_
  refine own_iload_n 16 X55 hx hby d2_15 rfl rfl ?_
  refine own_aaload 17 (.ref w_TRANSLATE) X55 hx hby hZ e55 (W.2.2.2.2.2.2.2.2.2.2.2.2.2.2.2.2.2.2.2.2.2.2.2.2.2.2.2.2.2.2.2.2.2.2.2.2.2.2.2.2.2.2.2.2.2.2.2.2.2.2.2.2.2.2.2.2.2.2.2.2.2.2.2.2.2.2.2.ext O0.2) rfl d2_16 rfl (by decide) rfl ?_
  refine own_astore 19 #[oI x0, oA w_ALL, oI (22 : Int32), oI (4 : Int32), oA w_TRANSLATE] X55 hx hby d2_17 rfl rfl rfl ?_
  refine own_aload 21 X55 hx hby d2_19 rfl rfl rfl ?_
  refine own_getF 24 X55 hx hby hZ hown (own_w hw 11 rfl) e55 (W.2.2.2.2.2.2.2.2.2.2.2.2.2.2.2.2.2.2.2.2.2.2.2.2.2.2.2.2.2.2.2.2.2.2.2.2.2.2.2.2.2.2.2.2.2.2.2.2.2.1.ext O0.2) d2_21 rfl ?_
  intro T57 X57 e57
  refine own_iload_n 25 X57 hx hby d2_24 rfl rfl ?_
  refine own_icY 31 X57 hx hby d2_25 (by decide) (by decide) (feq hc58).2 ?_
  refine own_iinc 34 #[oI x0, oA w_ALL, oI (22 : Int32), oI (5 : Int32), oA w_TRANSLATE] X57 hx hby d2_31 rfl rfl rfl ?_
  refine own_goto 9 X57 hx hby d2_34 (by decide) (by decide) ?_
  refine own_iload_n 10 X57 hx hby d2_9 rfl rfl ?_
  refine own_iload_n 11 X57 hx hby d2_10 rfl rfl ?_
  refine own_icN 14 X57 hx hby d2_11 rfl (by decide) ?_
  refine own_aload_n 15 X57 hx hby d2_14 rfl rfl rfl ?_
  refine own_iload_n 16 X57 hx hby d2_15 rfl rfl ?_
  refine own_aaload 17 (.ref w_RESOLVE) X57 hx hby hZ e57 (W.2.2.2.2.2.2.2.2.2.2.2.2.2.2.2.2.2.2.2.2.2.2.2.2.2.2.2.2.2.2.2.2.2.2.2.2.2.2.2.2.2.2.2.2.2.2.2.2.2.2.2.2.2.2.2.2.2.2.2.2.2.2.2.2.2.2.2.ext O0.2) rfl d2_16 rfl (by decide) rfl ?_
  refine own_astore 19 #[oI x0, oA w_ALL, oI (22 : Int32), oI (5 : Int32), oA w_RESOLVE] X57 hx hby d2_17 rfl rfl rfl ?_
  refine own_aload 21 X57 hx hby d2_19 rfl rfl rfl ?_
  refine own_getF 24 X57 hx hby hZ hown (own_w hw 11 rfl) e57 (W.2.2.2.2.2.2.2.2.2.2.2.2.2.2.2.2.2.2.2.2.2.2.2.2.2.2.2.2.2.2.2.2.2.2.2.2.2.2.2.2.2.2.2.2.2.2.2.2.2.2.1.ext O0.2) d2_21 rfl ?_
  intro T59 X59 e59
  refine own_iload_n 25 X59 hx hby d2_24 rfl rfl ?_
  refine own_icY 31 X59 hx hby d2_25 (by decide) (by decide) (feq hc60).2 ?_
  refine own_iinc 34 #[oI x0, oA w_ALL, oI (22 : Int32), oI (6 : Int32), oA w_RESOLVE] X59 hx hby d2_31 rfl rfl rfl ?_
  refine own_goto 9 X59 hx hby d2_34 (by decide) (by decide) ?_
  refine own_iload_n 10 X59 hx hby d2_9 rfl rfl ?_
  refine own_iload_n 11 X59 hx hby d2_10 rfl rfl ?_
  refine own_icN 14 X59 hx hby d2_11 rfl (by decide) ?_
  refine own_aload_n 15 X59 hx hby d2_14 rfl rfl rfl ?_
  refine own_iload_n 16 X59 hx hby d2_15 rfl rfl ?_
  refine own_aaload 17 (.ref w_RELEASE) X59 hx hby hZ e59 (W.2.2.2.2.2.2.2.2.2.2.2.2.2.2.2.2.2.2.2.2.2.2.2.2.2.2.2.2.2.2.2.2.2.2.2.2.2.2.2.2.2.2.2.2.2.2.2.2.2.2.2.2.2.2.2.2.2.2.2.2.2.2.2.2.2.2.2.ext O0.2) rfl d2_16 rfl (by decide) rfl ?_
  refine own_astore 19 #[oI x0, oA w_ALL, oI (22 : Int32), oI (6 : Int32), oA w_RELEASE] X59 hx hby d2_17 rfl rfl rfl ?_
  refine own_aload 21 X59 hx hby d2_19 rfl rfl rfl ?_
  refine own_getF 24 X59 hx hby hZ hown (own_w hw 11 rfl) e59 (W.2.2.2.2.2.2.2.2.2.2.2.2.2.2.2.2.2.2.2.2.2.2.2.2.2.2.2.2.2.2.2.2.2.2.2.2.2.2.2.2.2.2.2.2.2.2.2.2.2.2.2.1.ext O0.2) d2_21 rfl ?_
  intro T61 X61 e61
  refine own_iload_n 25 X61 hx hby d2_24 rfl rfl ?_
  refine own_icY 31 X61 hx hby d2_25 (by decide) (by decide) (feq hc62).2 ?_
  refine own_iinc 34 #[oI x0, oA w_ALL, oI (22 : Int32), oI (7 : Int32), oA w_RELEASE] X61 hx hby d2_31 rfl rfl rfl ?_
  refine own_goto 9 X61 hx hby d2_34 (by decide) (by decide) ?_
  refine own_iload_n 10 X61 hx hby d2_9 rfl rfl ?_
  refine own_iload_n 11 X61 hx hby d2_10 rfl rfl ?_
  refine own_icN 14 X61 hx hby d2_11 rfl (by decide) ?_
  refine own_aload_n 15 X61 hx hby d2_14 rfl rfl rfl ?_
  refine own_iload_n 16 X61 hx hby d2_15 rfl rfl ?_
  refine own_aaload 17 (.ref w_STATUS) X61 hx hby hZ e61 (W.2.2.2.2.2.2.2.2.2.2.2.2.2.2.2.2.2.2.2.2.2.2.2.2.2.2.2.2.2.2.2.2.2.2.2.2.2.2.2.2.2.2.2.2.2.2.2.2.2.2.2.2.2.2.2.2.2.2.2.2.2.2.2.2.2.2.2.ext O0.2) rfl d2_16 rfl (by decide) rfl ?_
  refine own_astore 19 #[oI x0, oA w_ALL, oI (22 : Int32), oI (7 : Int32), oA w_STATUS] X61 hx hby d2_17 rfl rfl rfl ?_
  refine own_aload 21 X61 hx hby d2_19 rfl rfl rfl ?_
  refine own_getF 24 X61 hx hby hZ hown (own_w hw 11 rfl) e61 (W.2.2.2.2.2.2.2.2.2.2.2.2.2.2.2.2.2.2.2.2.2.2.2.2.2.2.2.2.2.2.2.2.2.2.2.2.2.2.2.2.2.2.2.2.2.2.2.2.2.2.2.2.1.ext O0.2) d2_21 rfl ?_
  intro T63 X63 e63
  refine own_iload_n 25 X63 hx hby d2_24 rfl rfl ?_
  refine own_icY 31 X63 hx hby d2_25 (by decide) (by decide) (feq hc64).2 ?_
  refine own_iinc 34 #[oI x0, oA w_ALL, oI (22 : Int32), oI (8 : Int32), oA w_STATUS] X63 hx hby d2_31 rfl rfl rfl ?_
  refine own_goto 9 X63 hx hby d2_34 (by decide) (by decide) ?_
  refine own_iload_n 10 X63 hx hby d2_9 rfl rfl ?_
  refine own_iload_n 11 X63 hx hby d2_10 rfl rfl ?_
  refine own_icN 14 X63 hx hby d2_11 rfl (by decide) ?_
  refine own_aload_n 15 X63 hx hby d2_14 rfl rfl rfl ?_
  refine own_iload_n 16 X63 hx hby d2_15 rfl rfl ?_
  refine own_aaload 17 (.ref w_WAITING) X63 hx hby hZ e63 (W.2.2.2.2.2.2.2.2.2.2.2.2.2.2.2.2.2.2.2.2.2.2.2.2.2.2.2.2.2.2.2.2.2.2.2.2.2.2.2.2.2.2.2.2.2.2.2.2.2.2.2.2.2.2.2.2.2.2.2.2.2.2.2.2.2.2.2.ext O0.2) rfl d2_16 rfl (by decide) rfl ?_
  refine own_astore 19 #[oI x0, oA w_ALL, oI (22 : Int32), oI (8 : Int32), oA w_WAITING] X63 hx hby d2_17 rfl rfl rfl ?_
  refine own_aload 21 X63 hx hby d2_19 rfl rfl rfl ?_
  refine own_getF 24 X63 hx hby hZ hown (own_w hw 11 rfl) e63 (W.2.2.2.2.2.2.2.2.2.2.2.2.2.2.2.2.2.2.2.2.2.2.2.2.2.2.2.2.2.2.2.2.2.2.2.2.2.2.2.2.2.2.2.2.2.2.2.2.2.2.2.2.2.1.ext O0.2) d2_21 rfl ?_
  intro T65 X65 e65
  refine own_iload_n 25 X65 hx hby d2_24 rfl rfl ?_
  refine own_icY 31 X65 hx hby d2_25 (by decide) (by decide) (feq hc66).2 ?_
  refine own_iinc 34 #[oI x0, oA w_ALL, oI (22 : Int32), oI (9 : Int32), oA w_WAITING] X65 hx hby d2_31 rfl rfl rfl ?_
  refine own_goto 9 X65 hx hby d2_34 (by decide) (by decide) ?_
  refine own_iload_n 10 X65 hx hby d2_9 rfl rfl ?_
  refine own_iload_n 11 X65 hx hby d2_10 rfl rfl ?_
  refine own_icN 14 X65 hx hby d2_11 rfl (by decide) ?_
  refine own_aload_n 15 X65 hx hby d2_14 rfl rfl rfl ?_
  refine own_iload_n 16 X65 hx hby d2_15 rfl rfl ?_
  refine own_aaload 17 (.ref w_WATCH) X65 hx hby hZ e65 (W.2.2.2.2.2.2.2.2.2.2.2.2.2.2.2.2.2.2.2.2.2.2.2.2.2.2.2.2.2.2.2.2.2.2.2.2.2.2.2.2.2.2.2.2.2.2.2.2.2.2.2.2.2.2.2.2.2.2.2.2.2.2.2.2.2.2.2.ext O0.2) rfl d2_16 rfl (by decide) rfl ?_
  refine own_astore 19 #[oI x0, oA w_ALL, oI (22 : Int32), oI (9 : Int32), oA w_WATCH] X65 hx hby d2_17 rfl rfl rfl ?_
  refine own_aload 21 X65 hx hby d2_19 rfl rfl rfl ?_
  refine own_getF 24 X65 hx hby hZ hown (own_w hw 11 rfl) e65 (W.2.2.2.2.2.2.2.2.2.2.2.2.2.2.2.2.2.2.2.2.2.2.2.2.2.2.2.2.2.2.2.2.2.2.2.2.2.2.2.2.2.2.2.2.2.2.2.2.2.2.2.2.2.2.1.ext O0.2) d2_21 rfl ?_
  intro T67 X67 e67
  refine own_iload_n 25 X67 hx hby d2_24 rfl rfl ?_
  refine own_icY 31 X67 hx hby d2_25 (by decide) (by decide) (feq hc68).2 ?_
  refine own_iinc 34 #[oI x0, oA w_ALL, oI (22 : Int32), oI (10 : Int32), oA w_WATCH] X67 hx hby d2_31 rfl rfl rfl ?_
  refine own_goto 9 X67 hx hby d2_34 (by decide) (by decide) ?_
  refine own_iload_n 10 X67 hx hby d2_9 rfl rfl ?_
  refine own_iload_n 11 X67 hx hby d2_10 rfl rfl ?_
  refine own_icN 14 X67 hx hby d2_11 rfl (by decide) ?_
  refine own_aload_n 15 X67 hx hby d2_14 rfl rfl rfl ?_
  refine own_iload_n 16 X67 hx hby d2_15 rfl rfl ?_
  refine own_aaload 17 (.ref w_ACQUIRE) X67 hx hby hZ e67 (W.2.2.2.2.2.2.2.2.2.2.2.2.2.2.2.2.2.2.2.2.2.2.2.2.2.2.2.2.2.2.2.2.2.2.2.2.2.2.2.2.2.2.2.2.2.2.2.2.2.2.2.2.2.2.2.2.2.2.2.2.2.2.2.2.2.2.2.ext O0.2) rfl d2_16 rfl (by decide) rfl ?_
  refine own_astore 19 #[oI x0, oA w_ALL, oI (22 : Int32), oI (10 : Int32), oA w_ACQUIRE] X67 hx hby d2_17 rfl rfl rfl ?_
  refine own_aload 21 X67 hx hby d2_19 rfl rfl rfl ?_
  refine own_getF 24 X67 hx hby hZ hown (own_w hw 11 rfl) e67 (W.2.2.2.2.2.2.2.2.2.2.2.2.2.2.2.2.2.2.2.2.2.2.2.2.2.2.2.2.2.2.2.2.2.2.2.2.2.2.2.2.2.2.2.2.2.2.2.2.2.2.2.2.2.2.2.1.ext O0.2) d2_21 rfl ?_
  intro T69 X69 e69
  refine own_iload_n 25 X69 hx hby d2_24 rfl rfl ?_
  refine own_icY 31 X69 hx hby d2_25 (by decide) (by decide) (feq hc70).2 ?_
  refine own_iinc 34 #[oI x0, oA w_ALL, oI (22 : Int32), oI (11 : Int32), oA w_ACQUIRE] X69 hx hby d2_31 rfl rfl rfl ?_
  refine own_goto 9 X69 hx hby d2_34 (by decide) (by decide) ?_
  refine own_iload_n 10 X69 hx hby d2_9 rfl rfl ?_
  refine own_iload_n 11 X69 hx hby d2_10 rfl rfl ?_
  refine own_icN 14 X69 hx hby d2_11 rfl (by decide) ?_
  refine own_aload_n 15 X69 hx hby d2_14 rfl rfl rfl ?_
  refine own_iload_n 16 X69 hx hby d2_15 rfl rfl ?_
  refine own_aaload 17 (.ref w_RETIRE) X69 hx hby hZ e69 (W.2.2.2.2.2.2.2.2.2.2.2.2.2.2.2.2.2.2.2.2.2.2.2.2.2.2.2.2.2.2.2.2.2.2.2.2.2.2.2.2.2.2.2.2.2.2.2.2.2.2.2.2.2.2.2.2.2.2.2.2.2.2.2.2.2.2.2.ext O0.2) rfl d2_16 rfl (by decide) rfl ?_
  refine own_astore 19 #[oI x0, oA w_ALL, oI (22 : Int32), oI (11 : Int32), oA w_RETIRE] X69 hx hby d2_17 rfl rfl rfl ?_
  refine own_aload 21 X69 hx hby d2_19 rfl rfl rfl ?_
  refine own_getF 24 X69 hx hby hZ hown (own_w hw 11 rfl) e69 (W.2.2.2.2.2.2.2.2.2.2.2.2.2.2.2.2.2.2.2.2.2.2.2.2.2.2.2.2.2.2.2.2.2.2.2.2.2.2.2.2.2.2.2.2.2.2.2.2.2.2.2.2.2.2.2.2.1.ext O0.2) d2_21 rfl ?_
  intro T71 X71 e71
  refine own_iload_n 25 X71 hx hby d2_24 rfl rfl ?_
  refine own_icY 31 X71 hx hby d2_25 (by decide) (by decide) (feq hc72).2 ?_
  refine own_iinc 34 #[oI x0, oA w_ALL, oI (22 : Int32), oI (12 : Int32), oA w_RETIRE] X71 hx hby d2_31 rfl rfl rfl ?_
  refine own_goto 9 X71 hx hby d2_34 (by decide) (by decide) ?_
  refine own_iload_n 10 X71 hx hby d2_9 rfl rfl ?_
  refine own_iload_n 11 X71 hx hby d2_10 rfl rfl ?_
  refine own_icN 14 X71 hx hby d2_11 rfl (by decide) ?_
  refine own_aload_n 15 X71 hx hby d2_14 rfl rfl rfl ?_
  refine own_iload_n 16 X71 hx hby d2_15 rfl rfl ?_
  refine own_aaload 17 (.ref w_RESULT) X71 hx hby hZ e71 (W.2.2.2.2.2.2.2.2.2.2.2.2.2.2.2.2.2.2.2.2.2.2.2.2.2.2.2.2.2.2.2.2.2.2.2.2.2.2.2.2.2.2.2.2.2.2.2.2.2.2.2.2.2.2.2.2.2.2.2.2.2.2.2.2.2.2.2.ext O0.2) rfl d2_16 rfl (by decide) rfl ?_
  refine own_astore 19 #[oI x0, oA w_ALL, oI (22 : Int32), oI (12 : Int32), oA w_RESULT] X71 hx hby d2_17 rfl rfl rfl ?_
  refine own_aload 21 X71 hx hby d2_19 rfl rfl rfl ?_
  refine own_getF 24 X71 hx hby hZ hown (own_w hw 11 rfl) e71 (W.2.2.2.2.2.2.2.2.2.2.2.2.2.2.2.2.2.2.2.2.2.2.2.2.2.2.2.2.2.2.2.2.2.2.2.2.2.2.2.2.2.2.2.2.2.2.2.2.2.2.2.2.2.2.2.2.2.1.ext O0.2) d2_21 rfl ?_
  intro T73 X73 e73
  refine own_iload_n 25 X73 hx hby d2_24 rfl rfl ?_
  refine own_icY 31 X73 hx hby d2_25 (by decide) (by decide) (feq hc74).2 ?_
  refine own_iinc 34 #[oI x0, oA w_ALL, oI (22 : Int32), oI (13 : Int32), oA w_RESULT] X73 hx hby d2_31 rfl rfl rfl ?_
  refine own_goto 9 X73 hx hby d2_34 (by decide) (by decide) ?_
  refine own_iload_n 10 X73 hx hby d2_9 rfl rfl ?_
  refine own_iload_n 11 X73 hx hby d2_10 rfl rfl ?_
  refine own_icN 14 X73 hx hby d2_11 rfl (by decide) ?_
  refine own_aload_n 15 X73 hx hby d2_14 rfl rfl rfl ?_
  refine own_iload_n 16 X73 hx hby d2_15 rfl rfl ?_
  refine own_aaload 17 (.ref w_FAILURE) X73 hx hby hZ e73 (W.2.2.2.2.2.2.2.2.2.2.2.2.2.2.2.2.2.2.2.2.2.2.2.2.2.2.2.2.2.2.2.2.2.2.2.2.2.2.2.2.2.2.2.2.2.2.2.2.2.2.2.2.2.2.2.2.2.2.2.2.2.2.2.2.2.2.2.ext O0.2) rfl d2_16 rfl (by decide) rfl ?_
  refine own_astore 19 #[oI x0, oA w_ALL, oI (22 : Int32), oI (13 : Int32), oA w_FAILURE] X73 hx hby d2_17 rfl rfl rfl ?_
  refine own_aload 21 X73 hx hby d2_19 rfl rfl rfl ?_
  refine own_getF 24 X73 hx hby hZ hown (own_w hw 11 rfl) e73 (W.2.2.2.2.2.2.2.2.2.2.2.2.2.2.2.2.2.2.2.2.2.2.2.2.2.2.2.2.2.2.2.2.2.2.2.2.2.2.2.2.2.2.2.2.2.2.2.2.2.2.2.2.2.2.2.2.2.2.1.ext O0.2) d2_21 rfl ?_
  intro T75 X75 e75
  refine own_iload_n 25 X75 hx hby d2_24 rfl rfl ?_
  refine own_icY 31 X75 hx hby d2_25 (by decide) (by decide) (feq hc76).2 ?_
  refine own_iinc 34 #[oI x0, oA w_ALL, oI (22 : Int32), oI (14 : Int32), oA w_FAILURE] X75 hx hby d2_31 rfl rfl rfl ?_
  refine own_goto 9 X75 hx hby d2_34 (by decide) (by decide) ?_
  refine own_iload_n 10 X75 hx hby d2_9 rfl rfl ?_
  refine own_iload_n 11 X75 hx hby d2_10 rfl rfl ?_
  refine own_icN 14 X75 hx hby d2_11 rfl (by decide) ?_
  refine own_aload_n 15 X75 hx hby d2_14 rfl rfl rfl ?_
  refine own_iload_n 16 X75 hx hby d2_15 rfl rfl ?_
  refine own_aaload 17 (.ref w_DEAD) X75 hx hby hZ e75 (W.2.2.2.2.2.2.2.2.2.2.2.2.2.2.2.2.2.2.2.2.2.2.2.2.2.2.2.2.2.2.2.2.2.2.2.2.2.2.2.2.2.2.2.2.2.2.2.2.2.2.2.2.2.2.2.2.2.2.2.2.2.2.2.2.2.2.2.ext O0.2) rfl d2_16 rfl (by decide) rfl ?_
  refine own_astore 19 #[oI x0, oA w_ALL, oI (22 : Int32), oI (14 : Int32), oA w_DEAD] X75 hx hby d2_17 rfl rfl rfl ?_
  refine own_aload 21 X75 hx hby d2_19 rfl rfl rfl ?_
  refine own_getF 24 X75 hx hby hZ hown (own_w hw 11 rfl) e75 (W.2.2.2.2.2.2.2.2.2.2.2.2.2.2.2.2.2.2.2.2.2.2.2.2.2.2.2.2.2.2.2.2.2.2.2.2.2.2.2.2.2.2.2.2.2.2.2.2.2.2.2.2.2.2.2.2.2.2.2.1.ext O0.2) d2_21 rfl ?_
  intro T77 X77 e77
  refine own_iload_n 25 X77 hx hby d2_24 rfl rfl ?_
  refine own_icY 31 X77 hx hby d2_25 (by decide) (by decide) (feq hc78).2 ?_
  refine own_iinc 34 #[oI x0, oA w_ALL, oI (22 : Int32), oI (15 : Int32), oA w_DEAD] X77 hx hby d2_31 rfl rfl rfl ?_
  refine own_goto 9 X77 hx hby d2_34 (by decide) (by decide) ?_
  refine own_iload_n 10 X77 hx hby d2_9 rfl rfl ?_
  refine own_iload_n 11 X77 hx hby d2_10 rfl rfl ?_
  refine own_icN 14 X77 hx hby d2_11 rfl (by decide) ?_
  refine own_aload_n 15 X77 hx hby d2_14 rfl rfl rfl ?_
  refine own_iload_n 16 X77 hx hby d2_15 rfl rfl ?_
  refine own_aaload 17 (.ref w_COUNT_WAITING) X77 hx hby hZ e77 (W.2.2.2.2.2.2.2.2.2.2.2.2.2.2.2.2.2.2.2.2.2.2.2.2.2.2.2.2.2.2.2.2.2.2.2.2.2.2.2.2.2.2.2.2.2.2.2.2.2.2.2.2.2.2.2.2.2.2.2.2.2.2.2.2.2.2.2.ext O0.2) rfl d2_16 rfl (by decide) rfl ?_
  refine own_astore 19 #[oI x0, oA w_ALL, oI (22 : Int32), oI (15 : Int32), oA w_COUNT_WAITING] X77 hx hby d2_17 rfl rfl rfl ?_
  refine own_aload 21 X77 hx hby d2_19 rfl rfl rfl ?_
  refine own_getF 24 X77 hx hby hZ hown (own_w hw 11 rfl) e77 (W.2.2.2.2.2.2.2.2.2.2.2.2.2.2.2.2.2.2.2.2.2.2.2.2.2.2.2.2.2.2.2.2.2.2.2.2.2.2.2.2.2.2.2.2.2.2.2.2.2.2.2.2.2.2.2.2.2.2.2.2.1.ext O0.2) d2_21 rfl ?_
  intro T79 X79 e79
  refine own_iload_n 25 X79 hx hby d2_24 rfl rfl ?_
  refine own_icY 31 X79 hx hby d2_25 (by decide) (by decide) (feq hc80).2 ?_
  refine own_iinc 34 #[oI x0, oA w_ALL, oI (22 : Int32), oI (16 : Int32), oA w_COUNT_WAITING] X79 hx hby d2_31 rfl rfl rfl ?_
  refine own_goto 9 X79 hx hby d2_34 (by decide) (by decide) ?_
  refine own_iload_n 10 X79 hx hby d2_9 rfl rfl ?_
  refine own_iload_n 11 X79 hx hby d2_10 rfl rfl ?_
  refine own_icN 14 X79 hx hby d2_11 rfl (by decide) ?_
  refine own_aload_n 15 X79 hx hby d2_14 rfl rfl rfl ?_
  refine own_iload_n 16 X79 hx hby d2_15 rfl rfl ?_
  refine own_aaload 17 (.ref w_CLOSING) X79 hx hby hZ e79 (W.2.2.2.2.2.2.2.2.2.2.2.2.2.2.2.2.2.2.2.2.2.2.2.2.2.2.2.2.2.2.2.2.2.2.2.2.2.2.2.2.2.2.2.2.2.2.2.2.2.2.2.2.2.2.2.2.2.2.2.2.2.2.2.2.2.2.2.ext O0.2) rfl d2_16 rfl (by decide) rfl ?_
  refine own_astore 19 #[oI x0, oA w_ALL, oI (22 : Int32), oI (16 : Int32), oA w_CLOSING] X79 hx hby d2_17 rfl rfl rfl ?_
  refine own_aload 21 X79 hx hby d2_19 rfl rfl rfl ?_
  refine own_getF 24 X79 hx hby hZ hown (own_w hw 11 rfl) e79 (W.2.2.2.2.2.2.2.2.2.2.2.2.2.2.2.2.2.2.2.2.2.2.2.2.2.2.2.2.2.2.2.2.2.2.2.2.2.2.2.2.2.2.2.2.2.2.2.2.2.2.2.2.2.2.2.2.2.2.2.2.2.1.ext O0.2) d2_21 rfl ?_
  intro T81 X81 e81
  refine own_iload_n 25 X81 hx hby d2_24 rfl rfl ?_
  refine own_icY 31 X81 hx hby d2_25 (by decide) (by decide) (feq hc82).2 ?_
  refine own_iinc 34 #[oI x0, oA w_ALL, oI (22 : Int32), oI (17 : Int32), oA w_CLOSING] X81 hx hby d2_31 rfl rfl rfl ?_
  refine own_goto 9 X81 hx hby d2_34 (by decide) (by decide) ?_
  refine own_iload_n 10 X81 hx hby d2_9 rfl rfl ?_
  refine own_iload_n 11 X81 hx hby d2_10 rfl rfl ?_
  refine own_icN 14 X81 hx hby d2_11 rfl (by decide) ?_
  refine own_aload_n 15 X81 hx hby d2_14 rfl rfl rfl ?_
  refine own_iload_n 16 X81 hx hby d2_15 rfl rfl ?_
  refine own_aaload 17 (.ref w_UNHELD) X81 hx hby hZ e81 (W.2.2.2.2.2.2.2.2.2.2.2.2.2.2.2.2.2.2.2.2.2.2.2.2.2.2.2.2.2.2.2.2.2.2.2.2.2.2.2.2.2.2.2.2.2.2.2.2.2.2.2.2.2.2.2.2.2.2.2.2.2.2.2.2.2.2.2.ext O0.2) rfl d2_16 rfl (by decide) rfl ?_
  refine own_astore 19 #[oI x0, oA w_ALL, oI (22 : Int32), oI (17 : Int32), oA w_UNHELD] X81 hx hby d2_17 rfl rfl rfl ?_
  refine own_aload 21 X81 hx hby d2_19 rfl rfl rfl ?_
  refine own_getF 24 X81 hx hby hZ hown (own_w hw 11 rfl) e81 (W.2.2.2.2.2.2.2.2.2.2.2.2.2.2.2.2.2.2.2.2.2.2.2.2.2.2.2.2.2.2.2.2.2.2.2.2.2.2.2.2.2.2.2.2.2.2.2.2.2.2.2.2.2.2.2.2.2.2.2.2.2.2.1.ext O0.2) d2_21 rfl ?_
  intro T83 X83 e83
  refine own_iload_n 25 X83 hx hby d2_24 rfl rfl ?_
  refine own_icY 31 X83 hx hby d2_25 (by decide) (by decide) (feq hc84).2 ?_
  refine own_iinc 34 #[oI x0, oA w_ALL, oI (22 : Int32), oI (18 : Int32), oA w_UNHELD] X83 hx hby d2_31 rfl rfl rfl ?_
  refine own_goto 9 X83 hx hby d2_34 (by decide) (by decide) ?_
  refine own_iload_n 10 X83 hx hby d2_9 rfl rfl ?_
  refine own_iload_n 11 X83 hx hby d2_10 rfl rfl ?_
  refine own_icN 14 X83 hx hby d2_11 rfl (by decide) ?_
  refine own_aload_n 15 X83 hx hby d2_14 rfl rfl rfl ?_
  refine own_iload_n 16 X83 hx hby d2_15 rfl rfl ?_
  refine own_aaload 17 (.ref w_OPEN) X83 hx hby hZ e83 (W.2.2.2.2.2.2.2.2.2.2.2.2.2.2.2.2.2.2.2.2.2.2.2.2.2.2.2.2.2.2.2.2.2.2.2.2.2.2.2.2.2.2.2.2.2.2.2.2.2.2.2.2.2.2.2.2.2.2.2.2.2.2.2.2.2.2.2.ext O0.2) rfl d2_16 rfl (by decide) rfl ?_
  refine own_astore 19 #[oI x0, oA w_ALL, oI (22 : Int32), oI (18 : Int32), oA w_OPEN] X83 hx hby d2_17 rfl rfl rfl ?_
  refine own_aload 21 X83 hx hby d2_19 rfl rfl rfl ?_
  refine own_getF 24 X83 hx hby hZ hown (own_w hw 11 rfl) e83 (W.2.2.2.2.2.2.2.2.2.2.2.2.2.2.2.2.2.2.2.2.2.2.2.2.2.2.2.2.2.2.2.2.2.2.2.2.2.2.2.2.2.2.2.2.2.2.2.2.2.2.2.2.2.2.2.2.2.2.2.2.2.2.2.1.ext O0.2) d2_21 rfl ?_
  intro T85 X85 e85
  refine own_iload_n 25 X85 hx hby d2_24 rfl rfl ?_
  refine own_icY 31 X85 hx hby d2_25 (by decide) (by decide) (feq hc86).2 ?_
  refine own_iinc 34 #[oI x0, oA w_ALL, oI (22 : Int32), oI (19 : Int32), oA w_OPEN] X85 hx hby d2_31 rfl rfl rfl ?_
  refine own_goto 9 X85 hx hby d2_34 (by decide) (by decide) ?_
  refine own_iload_n 10 X85 hx hby d2_9 rfl rfl ?_
  refine own_iload_n 11 X85 hx hby d2_10 rfl rfl ?_
  refine own_icN 14 X85 hx hby d2_11 rfl (by decide) ?_
  refine own_aload_n 15 X85 hx hby d2_14 rfl rfl rfl ?_
  refine own_iload_n 16 X85 hx hby d2_15 rfl rfl ?_
  refine own_aaload 17 (.ref w_TRANSACTION) X85 hx hby hZ e85 (W.2.2.2.2.2.2.2.2.2.2.2.2.2.2.2.2.2.2.2.2.2.2.2.2.2.2.2.2.2.2.2.2.2.2.2.2.2.2.2.2.2.2.2.2.2.2.2.2.2.2.2.2.2.2.2.2.2.2.2.2.2.2.2.2.2.2.2.ext O0.2) rfl d2_16 rfl (by decide) rfl ?_
  refine own_astore 19 #[oI x0, oA w_ALL, oI (22 : Int32), oI (19 : Int32), oA w_TRANSACTION] X85 hx hby d2_17 rfl rfl rfl ?_
  refine own_aload 21 X85 hx hby d2_19 rfl rfl rfl ?_
  refine own_getF 24 X85 hx hby hZ hown (own_w hw 11 rfl) e85 (W.2.2.2.2.2.2.2.2.2.2.2.2.2.2.2.2.2.2.2.2.2.2.2.2.2.2.2.2.2.2.2.2.2.2.2.2.2.2.2.2.2.2.2.2.2.2.2.2.2.2.2.2.2.2.2.2.2.2.2.2.2.2.2.2.1.ext O0.2) d2_21 rfl ?_
  intro T87 X87 e87
  refine own_iload_n 25 X87 hx hby d2_24 rfl rfl ?_
  refine own_icY 31 X87 hx hby d2_25 (by decide) (by decide) (feq hc88).2 ?_
  refine own_iinc 34 #[oI x0, oA w_ALL, oI (22 : Int32), oI (20 : Int32), oA w_TRANSACTION] X87 hx hby d2_31 rfl rfl rfl ?_
  refine own_goto 9 X87 hx hby d2_34 (by decide) (by decide) ?_
  refine own_iload_n 10 X87 hx hby d2_9 rfl rfl ?_
  refine own_iload_n 11 X87 hx hby d2_10 rfl rfl ?_
  refine own_icN 14 X87 hx hby d2_11 rfl (by decide) ?_
  refine own_aload_n 15 X87 hx hby d2_14 rfl rfl rfl ?_
  refine own_iload_n 16 X87 hx hby d2_15 rfl rfl ?_
  refine own_aaload 17 (.ref w_REPLY) X87 hx hby hZ e87 (W.2.2.2.2.2.2.2.2.2.2.2.2.2.2.2.2.2.2.2.2.2.2.2.2.2.2.2.2.2.2.2.2.2.2.2.2.2.2.2.2.2.2.2.2.2.2.2.2.2.2.2.2.2.2.2.2.2.2.2.2.2.2.2.2.2.2.2.ext O0.2) rfl d2_16 rfl (by decide) rfl ?_
  refine own_astore 19 #[oI x0, oA w_ALL, oI (22 : Int32), oI (20 : Int32), oA w_REPLY] X87 hx hby d2_17 rfl rfl rfl ?_
  refine own_aload 21 X87 hx hby d2_19 rfl rfl rfl ?_
  refine own_getF 24 X87 hx hby hZ hown (own_w hw 11 rfl) e87 (W.2.2.2.2.2.2.2.2.2.2.2.2.2.2.2.2.2.2.2.2.2.2.2.2.2.2.2.2.2.2.2.2.2.2.2.2.2.2.2.2.2.2.2.2.2.2.2.2.2.2.2.2.2.2.2.2.2.2.2.2.2.2.2.2.2.1.ext O0.2) d2_21 rfl ?_
  intro T89 X89 e89
  refine own_iload_n 25 X89 hx hby d2_24 rfl rfl ?_
  refine own_icY 31 X89 hx hby d2_25 (by decide) (by decide) (feq hc90).2 ?_
  refine own_iinc 34 #[oI x0, oA w_ALL, oI (22 : Int32), oI (21 : Int32), oA w_REPLY] X89 hx hby d2_31 rfl rfl rfl ?_
  refine own_goto 9 X89 hx hby d2_34 (by decide) (by decide) ?_
  refine own_iload_n 10 X89 hx hby d2_9 rfl rfl ?_
  refine own_iload_n 11 X89 hx hby d2_10 rfl rfl ?_
  refine own_icN 14 X89 hx hby d2_11 rfl (by decide) ?_
  refine own_aload_n 15 X89 hx hby d2_14 rfl rfl rfl ?_
  refine own_iload_n 16 X89 hx hby d2_15 rfl rfl ?_
  refine own_aaload 17 (.ref w_KNOCK) X89 hx hby hZ e89 (W.2.2.2.2.2.2.2.2.2.2.2.2.2.2.2.2.2.2.2.2.2.2.2.2.2.2.2.2.2.2.2.2.2.2.2.2.2.2.2.2.2.2.2.2.2.2.2.2.2.2.2.2.2.2.2.2.2.2.2.2.2.2.2.2.2.2.2.ext O0.2) rfl d2_16 rfl (by decide) rfl ?_
  refine own_astore 19 #[oI x0, oA w_ALL, oI (22 : Int32), oI (21 : Int32), oA w_KNOCK] X89 hx hby d2_17 rfl rfl rfl ?_
  refine own_aload 21 X89 hx hby d2_19 rfl rfl rfl ?_
  refine own_getF 24 X89 hx hby hZ hown (own_w hw 11 rfl) e89 (W.2.2.2.2.2.2.2.2.2.2.2.2.2.2.2.2.2.2.2.2.2.2.2.2.2.2.2.2.2.2.2.2.2.2.2.2.2.2.2.2.2.2.2.2.2.2.2.2.2.2.2.2.2.2.2.2.2.2.2.2.2.2.2.2.2.2.1.ext O0.2) d2_21 rfl ?_
  intro T91 X91 e91
  refine own_iload_n 25 X91 hx hby d2_24 rfl rfl ?_
  refine own_icY 31 X91 hx hby d2_25 (by decide) (by decide) (feq hc92).2 ?_
  refine own_iinc 34 #[oI x0, oA w_ALL, oI (22 : Int32), oI (22 : Int32), oA w_KNOCK] X91 hx hby d2_31 rfl rfl rfl ?_
  refine own_goto 9 X91 hx hby d2_34 (by decide) (by decide) ?_
  refine own_iload_n 10 X91 hx hby d2_9 rfl rfl ?_
  refine own_iload_n 11 X91 hx hby d2_10 rfl rfl ?_
  refine own_icY 37 X91 hx hby d2_11 (by decide) (by decide) (by decide) ?_
  refine own_null 38 X91 hx hby d2_37 rfl ?_
  exact own_ret (Q := own_Q _ n0 h0) X91 hx hby hret hlk d2_38 rfl (Or.inr (Or.inr (Or.inr (Or.inr ⟨rfl, rfl, rfl⟩)))) (by decide) (by decide) ⟨rfl, N0, e91⟩
set_option maxRecDepth 65536 in
set_option maxHeartbeats 40000000 in
theorem rm0 (l : Launch) (Z : State) (a0 : Array Value) (hw : ∀ d ∈ tables_1, d.before a0 Z = true) (ws : List Jvm.Cond) (w_HELLO w_ADD_SERVICE w_GET_SERVICE w_LIST_SERVICES w_TRANSLATE w_RESOLVE w_RELEASE w_STATUS w_WAITING w_WATCH w_ACQUIRE w_RETIRE w_RESULT w_FAILURE w_DEAD w_COUNT_WAITING w_CLOSING w_UNHELD w_OPEN w_TRANSACTION w_REPLY w_KNOCK w_ALL k_ALL : Addr) (W : own_W Z w_HELLO w_ADD_SERVICE w_GET_SERVICE w_LIST_SERVICES w_TRANSLATE w_RESOLVE w_RELEASE w_STATUS w_WAITING w_WATCH w_ACQUIRE w_RETIRE w_RESULT w_FAILURE w_DEAD w_COUNT_WAITING w_CLOSING w_UNHELD w_OPEN w_TRANSACTION w_REPLY w_KNOCK w_ALL k_ALL) (x0 : Int32) (x1 : Int32) (h0 : Heap) (n0 : Nat) (O0 : Old Z n0 h0)  :
    MetFree l x (head1 (Jvm.Cond.code x code maxLocals ret :: ws) room_1) (fun a U => a = #[(.int x0), (.int x1)] ∧ Z.Warmed39 U.vm ∧ U.heap = h0) (fun _ _ _ _ _ => True) (fun _ U o U' => ∃ v L, o = .returned v ∧ own_Q1 n0 v U'.heap L ∧ FrameEnd U o U' L 0 0) := by
  refine MetFree.of_bodySF (plainFor_of_name pn_0) hisR ?_
  intro p e s m args below meth c s₁ Bd hml0 hP hK
  obtain ⟨rfl, hZ, hh⟩ := hP
  have hx := Bd.exec
  have hby := Bd.bytes
  have hml : c.maxLocals = 5 := hml0
  have hlk := BodyLoose.notSynchronized Bd
  have hret := Bd.returns
  have hown : s.vm.findClass "com/example/hop1/hop1/protocol/FrameKindOfPinLaw" = some m.cls := findClass_of_methodNamed Bd.named
  have hnm := (name_of_methodNamed Bd.named Bd.method).1
  have X0 : Stand p l e room_1 s m #[(.int x0), (.int x1)] below meth c s₁ [] 0 0 := Stand.of_body Bd
  have e0 : s₁.heap = h0 := by rw [← hh, Bd.state]; rfl
  have N0 := Fr.nil n0
  rw [ef_0 m x0 x1]
  show Go p e below _ (s₁.setTop (mkF m 0 #[oI x0, oI x1, oU, oU, oU] []))
  refine own_iload_n 1 X0 hx hby at_0 rfl rfl ?_
  refine own_iconst 2 (1 : Int32) X0 hx hby at_1 rfl (by decide) ?_
  rcases own_and1 x1 with hv1 | hv1
  · refine own_iand 3 (0 : Int32) X0 hx hby at_2 rfl hv1 ?_
    refine own_ifY 10 X0 hx hby at_3 (by decide) (by decide) (by decide) ?_
    refine own_iload_n 11 X0 hx hby at_10 rfl rfl ?_
    refine own_bipush 13 (63 : Int32) X0 hx hby at_11 rfl (by decide) ?_
    refine own_iand 14 (x0 &&& (63 : Int32)) X0 hx hby at_13 rfl rfl ?_
    refine own_istore_n 15 #[oI x0, oI x1, oI (x0 &&& (63 : Int32)), oU, oU] X0 hx hby at_14 rfl rfl ?_
    refine own_iload_n 16 X0 hx hby at_15 rfl rfl ?_
    by_cases hc46 : (x0 &&& (63 : Int32)) = (1 : Int32)
    · refine own_callS (W := 0) 19 (rm1_1 l Z a0 hw [] w_HELLO w_ADD_SERVICE w_GET_SERVICE w_LIST_SERVICES w_TRANSLATE w_RESOLVE w_RELEASE w_STATUS w_WAITING w_WATCH w_ACQUIRE w_RETIRE w_RESULT w_FAILURE w_DEAD w_COUNT_WAITING w_CLOSING w_UNHELD w_OPEN w_TRANSACTION w_REPLY w_KNOCK w_ALL k_ALL W (x0 &&& (63 : Int32)) h0 n0 O0 hc46) X0 hx hby hZ hown (own_w hw 0 rfl) (own_w hw 1 rfl) (own_w hw 2 rfl) (own_w hw 3 rfl) (by decide) (by rw [hml]; rfl) [(.int (x0 &&& (63 : Int32)))] [] pd_0 rfl at_16 rfl e0 rfl rfl rfl (by decide) (by decide) (by decide) (by decide) ?_
      rintro _ T47 L47 X47 ⟨rfl, N47, e47⟩
      have N47 := Fr.app N0 N47
      show Go p e below _ (T47.setTop (mkF m 19 _ [(.ref w_HELLO)]))
      refine own_astore_n 20 #[oI x0, oI x1, oI (x0 &&& (63 : Int32)), oA w_HELLO, oU] X47 hx hby at_19 rfl rfl rfl ?_
      refine own_iload_n 21 X47 hx hby at_20 rfl rfl ?_
      refine own_callS (W := 0) 24 (rm2_1 l Z a0 hw [] w_HELLO w_ADD_SERVICE w_GET_SERVICE w_LIST_SERVICES w_TRANSLATE w_RESOLVE w_RELEASE w_STATUS w_WAITING w_WATCH w_ACQUIRE w_RETIRE w_RESULT w_FAILURE w_DEAD w_COUNT_WAITING w_CLOSING w_UNHELD w_OPEN w_TRANSACTION w_REPLY w_KNOCK w_ALL k_ALL W (x0 &&& (63 : Int32)) h0 n0 O0 hc46.symm) X47 hx hby hZ hown (own_w hw 4 rfl) (own_w hw 5 rfl) (own_w hw 6 rfl) (own_w hw 7 rfl) (by decide) (by rw [hml]; rfl) [(.int (x0 &&& (63 : Int32)))] [] pd_0 rfl at_21 rfl e47 rfl rfl rfl (by decide) (by decide) (by decide) (by decide) ?_
      rintro _ T93 L93 X93 ⟨rfl, N93, e93⟩
      have N93 := Fr.app N47 N93
      show Go p e below _ (T93.setTop (mkF m 24 _ [(.ref w_HELLO)]))
      refine own_astore 26 #[oI x0, oI x1, oI (x0 &&& (63 : Int32)), oA w_HELLO, oA w_HELLO] X93 hx hby at_24 rfl rfl rfl ?_
      refine own_aload 28 X93 hx hby at_26 rfl rfl rfl ?_
      refine own_aload_n 29 X93 hx hby at_28 rfl rfl rfl ?_
      refine own_acmp 32 true X93 hx hby at_29 rfl rfl (by decide) (by decide) (decide_eq_true (congrArg Value.ref rfl)) ?_
      refine own_iconst 33 (1 : Int32) X93 hx hby at_32 rfl (by decide) ?_
      refine own_goto 37 X93 hx hby at_33 (by decide) (by decide) ?_
      exact own_ret (Q := own_Q1 n0) X93 hx hby hret hlk at_37 rfl (Or.inl ⟨rfl, by simp, _, rfl⟩) (by decide) (by decide) ⟨rfl, N93⟩
    by_cases hc94 : (x0 &&& (63 : Int32)) = (2 : Int32)
    · refine own_callS (W := 0) 19 (rm1_2 l Z a0 hw [] w_HELLO w_ADD_SERVICE w_GET_SERVICE w_LIST_SERVICES w_TRANSLATE w_RESOLVE w_RELEASE w_STATUS w_WAITING w_WATCH w_ACQUIRE w_RETIRE w_RESULT w_FAILURE w_DEAD w_COUNT_WAITING w_CLOSING w_UNHELD w_OPEN w_TRANSACTION w_REPLY w_KNOCK w_ALL k_ALL W (x0 &&& (63 : Int32)) h0 n0 O0 hc46 hc94) X0 hx hby hZ hown (own_w hw 0 rfl) (own_w hw 1 rfl) (own_w hw 2 rfl) (own_w hw 3 rfl) (by decide) (by rw [hml]; rfl) [(.int (x0 &&& (63 : Int32)))] [] pd_0 rfl at_16 rfl e0 rfl rfl rfl (by decide) (by decide) (by decide) (by decide) ?_
      rintro _ T95 L95 X95 ⟨rfl, N95, e95⟩
      have N95 := Fr.app N0 N95
      show Go p e below _ (T95.setTop (mkF m 19 _ [(.ref w_ADD_SERVICE)]))
      refine own_astore_n 20 #[oI x0, oI x1, oI (x0 &&& (63 : Int32)), oA w_ADD_SERVICE, oU] X95 hx hby at_19 rfl rfl rfl ?_
      refine own_iload_n 21 X95 hx hby at_20 rfl rfl ?_
      refine own_callS (W := 0) 24 (rm2_2 l Z a0 hw [] w_HELLO w_ADD_SERVICE w_GET_SERVICE w_LIST_SERVICES w_TRANSLATE w_RESOLVE w_RELEASE w_STATUS w_WAITING w_WATCH w_ACQUIRE w_RETIRE w_RESULT w_FAILURE w_DEAD w_COUNT_WAITING w_CLOSING w_UNHELD w_OPEN w_TRANSACTION w_REPLY w_KNOCK w_ALL k_ALL W (x0 &&& (63 : Int32)) h0 n0 O0 (fun q => hc46 q.symm) hc94.symm) X95 hx hby hZ hown (own_w hw 4 rfl) (own_w hw 5 rfl) (own_w hw 6 rfl) (own_w hw 7 rfl) (by decide) (by rw [hml]; rfl) [(.int (x0 &&& (63 : Int32)))] [] pd_0 rfl at_21 rfl e95 rfl rfl rfl (by decide) (by decide) (by decide) (by decide) ?_
      rintro _ T96 L96 X96 ⟨rfl, N96, e96⟩
      have N96 := Fr.app N95 N96
      show Go p e below _ (T96.setTop (mkF m 24 _ [(.ref w_ADD_SERVICE)]))
      refine own_astore 26 #[oI x0, oI x1, oI (x0 &&& (63 : Int32)), oA w_ADD_SERVICE, oA w_ADD_SERVICE] X96 hx hby at_24 rfl rfl rfl ?_
      refine own_aload 28 X96 hx hby at_26 rfl rfl rfl ?_
      refine own_aload_n 29 X96 hx hby at_28 rfl rfl rfl ?_
      refine own_acmp 32 true X96 hx hby at_29 rfl rfl (by decide) (by decide) (decide_eq_true (congrArg Value.ref rfl)) ?_
      refine own_iconst 33 (1 : Int32) X96 hx hby at_32 rfl (by decide) ?_
      refine own_goto 37 X96 hx hby at_33 (by decide) (by decide) ?_
      exact own_ret (Q := own_Q1 n0) X96 hx hby hret hlk at_37 rfl (Or.inl ⟨rfl, by simp, _, rfl⟩) (by decide) (by decide) ⟨rfl, N96⟩
    by_cases hc97 : (x0 &&& (63 : Int32)) = (3 : Int32)
    · refine own_callS (W := 0) 19 (rm1_3 l Z a0 hw [] w_HELLO w_ADD_SERVICE w_GET_SERVICE w_LIST_SERVICES w_TRANSLATE w_RESOLVE w_RELEASE w_STATUS w_WAITING w_WATCH w_ACQUIRE w_RETIRE w_RESULT w_FAILURE w_DEAD w_COUNT_WAITING w_CLOSING w_UNHELD w_OPEN w_TRANSACTION w_REPLY w_KNOCK w_ALL k_ALL W (x0 &&& (63 : Int32)) h0 n0 O0 hc46 hc94 hc97) X0 hx hby hZ hown (own_w hw 0 rfl) (own_w hw 1 rfl) (own_w hw 2 rfl) (own_w hw 3 rfl) (by decide) (by rw [hml]; rfl) [(.int (x0 &&& (63 : Int32)))] [] pd_0 rfl at_16 rfl e0 rfl rfl rfl (by decide) (by decide) (by decide) (by decide) ?_
      rintro _ T98 L98 X98 ⟨rfl, N98, e98⟩
      have N98 := Fr.app N0 N98
      show Go p e below _ (T98.setTop (mkF m 19 _ [(.ref w_GET_SERVICE)]))
      refine own_astore_n 20 #[oI x0, oI x1, oI (x0 &&& (63 : Int32)), oA w_GET_SERVICE, oU] X98 hx hby at_19 rfl rfl rfl ?_
      refine own_iload_n 21 X98 hx hby at_20 rfl rfl ?_
      refine own_callS (W := 0) 24 (rm2_3 l Z a0 hw [] w_HELLO w_ADD_SERVICE w_GET_SERVICE w_LIST_SERVICES w_TRANSLATE w_RESOLVE w_RELEASE w_STATUS w_WAITING w_WATCH w_ACQUIRE w_RETIRE w_RESULT w_FAILURE w_DEAD w_COUNT_WAITING w_CLOSING w_UNHELD w_OPEN w_TRANSACTION w_REPLY w_KNOCK w_ALL k_ALL W (x0 &&& (63 : Int32)) h0 n0 O0 (fun q => hc46 q.symm) (fun q => hc94 q.symm) hc97.symm) X98 hx hby hZ hown (own_w hw 4 rfl) (own_w hw 5 rfl) (own_w hw 6 rfl) (own_w hw 7 rfl) (by decide) (by rw [hml]; rfl) [(.int (x0 &&& (63 : Int32)))] [] pd_0 rfl at_21 rfl e98 rfl rfl rfl (by decide) (by decide) (by decide) (by decide) ?_
      rintro _ T99 L99 X99 ⟨rfl, N99, e99⟩
      have N99 := Fr.app N98 N99
      show Go p e below _ (T99.setTop (mkF m 24 _ [(.ref w_GET_SERVICE)]))
      refine own_astore 26 #[oI x0, oI x1, oI (x0 &&& (63 : Int32)), oA w_GET_SERVICE, oA w_GET_SERVICE] X99 hx hby at_24 rfl rfl rfl ?_
      refine own_aload 28 X99 hx hby at_26 rfl rfl rfl ?_
      refine own_aload_n 29 X99 hx hby at_28 rfl rfl rfl ?_
      refine own_acmp 32 true X99 hx hby at_29 rfl rfl (by decide) (by decide) (decide_eq_true (congrArg Value.ref rfl)) ?_
      refine own_iconst 33 (1 : Int32) X99 hx hby at_32 rfl (by decide) ?_
      refine own_goto 37 X99 hx hby at_33 (by decide) (by decide) ?_
      exact own_ret (Q := own_Q1 n0) X99 hx hby hret hlk at_37 rfl (Or.inl ⟨rfl, by simp, _, rfl⟩) (by decide) (by decide) ⟨rfl, N99⟩
    by_cases hc100 : (x0 &&& (63 : Int32)) = (4 : Int32)
    · refine own_callS (W := 0) 19 (rm1_4 l Z a0 hw [] w_HELLO w_ADD_SERVICE w_GET_SERVICE w_LIST_SERVICES w_TRANSLATE w_RESOLVE w_RELEASE w_STATUS w_WAITING w_WATCH w_ACQUIRE w_RETIRE w_RESULT w_FAILURE w_DEAD w_COUNT_WAITING w_CLOSING w_UNHELD w_OPEN w_TRANSACTION w_REPLY w_KNOCK w_ALL k_ALL W (x0 &&& (63 : Int32)) h0 n0 O0 hc46 hc94 hc97 hc100) X0 hx hby hZ hown (own_w hw 0 rfl) (own_w hw 1 rfl) (own_w hw 2 rfl) (own_w hw 3 rfl) (by decide) (by rw [hml]; rfl) [(.int (x0 &&& (63 : Int32)))] [] pd_0 rfl at_16 rfl e0 rfl rfl rfl (by decide) (by decide) (by decide) (by decide) ?_
      rintro _ T101 L101 X101 ⟨rfl, N101, e101⟩
      have N101 := Fr.app N0 N101
      show Go p e below _ (T101.setTop (mkF m 19 _ [(.ref w_LIST_SERVICES)]))
      refine own_astore_n 20 #[oI x0, oI x1, oI (x0 &&& (63 : Int32)), oA w_LIST_SERVICES, oU] X101 hx hby at_19 rfl rfl rfl ?_
      refine own_iload_n 21 X101 hx hby at_20 rfl rfl ?_
      refine own_callS (W := 0) 24 (rm2_4 l Z a0 hw [] w_HELLO w_ADD_SERVICE w_GET_SERVICE w_LIST_SERVICES w_TRANSLATE w_RESOLVE w_RELEASE w_STATUS w_WAITING w_WATCH w_ACQUIRE w_RETIRE w_RESULT w_FAILURE w_DEAD w_COUNT_WAITING w_CLOSING w_UNHELD w_OPEN w_TRANSACTION w_REPLY w_KNOCK w_ALL k_ALL W (x0 &&& (63 : Int32)) h0 n0 O0 (fun q => hc46 q.symm) (fun q => hc94 q.symm) (fun q => hc97 q.symm) hc100.symm) X101 hx hby hZ hown (own_w hw 4 rfl) (own_w hw 5 rfl) (own_w hw 6 rfl) (own_w hw 7 rfl) (by decide) (by rw [hml]; rfl) [(.int (x0 &&& (63 : Int32)))] [] pd_0 rfl at_21 rfl e101 rfl rfl rfl (by decide) (by decide) (by decide) (by decide) ?_
      rintro _ T102 L102 X102 ⟨rfl, N102, e102⟩
      have N102 := Fr.app N101 N102
      show Go p e below _ (T102.setTop (mkF m 24 _ [(.ref w_LIST_SERVICES)]))
      refine own_astore 26 #[oI x0, oI x1, oI (x0 &&& (63 : Int32)), oA w_LIST_SERVICES, oA w_LIST_SERVICES] X102 hx hby at_24 rfl rfl rfl ?_
      refine own_aload 28 X102 hx hby at_26 rfl rfl rfl ?_
      refine own_aload_n 29 X102 hx hby at_28 rfl rfl rfl ?_
      refine own_acmp 32 true X102 hx hby at_29 rfl rfl (by decide) (by decide) (decide_eq_true (congrArg Value.ref rfl)) ?_
      refine own_iconst 33 (1 : Int32) X102 hx hby at_32 rfl (by decide) ?_
      refine own_goto 37 X102 hx hby at_33 (by decide) (by decide) ?_
      exact own_ret (Q := own_Q1 n0) X102 hx hby hret hlk at_37 rfl (Or.inl ⟨rfl, by simp, _, rfl⟩) (by decide) (by decide) ⟨rfl, N102⟩
    by_cases hc103 : (x0 &&& (63 : Int32)) = (5 : Int32)
    · refine own_callS (W := 0) 19 (rm1_5 l Z a0 hw [] w_HELLO w_ADD_SERVICE w_GET_SERVICE w_LIST_SERVICES w_TRANSLATE w_RESOLVE w_RELEASE w_STATUS w_WAITING w_WATCH w_ACQUIRE w_RETIRE w_RESULT w_FAILURE w_DEAD w_COUNT_WAITING w_CLOSING w_UNHELD w_OPEN w_TRANSACTION w_REPLY w_KNOCK w_ALL k_ALL W (x0 &&& (63 : Int32)) h0 n0 O0 hc46 hc94 hc97 hc100 hc103) X0 hx hby hZ hown (own_w hw 0 rfl) (own_w hw 1 rfl) (own_w hw 2 rfl) (own_w hw 3 rfl) (by decide) (by rw [hml]; rfl) [(.int (x0 &&& (63 : Int32)))] [] pd_0 rfl at_16 rfl e0 rfl rfl rfl (by decide) (by decide) (by decide) (by decide) ?_
      rintro _ T104 L104 X104 ⟨rfl, N104, e104⟩
      have N104 := Fr.app N0 N104
      show Go p e below _ (T104.setTop (mkF m 19 _ [(.ref w_TRANSLATE)]))
      refine own_astore_n 20 #[oI x0, oI x1, oI (x0 &&& (63 : Int32)), oA w_TRANSLATE, oU] X104 hx hby at_19 rfl rfl rfl ?_
      refine own_iload_n 21 X104 hx hby at_20 rfl rfl ?_
      refine own_callS (W := 0) 24 (rm2_5 l Z a0 hw [] w_HELLO w_ADD_SERVICE w_GET_SERVICE w_LIST_SERVICES w_TRANSLATE w_RESOLVE w_RELEASE w_STATUS w_WAITING w_WATCH w_ACQUIRE w_RETIRE w_RESULT w_FAILURE w_DEAD w_COUNT_WAITING w_CLOSING w_UNHELD w_OPEN w_TRANSACTION w_REPLY w_KNOCK w_ALL k_ALL W (x0 &&& (63 : Int32)) h0 n0 O0 (fun q => hc46 q.symm) (fun q => hc94 q.symm) (fun q => hc97 q.symm) (fun q => hc100 q.symm) hc103.symm) X104 hx hby hZ hown (own_w hw 4 rfl) (own_w hw 5 rfl) (own_w hw 6 rfl) (own_w hw 7 rfl) (by decide) (by rw [hml]; rfl) [(.int (x0 &&& (63 : Int32)))] [] pd_0 rfl at_21 rfl e104 rfl rfl rfl (by decide) (by decide) (by decide) (by decide) ?_
      rintro _ T105 L105 X105 ⟨rfl, N105, e105⟩
      have N105 := Fr.app N104 N105
      show Go p e below _ (T105.setTop (mkF m 24 _ [(.ref w_TRANSLATE)]))
      refine own_astore 26 #[oI x0, oI x1, oI (x0 &&& (63 : Int32)), oA w_TRANSLATE, oA w_TRANSLATE] X105 hx hby at_24 rfl rfl rfl ?_
      refine own_aload 28 X105 hx hby at_26 rfl rfl rfl ?_
      refine own_aload_n 29 X105 hx hby at_28 rfl rfl rfl ?_
      refine own_acmp 32 true X105 hx hby at_29 rfl rfl (by decide) (by decide) (decide_eq_true (congrArg Value.ref rfl)) ?_
      refine own_iconst 33 (1 : Int32) X105 hx hby at_32 rfl (by decide) ?_
      refine own_goto 37 X105 hx hby at_33 (by decide) (by decide) ?_
      exact own_ret (Q := own_Q1 n0) X105 hx hby hret hlk at_37 rfl (Or.inl ⟨rfl, by simp, _, rfl⟩) (by decide) (by decide) ⟨rfl, N105⟩
    by_cases hc106 : (x0 &&& (63 : Int32)) = (6 : Int32)
    · refine own_callS (W := 0) 19 (rm1_6 l Z a0 hw [] w_HELLO w_ADD_SERVICE w_GET_SERVICE w_LIST_SERVICES w_TRANSLATE w_RESOLVE w_RELEASE w_STATUS w_WAITING w_WATCH w_ACQUIRE w_RETIRE w_RESULT w_FAILURE w_DEAD w_COUNT_WAITING w_CLOSING w_UNHELD w_OPEN w_TRANSACTION w_REPLY w_KNOCK w_ALL k_ALL W (x0 &&& (63 : Int32)) h0 n0 O0 hc46 hc94 hc97 hc100 hc103 hc106) X0 hx hby hZ hown (own_w hw 0 rfl) (own_w hw 1 rfl) (own_w hw 2 rfl) (own_w hw 3 rfl) (by decide) (by rw [hml]; rfl) [(.int (x0 &&& (63 : Int32)))] [] pd_0 rfl at_16 rfl e0 rfl rfl rfl (by decide) (by decide) (by decide) (by decide) ?_
      rintro _ T107 L107 X107 ⟨rfl, N107, e107⟩
      have N107 := Fr.app N0 N107
      show Go p e below _ (T107.setTop (mkF m 19 _ [(.ref w_RESOLVE)]))
      refine own_astore_n 20 #[oI x0, oI x1, oI (x0 &&& (63 : Int32)), oA w_RESOLVE, oU] X107 hx hby at_19 rfl rfl rfl ?_
      refine own_iload_n 21 X107 hx hby at_20 rfl rfl ?_
      refine own_callS (W := 0) 24 (rm2_6 l Z a0 hw [] w_HELLO w_ADD_SERVICE w_GET_SERVICE w_LIST_SERVICES w_TRANSLATE w_RESOLVE w_RELEASE w_STATUS w_WAITING w_WATCH w_ACQUIRE w_RETIRE w_RESULT w_FAILURE w_DEAD w_COUNT_WAITING w_CLOSING w_UNHELD w_OPEN w_TRANSACTION w_REPLY w_KNOCK w_ALL k_ALL W (x0 &&& (63 : Int32)) h0 n0 O0 (fun q => hc46 q.symm) (fun q => hc94 q.symm) (fun q => hc97 q.symm) (fun q => hc100 q.symm) (fun q => hc103 q.symm) hc106.symm) X107 hx hby hZ hown (own_w hw 4 rfl) (own_w hw 5 rfl) (own_w hw 6 rfl) (own_w hw 7 rfl) (by decide) (by rw [hml]; rfl) [(.int (x0 &&& (63 : Int32)))] [] pd_0 rfl at_21 rfl e107 rfl rfl rfl (by decide) (by decide) (by decide) (by decide) ?_
      rintro _ T108 L108 X108 ⟨rfl, N108, e108⟩
      have N108 := Fr.app N107 N108
      show Go p e below _ (T108.setTop (mkF m 24 _ [(.ref w_RESOLVE)]))
      refine own_astore 26 #[oI x0, oI x1, oI (x0 &&& (63 : Int32)), oA w_RESOLVE, oA w_RESOLVE] X108 hx hby at_24 rfl rfl rfl ?_
      refine own_aload 28 X108 hx hby at_26 rfl rfl rfl ?_
      refine own_aload_n 29 X108 hx hby at_28 rfl rfl rfl ?_
      refine own_acmp 32 true X108 hx hby at_29 rfl rfl (by decide) (by decide) (decide_eq_true (congrArg Value.ref rfl)) ?_
      refine own_iconst 33 (1 : Int32) X108 hx hby at_32 rfl (by decide) ?_
      refine own_goto 37 X108 hx hby at_33 (by decide) (by decide) ?_
      exact own_ret (Q := own_Q1 n0) X108 hx hby hret hlk at_37 rfl (Or.inl ⟨rfl, by simp, _, rfl⟩) (by decide) (by decide) ⟨rfl, N108⟩
    by_cases hc109 : (x0 &&& (63 : Int32)) = (7 : Int32)
    · refine own_callS (W := 0) 19 (rm1_7 l Z a0 hw [] w_HELLO w_ADD_SERVICE w_GET_SERVICE w_LIST_SERVICES w_TRANSLATE w_RESOLVE w_RELEASE w_STATUS w_WAITING w_WATCH w_ACQUIRE w_RETIRE w_RESULT w_FAILURE w_DEAD w_COUNT_WAITING w_CLOSING w_UNHELD w_OPEN w_TRANSACTION w_REPLY w_KNOCK w_ALL k_ALL W (x0 &&& (63 : Int32)) h0 n0 O0 hc46 hc94 hc97 hc100 hc103 hc106 hc109) X0 hx hby hZ hown (own_w hw 0 rfl) (own_w hw 1 rfl) (own_w hw 2 rfl) (own_w hw 3 rfl) (by decide) (by rw [hml]; rfl) [(.int (x0 &&& (63 : Int32)))] [] pd_0 rfl at_16 rfl e0 rfl rfl rfl (by decide) (by decide) (by decide) (by decide) ?_
      rintro _ T110 L110 X110 ⟨rfl, N110, e110⟩
      have N110 := Fr.app N0 N110
      show Go p e below _ (T110.setTop (mkF m 19 _ [(.ref w_RELEASE)]))
      refine own_astore_n 20 #[oI x0, oI x1, oI (x0 &&& (63 : Int32)), oA w_RELEASE, oU] X110 hx hby at_19 rfl rfl rfl ?_
      refine own_iload_n 21 X110 hx hby at_20 rfl rfl ?_
      refine own_callS (W := 0) 24 (rm2_7 l Z a0 hw [] w_HELLO w_ADD_SERVICE w_GET_SERVICE w_LIST_SERVICES w_TRANSLATE w_RESOLVE w_RELEASE w_STATUS w_WAITING w_WATCH w_ACQUIRE w_RETIRE w_RESULT w_FAILURE w_DEAD w_COUNT_WAITING w_CLOSING w_UNHELD w_OPEN w_TRANSACTION w_REPLY w_KNOCK w_ALL k_ALL W (x0 &&& (63 : Int32)) h0 n0 O0 (fun q => hc46 q.symm) (fun q => hc94 q.symm) (fun q => hc97 q.symm) (fun q => hc100 q.symm) (fun q => hc103 q.symm) (fun q => hc106 q.symm) hc109.symm) X110 hx hby hZ hown (own_w hw 4 rfl) (own_w hw 5 rfl) (own_w hw 6 rfl) (own_w hw 7 rfl) (by decide) (by rw [hml]; rfl) [(.int (x0 &&& (63 : Int32)))] [] pd_0 rfl at_21 rfl e110 rfl rfl rfl (by decide) (by decide) (by decide) (by decide) ?_
      rintro _ T111 L111 X111 ⟨rfl, N111, e111⟩
      have N111 := Fr.app N110 N111
      show Go p e below _ (T111.setTop (mkF m 24 _ [(.ref w_RELEASE)]))
      refine own_astore 26 #[oI x0, oI x1, oI (x0 &&& (63 : Int32)), oA w_RELEASE, oA w_RELEASE] X111 hx hby at_24 rfl rfl rfl ?_
      refine own_aload 28 X111 hx hby at_26 rfl rfl rfl ?_
      refine own_aload_n 29 X111 hx hby at_28 rfl rfl rfl ?_
      refine own_acmp 32 true X111 hx hby at_29 rfl rfl (by decide) (by decide) (decide_eq_true (congrArg Value.ref rfl)) ?_
      refine own_iconst 33 (1 : Int32) X111 hx hby at_32 rfl (by decide) ?_
      refine own_goto 37 X111 hx hby at_33 (by decide) (by decide) ?_
      exact own_ret (Q := own_Q1 n0) X111 hx hby hret hlk at_37 rfl (Or.inl ⟨rfl, by simp, _, rfl⟩) (by decide) (by decide) ⟨rfl, N111⟩
    by_cases hc112 : (x0 &&& (63 : Int32)) = (8 : Int32)
    · refine own_callS (W := 0) 19 (rm1_8 l Z a0 hw [] w_HELLO w_ADD_SERVICE w_GET_SERVICE w_LIST_SERVICES w_TRANSLATE w_RESOLVE w_RELEASE w_STATUS w_WAITING w_WATCH w_ACQUIRE w_RETIRE w_RESULT w_FAILURE w_DEAD w_COUNT_WAITING w_CLOSING w_UNHELD w_OPEN w_TRANSACTION w_REPLY w_KNOCK w_ALL k_ALL W (x0 &&& (63 : Int32)) h0 n0 O0 hc46 hc94 hc97 hc100 hc103 hc106 hc109 hc112) X0 hx hby hZ hown (own_w hw 0 rfl) (own_w hw 1 rfl) (own_w hw 2 rfl) (own_w hw 3 rfl) (by decide) (by rw [hml]; rfl) [(.int (x0 &&& (63 : Int32)))] [] pd_0 rfl at_16 rfl e0 rfl rfl rfl (by decide) (by decide) (by decide) (by decide) ?_
      rintro _ T113 L113 X113 ⟨rfl, N113, e113⟩
      have N113 := Fr.app N0 N113
      show Go p e below _ (T113.setTop (mkF m 19 _ [(.ref w_STATUS)]))
      refine own_astore_n 20 #[oI x0, oI x1, oI (x0 &&& (63 : Int32)), oA w_STATUS, oU] X113 hx hby at_19 rfl rfl rfl ?_
      refine own_iload_n 21 X113 hx hby at_20 rfl rfl ?_
      refine own_callS (W := 0) 24 (rm2_8 l Z a0 hw [] w_HELLO w_ADD_SERVICE w_GET_SERVICE w_LIST_SERVICES w_TRANSLATE w_RESOLVE w_RELEASE w_STATUS w_WAITING w_WATCH w_ACQUIRE w_RETIRE w_RESULT w_FAILURE w_DEAD w_COUNT_WAITING w_CLOSING w_UNHELD w_OPEN w_TRANSACTION w_REPLY w_KNOCK w_ALL k_ALL W (x0 &&& (63 : Int32)) h0 n0 O0 (fun q => hc46 q.symm) (fun q => hc94 q.symm) (fun q => hc97 q.symm) (fun q => hc100 q.symm) (fun q => hc103 q.symm) (fun q => hc106 q.symm) (fun q => hc109 q.symm) hc112.symm) X113 hx hby hZ hown (own_w hw 4 rfl) (own_w hw 5 rfl) (own_w hw 6 rfl) (own_w hw 7 rfl) (by decide) (by rw [hml]; rfl) [(.int (x0 &&& (63 : Int32)))] [] pd_0 rfl at_21 rfl e113 rfl rfl rfl (by decide) (by decide) (by decide) (by decide) ?_
      rintro _ T114 L114 X114 ⟨rfl, N114, e114⟩
      have N114 := Fr.app N113 N114
      show Go p e below _ (T114.setTop (mkF m 24 _ [(.ref w_STATUS)]))
      refine own_astore 26 #[oI x0, oI x1, oI (x0 &&& (63 : Int32)), oA w_STATUS, oA w_STATUS] X114 hx hby at_24 rfl rfl rfl ?_
      refine own_aload 28 X114 hx hby at_26 rfl rfl rfl ?_
      refine own_aload_n 29 X114 hx hby at_28 rfl rfl rfl ?_
      refine own_acmp 32 true X114 hx hby at_29 rfl rfl (by decide) (by decide) (decide_eq_true (congrArg Value.ref rfl)) ?_
      refine own_iconst 33 (1 : Int32) X114 hx hby at_32 rfl (by decide) ?_
      refine own_goto 37 X114 hx hby at_33 (by decide) (by decide) ?_
      exact own_ret (Q := own_Q1 n0) X114 hx hby hret hlk at_37 rfl (Or.inl ⟨rfl, by simp, _, rfl⟩) (by decide) (by decide) ⟨rfl, N114⟩
    by_cases hc115 : (x0 &&& (63 : Int32)) = (9 : Int32)
    · refine own_callS (W := 0) 19 (rm1_9 l Z a0 hw [] w_HELLO w_ADD_SERVICE w_GET_SERVICE w_LIST_SERVICES w_TRANSLATE w_RESOLVE w_RELEASE w_STATUS w_WAITING w_WATCH w_ACQUIRE w_RETIRE w_RESULT w_FAILURE w_DEAD w_COUNT_WAITING w_CLOSING w_UNHELD w_OPEN w_TRANSACTION w_REPLY w_KNOCK w_ALL k_ALL W (x0 &&& (63 : Int32)) h0 n0 O0 hc46 hc94 hc97 hc100 hc103 hc106 hc109 hc112 hc115) X0 hx hby hZ hown (own_w hw 0 rfl) (own_w hw 1 rfl) (own_w hw 2 rfl) (own_w hw 3 rfl) (by decide) (by rw [hml]; rfl) [(.int (x0 &&& (63 : Int32)))] [] pd_0 rfl at_16 rfl e0 rfl rfl rfl (by decide) (by decide) (by decide) (by decide) ?_
      rintro _ T116 L116 X116 ⟨rfl, N116, e116⟩
      have N116 := Fr.app N0 N116
      show Go p e below _ (T116.setTop (mkF m 19 _ [(.ref w_WAITING)]))
      refine own_astore_n 20 #[oI x0, oI x1, oI (x0 &&& (63 : Int32)), oA w_WAITING, oU] X116 hx hby at_19 rfl rfl rfl ?_
      refine own_iload_n 21 X116 hx hby at_20 rfl rfl ?_
      refine own_callS (W := 0) 24 (rm2_9 l Z a0 hw [] w_HELLO w_ADD_SERVICE w_GET_SERVICE w_LIST_SERVICES w_TRANSLATE w_RESOLVE w_RELEASE w_STATUS w_WAITING w_WATCH w_ACQUIRE w_RETIRE w_RESULT w_FAILURE w_DEAD w_COUNT_WAITING w_CLOSING w_UNHELD w_OPEN w_TRANSACTION w_REPLY w_KNOCK w_ALL k_ALL W (x0 &&& (63 : Int32)) h0 n0 O0 (fun q => hc46 q.symm) (fun q => hc94 q.symm) (fun q => hc97 q.symm) (fun q => hc100 q.symm) (fun q => hc103 q.symm) (fun q => hc106 q.symm) (fun q => hc109 q.symm) (fun q => hc112 q.symm) hc115.symm) X116 hx hby hZ hown (own_w hw 4 rfl) (own_w hw 5 rfl) (own_w hw 6 rfl) (own_w hw 7 rfl) (by decide) (by rw [hml]; rfl) [(.int (x0 &&& (63 : Int32)))] [] pd_0 rfl at_21 rfl e116 rfl rfl rfl (by decide) (by decide) (by decide) (by decide) ?_
      rintro _ T117 L117 X117 ⟨rfl, N117, e117⟩
      have N117 := Fr.app N116 N117
      show Go p e below _ (T117.setTop (mkF m 24 _ [(.ref w_WAITING)]))
      refine own_astore 26 #[oI x0, oI x1, oI (x0 &&& (63 : Int32)), oA w_WAITING, oA w_WAITING] X117 hx hby at_24 rfl rfl rfl ?_
      refine own_aload 28 X117 hx hby at_26 rfl rfl rfl ?_
      refine own_aload_n 29 X117 hx hby at_28 rfl rfl rfl ?_
      refine own_acmp 32 true X117 hx hby at_29 rfl rfl (by decide) (by decide) (decide_eq_true (congrArg Value.ref rfl)) ?_
      refine own_iconst 33 (1 : Int32) X117 hx hby at_32 rfl (by decide) ?_
      refine own_goto 37 X117 hx hby at_33 (by decide) (by decide) ?_
      exact own_ret (Q := own_Q1 n0) X117 hx hby hret hlk at_37 rfl (Or.inl ⟨rfl, by simp, _, rfl⟩) (by decide) (by decide) ⟨rfl, N117⟩
    by_cases hc118 : (x0 &&& (63 : Int32)) = (10 : Int32)
    · refine own_callS (W := 0) 19 (rm1_10 l Z a0 hw [] w_HELLO w_ADD_SERVICE w_GET_SERVICE w_LIST_SERVICES w_TRANSLATE w_RESOLVE w_RELEASE w_STATUS w_WAITING w_WATCH w_ACQUIRE w_RETIRE w_RESULT w_FAILURE w_DEAD w_COUNT_WAITING w_CLOSING w_UNHELD w_OPEN w_TRANSACTION w_REPLY w_KNOCK w_ALL k_ALL W (x0 &&& (63 : Int32)) h0 n0 O0 hc46 hc94 hc97 hc100 hc103 hc106 hc109 hc112 hc115 hc118) X0 hx hby hZ hown (own_w hw 0 rfl) (own_w hw 1 rfl) (own_w hw 2 rfl) (own_w hw 3 rfl) (by decide) (by rw [hml]; rfl) [(.int (x0 &&& (63 : Int32)))] [] pd_0 rfl at_16 rfl e0 rfl rfl rfl (by decide) (by decide) (by decide) (by decide) ?_
      rintro _ T119 L119 X119 ⟨rfl, N119, e119⟩
      have N119 := Fr.app N0 N119
      show Go p e below _ (T119.setTop (mkF m 19 _ [(.ref w_WATCH)]))
      refine own_astore_n 20 #[oI x0, oI x1, oI (x0 &&& (63 : Int32)), oA w_WATCH, oU] X119 hx hby at_19 rfl rfl rfl ?_
      refine own_iload_n 21 X119 hx hby at_20 rfl rfl ?_
      refine own_callS (W := 0) 24 (rm2_10 l Z a0 hw [] w_HELLO w_ADD_SERVICE w_GET_SERVICE w_LIST_SERVICES w_TRANSLATE w_RESOLVE w_RELEASE w_STATUS w_WAITING w_WATCH w_ACQUIRE w_RETIRE w_RESULT w_FAILURE w_DEAD w_COUNT_WAITING w_CLOSING w_UNHELD w_OPEN w_TRANSACTION w_REPLY w_KNOCK w_ALL k_ALL W (x0 &&& (63 : Int32)) h0 n0 O0 (fun q => hc46 q.symm) (fun q => hc94 q.symm) (fun q => hc97 q.symm) (fun q => hc100 q.symm) (fun q => hc103 q.symm) (fun q => hc106 q.symm) (fun q => hc109 q.symm) (fun q => hc112 q.symm) (fun q => hc115 q.symm) hc118.symm) X119 hx hby hZ hown (own_w hw 4 rfl) (own_w hw 5 rfl) (own_w hw 6 rfl) (own_w hw 7 rfl) (by decide) (by rw [hml]; rfl) [(.int (x0 &&& (63 : Int32)))] [] pd_0 rfl at_21 rfl e119 rfl rfl rfl (by decide) (by decide) (by decide) (by decide) ?_
      rintro _ T120 L120 X120 ⟨rfl, N120, e120⟩
      have N120 := Fr.app N119 N120
      show Go p e below _ (T120.setTop (mkF m 24 _ [(.ref w_WATCH)]))
      refine own_astore 26 #[oI x0, oI x1, oI (x0 &&& (63 : Int32)), oA w_WATCH, oA w_WATCH] X120 hx hby at_24 rfl rfl rfl ?_
      refine own_aload 28 X120 hx hby at_26 rfl rfl rfl ?_
      refine own_aload_n 29 X120 hx hby at_28 rfl rfl rfl ?_
      refine own_acmp 32 true X120 hx hby at_29 rfl rfl (by decide) (by decide) (decide_eq_true (congrArg Value.ref rfl)) ?_
      refine own_iconst 33 (1 : Int32) X120 hx hby at_32 rfl (by decide) ?_
      refine own_goto 37 X120 hx hby at_33 (by decide) (by decide) ?_
      exact own_ret (Q := own_Q1 n0) X120 hx hby hret hlk at_37 rfl (Or.inl ⟨rfl, by simp, _, rfl⟩) (by decide) (by decide) ⟨rfl, N120⟩
    by_cases hc121 : (x0 &&& (63 : Int32)) = (11 : Int32)
    · refine own_callS (W := 0) 19 (rm1_11 l Z a0 hw [] w_HELLO w_ADD_SERVICE w_GET_SERVICE w_LIST_SERVICES w_TRANSLATE w_RESOLVE w_RELEASE w_STATUS w_WAITING w_WATCH w_ACQUIRE w_RETIRE w_RESULT w_FAILURE w_DEAD w_COUNT_WAITING w_CLOSING w_UNHELD w_OPEN w_TRANSACTION w_REPLY w_KNOCK w_ALL k_ALL W (x0 &&& (63 : Int32)) h0 n0 O0 hc46 hc94 hc97 hc100 hc103 hc106 hc109 hc112 hc115 hc118 hc121) X0 hx hby hZ hown (own_w hw 0 rfl) (own_w hw 1 rfl) (own_w hw 2 rfl) (own_w hw 3 rfl) (by decide) (by rw [hml]; rfl) [(.int (x0 &&& (63 : Int32)))] [] pd_0 rfl at_16 rfl e0 rfl rfl rfl (by decide) (by decide) (by decide) (by decide) ?_
      rintro _ T122 L122 X122 ⟨rfl, N122, e122⟩
      have N122 := Fr.app N0 N122
      show Go p e below _ (T122.setTop (mkF m 19 _ [(.ref w_ACQUIRE)]))
      refine own_astore_n 20 #[oI x0, oI x1, oI (x0 &&& (63 : Int32)), oA w_ACQUIRE, oU] X122 hx hby at_19 rfl rfl rfl ?_
      refine own_iload_n 21 X122 hx hby at_20 rfl rfl ?_
      refine own_callS (W := 0) 24 (rm2_11 l Z a0 hw [] w_HELLO w_ADD_SERVICE w_GET_SERVICE w_LIST_SERVICES w_TRANSLATE w_RESOLVE w_RELEASE w_STATUS w_WAITING w_WATCH w_ACQUIRE w_RETIRE w_RESULT w_FAILURE w_DEAD w_COUNT_WAITING w_CLOSING w_UNHELD w_OPEN w_TRANSACTION w_REPLY w_KNOCK w_ALL k_ALL W (x0 &&& (63 : Int32)) h0 n0 O0 (fun q => hc46 q.symm) (fun q => hc94 q.symm) (fun q => hc97 q.symm) (fun q => hc100 q.symm) (fun q => hc103 q.symm) (fun q => hc106 q.symm) (fun q => hc109 q.symm) (fun q => hc112 q.symm) (fun q => hc115 q.symm) (fun q => hc118 q.symm) hc121.symm) X122 hx hby hZ hown (own_w hw 4 rfl) (own_w hw 5 rfl) (own_w hw 6 rfl) (own_w hw 7 rfl) (by decide) (by rw [hml]; rfl) [(.int (x0 &&& (63 : Int32)))] [] pd_0 rfl at_21 rfl e122 rfl rfl rfl (by decide) (by decide) (by decide) (by decide) ?_
      rintro _ T123 L123 X123 ⟨rfl, N123, e123⟩
      have N123 := Fr.app N122 N123
      show Go p e below _ (T123.setTop (mkF m 24 _ [(.ref w_ACQUIRE)]))
      refine own_astore 26 #[oI x0, oI x1, oI (x0 &&& (63 : Int32)), oA w_ACQUIRE, oA w_ACQUIRE] X123 hx hby at_24 rfl rfl rfl ?_
      refine own_aload 28 X123 hx hby at_26 rfl rfl rfl ?_
      refine own_aload_n 29 X123 hx hby at_28 rfl rfl rfl ?_
      refine own_acmp 32 true X123 hx hby at_29 rfl rfl (by decide) (by decide) (decide_eq_true (congrArg Value.ref rfl)) ?_
      refine own_iconst 33 (1 : Int32) X123 hx hby at_32 rfl (by decide) ?_
      refine own_goto 37 X123 hx hby at_33 (by decide) (by decide) ?_
      exact own_ret (Q := own_Q1 n0) X123 hx hby hret hlk at_37 rfl (Or.inl ⟨rfl, by simp, _, rfl⟩) (by decide) (by decide) ⟨rfl, N123⟩
    by_cases hc124 : (x0 &&& (63 : Int32)) = (12 : Int32)
    · refine own_callS (W := 0) 19 (rm1_12 l Z a0 hw [] w_HELLO w_ADD_SERVICE w_GET_SERVICE w_LIST_SERVICES w_TRANSLATE w_RESOLVE w_RELEASE w_STATUS w_WAITING w_WATCH w_ACQUIRE w_RETIRE w_RESULT w_FAILURE w_DEAD w_COUNT_WAITING w_CLOSING w_UNHELD w_OPEN w_TRANSACTION w_REPLY w_KNOCK w_ALL k_ALL W (x0 &&& (63 : Int32)) h0 n0 O0 hc46 hc94 hc97 hc100 hc103 hc106 hc109 hc112 hc115 hc118 hc121 hc124) X0 hx hby hZ hown (own_w hw 0 rfl) (own_w hw 1 rfl) (own_w hw 2 rfl) (own_w hw 3 rfl) (by decide) (by rw [hml]; rfl) [(.int (x0 &&& (63 : Int32)))] [] pd_0 rfl at_16 rfl e0 rfl rfl rfl (by decide) (by decide) (by decide) (by decide) ?_
      rintro _ T125 L125 X125 ⟨rfl, N125, e125⟩
      have N125 := Fr.app N0 N125
      show Go p e below _ (T125.setTop (mkF m 19 _ [(.ref w_RETIRE)]))
      refine own_astore_n 20 #[oI x0, oI x1, oI (x0 &&& (63 : Int32)), oA w_RETIRE, oU] X125 hx hby at_19 rfl rfl rfl ?_
      refine own_iload_n 21 X125 hx hby at_20 rfl rfl ?_
      refine own_callS (W := 0) 24 (rm2_12 l Z a0 hw [] w_HELLO w_ADD_SERVICE w_GET_SERVICE w_LIST_SERVICES w_TRANSLATE w_RESOLVE w_RELEASE w_STATUS w_WAITING w_WATCH w_ACQUIRE w_RETIRE w_RESULT w_FAILURE w_DEAD w_COUNT_WAITING w_CLOSING w_UNHELD w_OPEN w_TRANSACTION w_REPLY w_KNOCK w_ALL k_ALL W (x0 &&& (63 : Int32)) h0 n0 O0 (fun q => hc46 q.symm) (fun q => hc94 q.symm) (fun q => hc97 q.symm) (fun q => hc100 q.symm) (fun q => hc103 q.symm) (fun q => hc106 q.symm) (fun q => hc109 q.symm) (fun q => hc112 q.symm) (fun q => hc115 q.symm) (fun q => hc118 q.symm) (fun q => hc121 q.symm) hc124.symm) X125 hx hby hZ hown (own_w hw 4 rfl) (own_w hw 5 rfl) (own_w hw 6 rfl) (own_w hw 7 rfl) (by decide) (by rw [hml]; rfl) [(.int (x0 &&& (63 : Int32)))] [] pd_0 rfl at_21 rfl e125 rfl rfl rfl (by decide) (by decide) (by decide) (by decide) ?_
      rintro _ T126 L126 X126 ⟨rfl, N126, e126⟩
      have N126 := Fr.app N125 N126
      show Go p e below _ (T126.setTop (mkF m 24 _ [(.ref w_RETIRE)]))
      refine own_astore 26 #[oI x0, oI x1, oI (x0 &&& (63 : Int32)), oA w_RETIRE, oA w_RETIRE] X126 hx hby at_24 rfl rfl rfl ?_
      refine own_aload 28 X126 hx hby at_26 rfl rfl rfl ?_
      refine own_aload_n 29 X126 hx hby at_28 rfl rfl rfl ?_
      refine own_acmp 32 true X126 hx hby at_29 rfl rfl (by decide) (by decide) (decide_eq_true (congrArg Value.ref rfl)) ?_
      refine own_iconst 33 (1 : Int32) X126 hx hby at_32 rfl (by decide) ?_
      refine own_goto 37 X126 hx hby at_33 (by decide) (by decide) ?_
      exact own_ret (Q := own_Q1 n0) X126 hx hby hret hlk at_37 rfl (Or.inl ⟨rfl, by simp, _, rfl⟩) (by decide) (by decide) ⟨rfl, N126⟩
    by_cases hc127 : (x0 &&& (63 : Int32)) = (16 : Int32)
    · refine own_callS (W := 0) 19 (rm1_13 l Z a0 hw [] w_HELLO w_ADD_SERVICE w_GET_SERVICE w_LIST_SERVICES w_TRANSLATE w_RESOLVE w_RELEASE w_STATUS w_WAITING w_WATCH w_ACQUIRE w_RETIRE w_RESULT w_FAILURE w_DEAD w_COUNT_WAITING w_CLOSING w_UNHELD w_OPEN w_TRANSACTION w_REPLY w_KNOCK w_ALL k_ALL W (x0 &&& (63 : Int32)) h0 n0 O0 hc46 hc94 hc97 hc100 hc103 hc106 hc109 hc112 hc115 hc118 hc121 hc124 hc127) X0 hx hby hZ hown (own_w hw 0 rfl) (own_w hw 1 rfl) (own_w hw 2 rfl) (own_w hw 3 rfl) (by decide) (by rw [hml]; rfl) [(.int (x0 &&& (63 : Int32)))] [] pd_0 rfl at_16 rfl e0 rfl rfl rfl (by decide) (by decide) (by decide) (by decide) ?_
      rintro _ T128 L128 X128 ⟨rfl, N128, e128⟩
      have N128 := Fr.app N0 N128
      show Go p e below _ (T128.setTop (mkF m 19 _ [(.ref w_RESULT)]))
      refine own_astore_n 20 #[oI x0, oI x1, oI (x0 &&& (63 : Int32)), oA w_RESULT, oU] X128 hx hby at_19 rfl rfl rfl ?_
      refine own_iload_n 21 X128 hx hby at_20 rfl rfl ?_
      refine own_callS (W := 0) 24 (rm2_13 l Z a0 hw [] w_HELLO w_ADD_SERVICE w_GET_SERVICE w_LIST_SERVICES w_TRANSLATE w_RESOLVE w_RELEASE w_STATUS w_WAITING w_WATCH w_ACQUIRE w_RETIRE w_RESULT w_FAILURE w_DEAD w_COUNT_WAITING w_CLOSING w_UNHELD w_OPEN w_TRANSACTION w_REPLY w_KNOCK w_ALL k_ALL W (x0 &&& (63 : Int32)) h0 n0 O0 (fun q => hc46 q.symm) (fun q => hc94 q.symm) (fun q => hc97 q.symm) (fun q => hc100 q.symm) (fun q => hc103 q.symm) (fun q => hc106 q.symm) (fun q => hc109 q.symm) (fun q => hc112 q.symm) (fun q => hc115 q.symm) (fun q => hc118 q.symm) (fun q => hc121 q.symm) (fun q => hc124 q.symm) hc127.symm) X128 hx hby hZ hown (own_w hw 4 rfl) (own_w hw 5 rfl) (own_w hw 6 rfl) (own_w hw 7 rfl) (by decide) (by rw [hml]; rfl) [(.int (x0 &&& (63 : Int32)))] [] pd_0 rfl at_21 rfl e128 rfl rfl rfl (by decide) (by decide) (by decide) (by decide) ?_
      rintro _ T129 L129 X129 ⟨rfl, N129, e129⟩
      have N129 := Fr.app N128 N129
      show Go p e below _ (T129.setTop (mkF m 24 _ [(.ref w_RESULT)]))
      refine own_astore 26 #[oI x0, oI x1, oI (x0 &&& (63 : Int32)), oA w_RESULT, oA w_RESULT] X129 hx hby at_24 rfl rfl rfl ?_
      refine own_aload 28 X129 hx hby at_26 rfl rfl rfl ?_
      refine own_aload_n 29 X129 hx hby at_28 rfl rfl rfl ?_
      refine own_acmp 32 true X129 hx hby at_29 rfl rfl (by decide) (by decide) (decide_eq_true (congrArg Value.ref rfl)) ?_
      refine own_iconst 33 (1 : Int32) X129 hx hby at_32 rfl (by decide) ?_
      refine own_goto 37 X129 hx hby at_33 (by decide) (by decide) ?_
      exact own_ret (Q := own_Q1 n0) X129 hx hby hret hlk at_37 rfl (Or.inl ⟨rfl, by simp, _, rfl⟩) (by decide) (by decide) ⟨rfl, N129⟩
    by_cases hc130 : (x0 &&& (63 : Int32)) = (17 : Int32)
    · refine own_callS (W := 0) 19 (rm1_14 l Z a0 hw [] w_HELLO w_ADD_SERVICE w_GET_SERVICE w_LIST_SERVICES w_TRANSLATE w_RESOLVE w_RELEASE w_STATUS w_WAITING w_WATCH w_ACQUIRE w_RETIRE w_RESULT w_FAILURE w_DEAD w_COUNT_WAITING w_CLOSING w_UNHELD w_OPEN w_TRANSACTION w_REPLY w_KNOCK w_ALL k_ALL W (x0 &&& (63 : Int32)) h0 n0 O0 hc46 hc94 hc97 hc100 hc103 hc106 hc109 hc112 hc115 hc118 hc121 hc124 hc127 hc130) X0 hx hby hZ hown (own_w hw 0 rfl) (own_w hw 1 rfl) (own_w hw 2 rfl) (own_w hw 3 rfl) (by decide) (by rw [hml]; rfl) [(.int (x0 &&& (63 : Int32)))] [] pd_0 rfl at_16 rfl e0 rfl rfl rfl (by decide) (by decide) (by decide) (by decide) ?_
      rintro _ T131 L131 X131 ⟨rfl, N131, e131⟩
      have N131 := Fr.app N0 N131
      show Go p e below _ (T131.setTop (mkF m 19 _ [(.ref w_FAILURE)]))
      refine own_astore_n 20 #[oI x0, oI x1, oI (x0 &&& (63 : Int32)), oA w_FAILURE, oU] X131 hx hby at_19 rfl rfl rfl ?_
      refine own_iload_n 21 X131 hx hby at_20 rfl rfl ?_
      refine own_callS (W := 0) 24 (rm2_14 l Z a0 hw [] w_HELLO w_ADD_SERVICE w_GET_SERVICE w_LIST_SERVICES w_TRANSLATE w_RESOLVE w_RELEASE w_STATUS w_WAITING w_WATCH w_ACQUIRE w_RETIRE w_RESULT w_FAILURE w_DEAD w_COUNT_WAITING w_CLOSING w_UNHELD w_OPEN w_TRANSACTION w_REPLY w_KNOCK w_ALL k_ALL W (x0 &&& (63 : Int32)) h0 n0 O0 (fun q => hc46 q.symm) (fun q => hc94 q.symm) (fun q => hc97 q.symm) (fun q => hc100 q.symm) (fun q => hc103 q.symm) (fun q => hc106 q.symm) (fun q => hc109 q.symm) (fun q => hc112 q.symm) (fun q => hc115 q.symm) (fun q => hc118 q.symm) (fun q => hc121 q.symm) (fun q => hc124 q.symm) (fun q => hc127 q.symm) hc130.symm) X131 hx hby hZ hown (own_w hw 4 rfl) (own_w hw 5 rfl) (own_w hw 6 rfl) (own_w hw 7 rfl) (by decide) (by rw [hml]; rfl) [(.int (x0 &&& (63 : Int32)))] [] pd_0 rfl at_21 rfl e131 rfl rfl rfl (by decide) (by decide) (by decide) (by decide) ?_
      rintro _ T132 L132 X132 ⟨rfl, N132, e132⟩
      have N132 := Fr.app N131 N132
      show Go p e below _ (T132.setTop (mkF m 24 _ [(.ref w_FAILURE)]))
      refine own_astore 26 #[oI x0, oI x1, oI (x0 &&& (63 : Int32)), oA w_FAILURE, oA w_FAILURE] X132 hx hby at_24 rfl rfl rfl ?_
      refine own_aload 28 X132 hx hby at_26 rfl rfl rfl ?_
      refine own_aload_n 29 X132 hx hby at_28 rfl rfl rfl ?_
      refine own_acmp 32 true X132 hx hby at_29 rfl rfl (by decide) (by decide) (decide_eq_true (congrArg Value.ref rfl)) ?_
      refine own_iconst 33 (1 : Int32) X132 hx hby at_32 rfl (by decide) ?_
      refine own_goto 37 X132 hx hby at_33 (by decide) (by decide) ?_
      exact own_ret (Q := own_Q1 n0) X132 hx hby hret hlk at_37 rfl (Or.inl ⟨rfl, by simp, _, rfl⟩) (by decide) (by decide) ⟨rfl, N132⟩
    by_cases hc133 : (x0 &&& (63 : Int32)) = (18 : Int32)
    · refine own_callS (W := 0) 19 (rm1_15 l Z a0 hw [] w_HELLO w_ADD_SERVICE w_GET_SERVICE w_LIST_SERVICES w_TRANSLATE w_RESOLVE w_RELEASE w_STATUS w_WAITING w_WATCH w_ACQUIRE w_RETIRE w_RESULT w_FAILURE w_DEAD w_COUNT_WAITING w_CLOSING w_UNHELD w_OPEN w_TRANSACTION w_REPLY w_KNOCK w_ALL k_ALL W (x0 &&& (63 : Int32)) h0 n0 O0 hc46 hc94 hc97 hc100 hc103 hc106 hc109 hc112 hc115 hc118 hc121 hc124 hc127 hc130 hc133) X0 hx hby hZ hown (own_w hw 0 rfl) (own_w hw 1 rfl) (own_w hw 2 rfl) (own_w hw 3 rfl) (by decide) (by rw [hml]; rfl) [(.int (x0 &&& (63 : Int32)))] [] pd_0 rfl at_16 rfl e0 rfl rfl rfl (by decide) (by decide) (by decide) (by decide) ?_
      rintro _ T134 L134 X134 ⟨rfl, N134, e134⟩
      have N134 := Fr.app N0 N134
      show Go p e below _ (T134.setTop (mkF m 19 _ [(.ref w_DEAD)]))
      refine own_astore_n 20 #[oI x0, oI x1, oI (x0 &&& (63 : Int32)), oA w_DEAD, oU] X134 hx hby at_19 rfl rfl rfl ?_
      refine own_iload_n 21 X134 hx hby at_20 rfl rfl ?_
      refine own_callS (W := 0) 24 (rm2_15 l Z a0 hw [] w_HELLO w_ADD_SERVICE w_GET_SERVICE w_LIST_SERVICES w_TRANSLATE w_RESOLVE w_RELEASE w_STATUS w_WAITING w_WATCH w_ACQUIRE w_RETIRE w_RESULT w_FAILURE w_DEAD w_COUNT_WAITING w_CLOSING w_UNHELD w_OPEN w_TRANSACTION w_REPLY w_KNOCK w_ALL k_ALL W (x0 &&& (63 : Int32)) h0 n0 O0 (fun q => hc46 q.symm) (fun q => hc94 q.symm) (fun q => hc97 q.symm) (fun q => hc100 q.symm) (fun q => hc103 q.symm) (fun q => hc106 q.symm) (fun q => hc109 q.symm) (fun q => hc112 q.symm) (fun q => hc115 q.symm) (fun q => hc118 q.symm) (fun q => hc121 q.symm) (fun q => hc124 q.symm) (fun q => hc127 q.symm) (fun q => hc130 q.symm) hc133.symm) X134 hx hby hZ hown (own_w hw 4 rfl) (own_w hw 5 rfl) (own_w hw 6 rfl) (own_w hw 7 rfl) (by decide) (by rw [hml]; rfl) [(.int (x0 &&& (63 : Int32)))] [] pd_0 rfl at_21 rfl e134 rfl rfl rfl (by decide) (by decide) (by decide) (by decide) ?_
      rintro _ T135 L135 X135 ⟨rfl, N135, e135⟩
      have N135 := Fr.app N134 N135
      show Go p e below _ (T135.setTop (mkF m 24 _ [(.ref w_DEAD)]))
      refine own_astore 26 #[oI x0, oI x1, oI (x0 &&& (63 : Int32)), oA w_DEAD, oA w_DEAD] X135 hx hby at_24 rfl rfl rfl ?_
      refine own_aload 28 X135 hx hby at_26 rfl rfl rfl ?_
      refine own_aload_n 29 X135 hx hby at_28 rfl rfl rfl ?_
      refine own_acmp 32 true X135 hx hby at_29 rfl rfl (by decide) (by decide) (decide_eq_true (congrArg Value.ref rfl)) ?_
      refine own_iconst 33 (1 : Int32) X135 hx hby at_32 rfl (by decide) ?_
      refine own_goto 37 X135 hx hby at_33 (by decide) (by decide) ?_
      exact own_ret (Q := own_Q1 n0) X135 hx hby hret hlk at_37 rfl (Or.inl ⟨rfl, by simp, _, rfl⟩) (by decide) (by decide) ⟨rfl, N135⟩
    by_cases hc136 : (x0 &&& (63 : Int32)) = (19 : Int32)
    · refine own_callS (W := 0) 19 (rm1_16 l Z a0 hw [] w_HELLO w_ADD_SERVICE w_GET_SERVICE w_LIST_SERVICES w_TRANSLATE w_RESOLVE w_RELEASE w_STATUS w_WAITING w_WATCH w_ACQUIRE w_RETIRE w_RESULT w_FAILURE w_DEAD w_COUNT_WAITING w_CLOSING w_UNHELD w_OPEN w_TRANSACTION w_REPLY w_KNOCK w_ALL k_ALL W (x0 &&& (63 : Int32)) h0 n0 O0 hc46 hc94 hc97 hc100 hc103 hc106 hc109 hc112 hc115 hc118 hc121 hc124 hc127 hc130 hc133 hc136) X0 hx hby hZ hown (own_w hw 0 rfl) (own_w hw 1 rfl) (own_w hw 2 rfl) (own_w hw 3 rfl) (by decide) (by rw [hml]; rfl) [(.int (x0 &&& (63 : Int32)))] [] pd_0 rfl at_16 rfl e0 rfl rfl rfl (by decide) (by decide) (by decide) (by decide) ?_
      rintro _ T137 L137 X137 ⟨rfl, N137, e137⟩
      have N137 := Fr.app N0 N137
      show Go p e below _ (T137.setTop (mkF m 19 _ [(.ref w_COUNT_WAITING)]))
      refine own_astore_n 20 #[oI x0, oI x1, oI (x0 &&& (63 : Int32)), oA w_COUNT_WAITING, oU] X137 hx hby at_19 rfl rfl rfl ?_
      refine own_iload_n 21 X137 hx hby at_20 rfl rfl ?_
      refine own_callS (W := 0) 24 (rm2_16 l Z a0 hw [] w_HELLO w_ADD_SERVICE w_GET_SERVICE w_LIST_SERVICES w_TRANSLATE w_RESOLVE w_RELEASE w_STATUS w_WAITING w_WATCH w_ACQUIRE w_RETIRE w_RESULT w_FAILURE w_DEAD w_COUNT_WAITING w_CLOSING w_UNHELD w_OPEN w_TRANSACTION w_REPLY w_KNOCK w_ALL k_ALL W (x0 &&& (63 : Int32)) h0 n0 O0 (fun q => hc46 q.symm) (fun q => hc94 q.symm) (fun q => hc97 q.symm) (fun q => hc100 q.symm) (fun q => hc103 q.symm) (fun q => hc106 q.symm) (fun q => hc109 q.symm) (fun q => hc112 q.symm) (fun q => hc115 q.symm) (fun q => hc118 q.symm) (fun q => hc121 q.symm) (fun q => hc124 q.symm) (fun q => hc127 q.symm) (fun q => hc130 q.symm) (fun q => hc133 q.symm) hc136.symm) X137 hx hby hZ hown (own_w hw 4 rfl) (own_w hw 5 rfl) (own_w hw 6 rfl) (own_w hw 7 rfl) (by decide) (by rw [hml]; rfl) [(.int (x0 &&& (63 : Int32)))] [] pd_0 rfl at_21 rfl e137 rfl rfl rfl (by decide) (by decide) (by decide) (by decide) ?_
      rintro _ T138 L138 X138 ⟨rfl, N138, e138⟩
      have N138 := Fr.app N137 N138
      show Go p e below _ (T138.setTop (mkF m 24 _ [(.ref w_COUNT_WAITING)]))
      refine own_astore 26 #[oI x0, oI x1, oI (x0 &&& (63 : Int32)), oA w_COUNT_WAITING, oA w_COUNT_WAITING] X138 hx hby at_24 rfl rfl rfl ?_
      refine own_aload 28 X138 hx hby at_26 rfl rfl rfl ?_
      refine own_aload_n 29 X138 hx hby at_28 rfl rfl rfl ?_
      refine own_acmp 32 true X138 hx hby at_29 rfl rfl (by decide) (by decide) (decide_eq_true (congrArg Value.ref rfl)) ?_
      refine own_iconst 33 (1 : Int32) X138 hx hby at_32 rfl (by decide) ?_
      refine own_goto 37 X138 hx hby at_33 (by decide) (by decide) ?_
      exact own_ret (Q := own_Q1 n0) X138 hx hby hret hlk at_37 rfl (Or.inl ⟨rfl, by simp, _, rfl⟩) (by decide) (by decide) ⟨rfl, N138⟩
    by_cases hc139 : (x0 &&& (63 : Int32)) = (20 : Int32)
    · refine own_callS (W := 0) 19 (rm1_17 l Z a0 hw [] w_HELLO w_ADD_SERVICE w_GET_SERVICE w_LIST_SERVICES w_TRANSLATE w_RESOLVE w_RELEASE w_STATUS w_WAITING w_WATCH w_ACQUIRE w_RETIRE w_RESULT w_FAILURE w_DEAD w_COUNT_WAITING w_CLOSING w_UNHELD w_OPEN w_TRANSACTION w_REPLY w_KNOCK w_ALL k_ALL W (x0 &&& (63 : Int32)) h0 n0 O0 hc46 hc94 hc97 hc100 hc103 hc106 hc109 hc112 hc115 hc118 hc121 hc124 hc127 hc130 hc133 hc136 hc139) X0 hx hby hZ hown (own_w hw 0 rfl) (own_w hw 1 rfl) (own_w hw 2 rfl) (own_w hw 3 rfl) (by decide) (by rw [hml]; rfl) [(.int (x0 &&& (63 : Int32)))] [] pd_0 rfl at_16 rfl e0 rfl rfl rfl (by decide) (by decide) (by decide) (by decide) ?_
      rintro _ T140 L140 X140 ⟨rfl, N140, e140⟩
      have N140 := Fr.app N0 N140
      show Go p e below _ (T140.setTop (mkF m 19 _ [(.ref w_CLOSING)]))
      refine own_astore_n 20 #[oI x0, oI x1, oI (x0 &&& (63 : Int32)), oA w_CLOSING, oU] X140 hx hby at_19 rfl rfl rfl ?_
      refine own_iload_n 21 X140 hx hby at_20 rfl rfl ?_
      refine own_callS (W := 0) 24 (rm2_17 l Z a0 hw [] w_HELLO w_ADD_SERVICE w_GET_SERVICE w_LIST_SERVICES w_TRANSLATE w_RESOLVE w_RELEASE w_STATUS w_WAITING w_WATCH w_ACQUIRE w_RETIRE w_RESULT w_FAILURE w_DEAD w_COUNT_WAITING w_CLOSING w_UNHELD w_OPEN w_TRANSACTION w_REPLY w_KNOCK w_ALL k_ALL W (x0 &&& (63 : Int32)) h0 n0 O0 (fun q => hc46 q.symm) (fun q => hc94 q.symm) (fun q => hc97 q.symm) (fun q => hc100 q.symm) (fun q => hc103 q.symm) (fun q => hc106 q.symm) (fun q => hc109 q.symm) (fun q => hc112 q.symm) (fun q => hc115 q.symm) (fun q => hc118 q.symm) (fun q => hc121 q.symm) (fun q => hc124 q.symm) (fun q => hc127 q.symm) (fun q => hc130 q.symm) (fun q => hc133 q.symm) (fun q => hc136 q.symm) hc139.symm) X140 hx hby hZ hown (own_w hw 4 rfl) (own_w hw 5 rfl) (own_w hw 6 rfl) (own_w hw 7 rfl) (by decide) (by rw [hml]; rfl) [(.int (x0 &&& (63 : Int32)))] [] pd_0 rfl at_21 rfl e140 rfl rfl rfl (by decide) (by decide) (by decide) (by decide) ?_
      rintro _ T141 L141 X141 ⟨rfl, N141, e141⟩
      have N141 := Fr.app N140 N141
      show Go p e below _ (T141.setTop (mkF m 24 _ [(.ref w_CLOSING)]))
      refine own_astore 26 #[oI x0, oI x1, oI (x0 &&& (63 : Int32)), oA w_CLOSING, oA w_CLOSING] X141 hx hby at_24 rfl rfl rfl ?_
      refine own_aload 28 X141 hx hby at_26 rfl rfl rfl ?_
      refine own_aload_n 29 X141 hx hby at_28 rfl rfl rfl ?_
      refine own_acmp 32 true X141 hx hby at_29 rfl rfl (by decide) (by decide) (decide_eq_true (congrArg Value.ref rfl)) ?_
      refine own_iconst 33 (1 : Int32) X141 hx hby at_32 rfl (by decide) ?_
      refine own_goto 37 X141 hx hby at_33 (by decide) (by decide) ?_
      exact own_ret (Q := own_Q1 n0) X141 hx hby hret hlk at_37 rfl (Or.inl ⟨rfl, by simp, _, rfl⟩) (by decide) (by decide) ⟨rfl, N141⟩
    by_cases hc142 : (x0 &&& (63 : Int32)) = (21 : Int32)
    · refine own_callS (W := 0) 19 (rm1_18 l Z a0 hw [] w_HELLO w_ADD_SERVICE w_GET_SERVICE w_LIST_SERVICES w_TRANSLATE w_RESOLVE w_RELEASE w_STATUS w_WAITING w_WATCH w_ACQUIRE w_RETIRE w_RESULT w_FAILURE w_DEAD w_COUNT_WAITING w_CLOSING w_UNHELD w_OPEN w_TRANSACTION w_REPLY w_KNOCK w_ALL k_ALL W (x0 &&& (63 : Int32)) h0 n0 O0 hc46 hc94 hc97 hc100 hc103 hc106 hc109 hc112 hc115 hc118 hc121 hc124 hc127 hc130 hc133 hc136 hc139 hc142) X0 hx hby hZ hown (own_w hw 0 rfl) (own_w hw 1 rfl) (own_w hw 2 rfl) (own_w hw 3 rfl) (by decide) (by rw [hml]; rfl) [(.int (x0 &&& (63 : Int32)))] [] pd_0 rfl at_16 rfl e0 rfl rfl rfl (by decide) (by decide) (by decide) (by decide) ?_
      rintro _ T143 L143 X143 ⟨rfl, N143, e143⟩
      have N143 := Fr.app N0 N143
      show Go p e below _ (T143.setTop (mkF m 19 _ [(.ref w_UNHELD)]))
      refine own_astore_n 20 #[oI x0, oI x1, oI (x0 &&& (63 : Int32)), oA w_UNHELD, oU] X143 hx hby at_19 rfl rfl rfl ?_
      refine own_iload_n 21 X143 hx hby at_20 rfl rfl ?_
      refine own_callS (W := 0) 24 (rm2_18 l Z a0 hw [] w_HELLO w_ADD_SERVICE w_GET_SERVICE w_LIST_SERVICES w_TRANSLATE w_RESOLVE w_RELEASE w_STATUS w_WAITING w_WATCH w_ACQUIRE w_RETIRE w_RESULT w_FAILURE w_DEAD w_COUNT_WAITING w_CLOSING w_UNHELD w_OPEN w_TRANSACTION w_REPLY w_KNOCK w_ALL k_ALL W (x0 &&& (63 : Int32)) h0 n0 O0 (fun q => hc46 q.symm) (fun q => hc94 q.symm) (fun q => hc97 q.symm) (fun q => hc100 q.symm) (fun q => hc103 q.symm) (fun q => hc106 q.symm) (fun q => hc109 q.symm) (fun q => hc112 q.symm) (fun q => hc115 q.symm) (fun q => hc118 q.symm) (fun q => hc121 q.symm) (fun q => hc124 q.symm) (fun q => hc127 q.symm) (fun q => hc130 q.symm) (fun q => hc133 q.symm) (fun q => hc136 q.symm) (fun q => hc139 q.symm) hc142.symm) X143 hx hby hZ hown (own_w hw 4 rfl) (own_w hw 5 rfl) (own_w hw 6 rfl) (own_w hw 7 rfl) (by decide) (by rw [hml]; rfl) [(.int (x0 &&& (63 : Int32)))] [] pd_0 rfl at_21 rfl e143 rfl rfl rfl (by decide) (by decide) (by decide) (by decide) ?_
      rintro _ T144 L144 X144 ⟨rfl, N144, e144⟩
      have N144 := Fr.app N143 N144
      show Go p e below _ (T144.setTop (mkF m 24 _ [(.ref w_UNHELD)]))
      refine own_astore 26 #[oI x0, oI x1, oI (x0 &&& (63 : Int32)), oA w_UNHELD, oA w_UNHELD] X144 hx hby at_24 rfl rfl rfl ?_
      refine own_aload 28 X144 hx hby at_26 rfl rfl rfl ?_
      refine own_aload_n 29 X144 hx hby at_28 rfl rfl rfl ?_
      refine own_acmp 32 true X144 hx hby at_29 rfl rfl (by decide) (by decide) (decide_eq_true (congrArg Value.ref rfl)) ?_
      refine own_iconst 33 (1 : Int32) X144 hx hby at_32 rfl (by decide) ?_
      refine own_goto 37 X144 hx hby at_33 (by decide) (by decide) ?_
      exact own_ret (Q := own_Q1 n0) X144 hx hby hret hlk at_37 rfl (Or.inl ⟨rfl, by simp, _, rfl⟩) (by decide) (by decide) ⟨rfl, N144⟩
    by_cases hc145 : (x0 &&& (63 : Int32)) = (32 : Int32)
    · refine own_callS (W := 0) 19 (rm1_19 l Z a0 hw [] w_HELLO w_ADD_SERVICE w_GET_SERVICE w_LIST_SERVICES w_TRANSLATE w_RESOLVE w_RELEASE w_STATUS w_WAITING w_WATCH w_ACQUIRE w_RETIRE w_RESULT w_FAILURE w_DEAD w_COUNT_WAITING w_CLOSING w_UNHELD w_OPEN w_TRANSACTION w_REPLY w_KNOCK w_ALL k_ALL W (x0 &&& (63 : Int32)) h0 n0 O0 hc46 hc94 hc97 hc100 hc103 hc106 hc109 hc112 hc115 hc118 hc121 hc124 hc127 hc130 hc133 hc136 hc139 hc142 hc145) X0 hx hby hZ hown (own_w hw 0 rfl) (own_w hw 1 rfl) (own_w hw 2 rfl) (own_w hw 3 rfl) (by decide) (by rw [hml]; rfl) [(.int (x0 &&& (63 : Int32)))] [] pd_0 rfl at_16 rfl e0 rfl rfl rfl (by decide) (by decide) (by decide) (by decide) ?_
      rintro _ T146 L146 X146 ⟨rfl, N146, e146⟩
      have N146 := Fr.app N0 N146
      show Go p e below _ (T146.setTop (mkF m 19 _ [(.ref w_OPEN)]))
      refine own_astore_n 20 #[oI x0, oI x1, oI (x0 &&& (63 : Int32)), oA w_OPEN, oU] X146 hx hby at_19 rfl rfl rfl ?_
      refine own_iload_n 21 X146 hx hby at_20 rfl rfl ?_
      refine own_callS (W := 0) 24 (rm2_19 l Z a0 hw [] w_HELLO w_ADD_SERVICE w_GET_SERVICE w_LIST_SERVICES w_TRANSLATE w_RESOLVE w_RELEASE w_STATUS w_WAITING w_WATCH w_ACQUIRE w_RETIRE w_RESULT w_FAILURE w_DEAD w_COUNT_WAITING w_CLOSING w_UNHELD w_OPEN w_TRANSACTION w_REPLY w_KNOCK w_ALL k_ALL W (x0 &&& (63 : Int32)) h0 n0 O0 (fun q => hc46 q.symm) (fun q => hc94 q.symm) (fun q => hc97 q.symm) (fun q => hc100 q.symm) (fun q => hc103 q.symm) (fun q => hc106 q.symm) (fun q => hc109 q.symm) (fun q => hc112 q.symm) (fun q => hc115 q.symm) (fun q => hc118 q.symm) (fun q => hc121 q.symm) (fun q => hc124 q.symm) (fun q => hc127 q.symm) (fun q => hc130 q.symm) (fun q => hc133 q.symm) (fun q => hc136 q.symm) (fun q => hc139 q.symm) (fun q => hc142 q.symm) hc145.symm) X146 hx hby hZ hown (own_w hw 4 rfl) (own_w hw 5 rfl) (own_w hw 6 rfl) (own_w hw 7 rfl) (by decide) (by rw [hml]; rfl) [(.int (x0 &&& (63 : Int32)))] [] pd_0 rfl at_21 rfl e146 rfl rfl rfl (by decide) (by decide) (by decide) (by decide) ?_
      rintro _ T147 L147 X147 ⟨rfl, N147, e147⟩
      have N147 := Fr.app N146 N147
      show Go p e below _ (T147.setTop (mkF m 24 _ [(.ref w_OPEN)]))
      refine own_astore 26 #[oI x0, oI x1, oI (x0 &&& (63 : Int32)), oA w_OPEN, oA w_OPEN] X147 hx hby at_24 rfl rfl rfl ?_
      refine own_aload 28 X147 hx hby at_26 rfl rfl rfl ?_
      refine own_aload_n 29 X147 hx hby at_28 rfl rfl rfl ?_
      refine own_acmp 32 true X147 hx hby at_29 rfl rfl (by decide) (by decide) (decide_eq_true (congrArg Value.ref rfl)) ?_
      refine own_iconst 33 (1 : Int32) X147 hx hby at_32 rfl (by decide) ?_
      refine own_goto 37 X147 hx hby at_33 (by decide) (by decide) ?_
      exact own_ret (Q := own_Q1 n0) X147 hx hby hret hlk at_37 rfl (Or.inl ⟨rfl, by simp, _, rfl⟩) (by decide) (by decide) ⟨rfl, N147⟩
    by_cases hc148 : (x0 &&& (63 : Int32)) = (33 : Int32)
    · refine own_callS (W := 0) 19 (rm1_20 l Z a0 hw [] w_HELLO w_ADD_SERVICE w_GET_SERVICE w_LIST_SERVICES w_TRANSLATE w_RESOLVE w_RELEASE w_STATUS w_WAITING w_WATCH w_ACQUIRE w_RETIRE w_RESULT w_FAILURE w_DEAD w_COUNT_WAITING w_CLOSING w_UNHELD w_OPEN w_TRANSACTION w_REPLY w_KNOCK w_ALL k_ALL W (x0 &&& (63 : Int32)) h0 n0 O0 hc46 hc94 hc97 hc100 hc103 hc106 hc109 hc112 hc115 hc118 hc121 hc124 hc127 hc130 hc133 hc136 hc139 hc142 hc145 hc148) X0 hx hby hZ hown (own_w hw 0 rfl) (own_w hw 1 rfl) (own_w hw 2 rfl) (own_w hw 3 rfl) (by decide) (by rw [hml]; rfl) [(.int (x0 &&& (63 : Int32)))] [] pd_0 rfl at_16 rfl e0 rfl rfl rfl (by decide) (by decide) (by decide) (by decide) ?_
      rintro _ T149 L149 X149 ⟨rfl, N149, e149⟩
      have N149 := Fr.app N0 N149
      show Go p e below _ (T149.setTop (mkF m 19 _ [(.ref w_TRANSACTION)]))
      refine own_astore_n 20 #[oI x0, oI x1, oI (x0 &&& (63 : Int32)), oA w_TRANSACTION, oU] X149 hx hby at_19 rfl rfl rfl ?_
      refine own_iload_n 21 X149 hx hby at_20 rfl rfl ?_
      refine own_callS (W := 0) 24 (rm2_20 l Z a0 hw [] w_HELLO w_ADD_SERVICE w_GET_SERVICE w_LIST_SERVICES w_TRANSLATE w_RESOLVE w_RELEASE w_STATUS w_WAITING w_WATCH w_ACQUIRE w_RETIRE w_RESULT w_FAILURE w_DEAD w_COUNT_WAITING w_CLOSING w_UNHELD w_OPEN w_TRANSACTION w_REPLY w_KNOCK w_ALL k_ALL W (x0 &&& (63 : Int32)) h0 n0 O0 (fun q => hc46 q.symm) (fun q => hc94 q.symm) (fun q => hc97 q.symm) (fun q => hc100 q.symm) (fun q => hc103 q.symm) (fun q => hc106 q.symm) (fun q => hc109 q.symm) (fun q => hc112 q.symm) (fun q => hc115 q.symm) (fun q => hc118 q.symm) (fun q => hc121 q.symm) (fun q => hc124 q.symm) (fun q => hc127 q.symm) (fun q => hc130 q.symm) (fun q => hc133 q.symm) (fun q => hc136 q.symm) (fun q => hc139 q.symm) (fun q => hc142 q.symm) (fun q => hc145 q.symm) hc148.symm) X149 hx hby hZ hown (own_w hw 4 rfl) (own_w hw 5 rfl) (own_w hw 6 rfl) (own_w hw 7 rfl) (by decide) (by rw [hml]; rfl) [(.int (x0 &&& (63 : Int32)))] [] pd_0 rfl at_21 rfl e149 rfl rfl rfl (by decide) (by decide) (by decide) (by decide) ?_
      rintro _ T150 L150 X150 ⟨rfl, N150, e150⟩
      have N150 := Fr.app N149 N150
      show Go p e below _ (T150.setTop (mkF m 24 _ [(.ref w_TRANSACTION)]))
      refine own_astore 26 #[oI x0, oI x1, oI (x0 &&& (63 : Int32)), oA w_TRANSACTION, oA w_TRANSACTION] X150 hx hby at_24 rfl rfl rfl ?_
      refine own_aload 28 X150 hx hby at_26 rfl rfl rfl ?_
      refine own_aload_n 29 X150 hx hby at_28 rfl rfl rfl ?_
      refine own_acmp 32 true X150 hx hby at_29 rfl rfl (by decide) (by decide) (decide_eq_true (congrArg Value.ref rfl)) ?_
      refine own_iconst 33 (1 : Int32) X150 hx hby at_32 rfl (by decide) ?_
      refine own_goto 37 X150 hx hby at_33 (by decide) (by decide) ?_
      exact own_ret (Q := own_Q1 n0) X150 hx hby hret hlk at_37 rfl (Or.inl ⟨rfl, by simp, _, rfl⟩) (by decide) (by decide) ⟨rfl, N150⟩
    by_cases hc151 : (x0 &&& (63 : Int32)) = (34 : Int32)
    · refine own_callS (W := 0) 19 (rm1_21 l Z a0 hw [] w_HELLO w_ADD_SERVICE w_GET_SERVICE w_LIST_SERVICES w_TRANSLATE w_RESOLVE w_RELEASE w_STATUS w_WAITING w_WATCH w_ACQUIRE w_RETIRE w_RESULT w_FAILURE w_DEAD w_COUNT_WAITING w_CLOSING w_UNHELD w_OPEN w_TRANSACTION w_REPLY w_KNOCK w_ALL k_ALL W (x0 &&& (63 : Int32)) h0 n0 O0 hc46 hc94 hc97 hc100 hc103 hc106 hc109 hc112 hc115 hc118 hc121 hc124 hc127 hc130 hc133 hc136 hc139 hc142 hc145 hc148 hc151) X0 hx hby hZ hown (own_w hw 0 rfl) (own_w hw 1 rfl) (own_w hw 2 rfl) (own_w hw 3 rfl) (by decide) (by rw [hml]; rfl) [(.int (x0 &&& (63 : Int32)))] [] pd_0 rfl at_16 rfl e0 rfl rfl rfl (by decide) (by decide) (by decide) (by decide) ?_
      rintro _ T152 L152 X152 ⟨rfl, N152, e152⟩
      have N152 := Fr.app N0 N152
      show Go p e below _ (T152.setTop (mkF m 19 _ [(.ref w_REPLY)]))
      refine own_astore_n 20 #[oI x0, oI x1, oI (x0 &&& (63 : Int32)), oA w_REPLY, oU] X152 hx hby at_19 rfl rfl rfl ?_
      refine own_iload_n 21 X152 hx hby at_20 rfl rfl ?_
      refine own_callS (W := 0) 24 (rm2_21 l Z a0 hw [] w_HELLO w_ADD_SERVICE w_GET_SERVICE w_LIST_SERVICES w_TRANSLATE w_RESOLVE w_RELEASE w_STATUS w_WAITING w_WATCH w_ACQUIRE w_RETIRE w_RESULT w_FAILURE w_DEAD w_COUNT_WAITING w_CLOSING w_UNHELD w_OPEN w_TRANSACTION w_REPLY w_KNOCK w_ALL k_ALL W (x0 &&& (63 : Int32)) h0 n0 O0 (fun q => hc46 q.symm) (fun q => hc94 q.symm) (fun q => hc97 q.symm) (fun q => hc100 q.symm) (fun q => hc103 q.symm) (fun q => hc106 q.symm) (fun q => hc109 q.symm) (fun q => hc112 q.symm) (fun q => hc115 q.symm) (fun q => hc118 q.symm) (fun q => hc121 q.symm) (fun q => hc124 q.symm) (fun q => hc127 q.symm) (fun q => hc130 q.symm) (fun q => hc133 q.symm) (fun q => hc136 q.symm) (fun q => hc139 q.symm) (fun q => hc142 q.symm) (fun q => hc145 q.symm) (fun q => hc148 q.symm) hc151.symm) X152 hx hby hZ hown (own_w hw 4 rfl) (own_w hw 5 rfl) (own_w hw 6 rfl) (own_w hw 7 rfl) (by decide) (by rw [hml]; rfl) [(.int (x0 &&& (63 : Int32)))] [] pd_0 rfl at_21 rfl e152 rfl rfl rfl (by decide) (by decide) (by decide) (by decide) ?_
      rintro _ T153 L153 X153 ⟨rfl, N153, e153⟩
      have N153 := Fr.app N152 N153
      show Go p e below _ (T153.setTop (mkF m 24 _ [(.ref w_REPLY)]))
      refine own_astore 26 #[oI x0, oI x1, oI (x0 &&& (63 : Int32)), oA w_REPLY, oA w_REPLY] X153 hx hby at_24 rfl rfl rfl ?_
      refine own_aload 28 X153 hx hby at_26 rfl rfl rfl ?_
      refine own_aload_n 29 X153 hx hby at_28 rfl rfl rfl ?_
      refine own_acmp 32 true X153 hx hby at_29 rfl rfl (by decide) (by decide) (decide_eq_true (congrArg Value.ref rfl)) ?_
      refine own_iconst 33 (1 : Int32) X153 hx hby at_32 rfl (by decide) ?_
      refine own_goto 37 X153 hx hby at_33 (by decide) (by decide) ?_
      exact own_ret (Q := own_Q1 n0) X153 hx hby hret hlk at_37 rfl (Or.inl ⟨rfl, by simp, _, rfl⟩) (by decide) (by decide) ⟨rfl, N153⟩
    by_cases hc154 : (x0 &&& (63 : Int32)) = (35 : Int32)
    · refine own_callS (W := 0) 19 (rm1_22 l Z a0 hw [] w_HELLO w_ADD_SERVICE w_GET_SERVICE w_LIST_SERVICES w_TRANSLATE w_RESOLVE w_RELEASE w_STATUS w_WAITING w_WATCH w_ACQUIRE w_RETIRE w_RESULT w_FAILURE w_DEAD w_COUNT_WAITING w_CLOSING w_UNHELD w_OPEN w_TRANSACTION w_REPLY w_KNOCK w_ALL k_ALL W (x0 &&& (63 : Int32)) h0 n0 O0 hc46 hc94 hc97 hc100 hc103 hc106 hc109 hc112 hc115 hc118 hc121 hc124 hc127 hc130 hc133 hc136 hc139 hc142 hc145 hc148 hc151 hc154) X0 hx hby hZ hown (own_w hw 0 rfl) (own_w hw 1 rfl) (own_w hw 2 rfl) (own_w hw 3 rfl) (by decide) (by rw [hml]; rfl) [(.int (x0 &&& (63 : Int32)))] [] pd_0 rfl at_16 rfl e0 rfl rfl rfl (by decide) (by decide) (by decide) (by decide) ?_
      rintro _ T155 L155 X155 ⟨rfl, N155, e155⟩
      have N155 := Fr.app N0 N155
      show Go p e below _ (T155.setTop (mkF m 19 _ [(.ref w_KNOCK)]))
      refine own_astore_n 20 #[oI x0, oI x1, oI (x0 &&& (63 : Int32)), oA w_KNOCK, oU] X155 hx hby at_19 rfl rfl rfl ?_
      refine own_iload_n 21 X155 hx hby at_20 rfl rfl ?_
      refine own_callS (W := 0) 24 (rm2_22 l Z a0 hw [] w_HELLO w_ADD_SERVICE w_GET_SERVICE w_LIST_SERVICES w_TRANSLATE w_RESOLVE w_RELEASE w_STATUS w_WAITING w_WATCH w_ACQUIRE w_RETIRE w_RESULT w_FAILURE w_DEAD w_COUNT_WAITING w_CLOSING w_UNHELD w_OPEN w_TRANSACTION w_REPLY w_KNOCK w_ALL k_ALL W (x0 &&& (63 : Int32)) h0 n0 O0 (fun q => hc46 q.symm) (fun q => hc94 q.symm) (fun q => hc97 q.symm) (fun q => hc100 q.symm) (fun q => hc103 q.symm) (fun q => hc106 q.symm) (fun q => hc109 q.symm) (fun q => hc112 q.symm) (fun q => hc115 q.symm) (fun q => hc118 q.symm) (fun q => hc121 q.symm) (fun q => hc124 q.symm) (fun q => hc127 q.symm) (fun q => hc130 q.symm) (fun q => hc133 q.symm) (fun q => hc136 q.symm) (fun q => hc139 q.symm) (fun q => hc142 q.symm) (fun q => hc145 q.symm) (fun q => hc148 q.symm) (fun q => hc151 q.symm) hc154.symm) X155 hx hby hZ hown (own_w hw 4 rfl) (own_w hw 5 rfl) (own_w hw 6 rfl) (own_w hw 7 rfl) (by decide) (by rw [hml]; rfl) [(.int (x0 &&& (63 : Int32)))] [] pd_0 rfl at_21 rfl e155 rfl rfl rfl (by decide) (by decide) (by decide) (by decide) ?_
      rintro _ T156 L156 X156 ⟨rfl, N156, e156⟩
      have N156 := Fr.app N155 N156
      show Go p e below _ (T156.setTop (mkF m 24 _ [(.ref w_KNOCK)]))
      refine own_astore 26 #[oI x0, oI x1, oI (x0 &&& (63 : Int32)), oA w_KNOCK, oA w_KNOCK] X156 hx hby at_24 rfl rfl rfl ?_
      refine own_aload 28 X156 hx hby at_26 rfl rfl rfl ?_
      refine own_aload_n 29 X156 hx hby at_28 rfl rfl rfl ?_
      refine own_acmp 32 true X156 hx hby at_29 rfl rfl (by decide) (by decide) (decide_eq_true (congrArg Value.ref rfl)) ?_
      refine own_iconst 33 (1 : Int32) X156 hx hby at_32 rfl (by decide) ?_
      refine own_goto 37 X156 hx hby at_33 (by decide) (by decide) ?_
      exact own_ret (Q := own_Q1 n0) X156 hx hby hret hlk at_37 rfl (Or.inl ⟨rfl, by simp, _, rfl⟩) (by decide) (by decide) ⟨rfl, N156⟩
    refine own_callS (W := 0) 19 (rm1_23 l Z a0 hw [] w_HELLO w_ADD_SERVICE w_GET_SERVICE w_LIST_SERVICES w_TRANSLATE w_RESOLVE w_RELEASE w_STATUS w_WAITING w_WATCH w_ACQUIRE w_RETIRE w_RESULT w_FAILURE w_DEAD w_COUNT_WAITING w_CLOSING w_UNHELD w_OPEN w_TRANSACTION w_REPLY w_KNOCK w_ALL k_ALL W (x0 &&& (63 : Int32)) h0 n0 O0 hc46 hc94 hc97 hc100 hc103 hc106 hc109 hc112 hc115 hc118 hc121 hc124 hc127 hc130 hc133 hc136 hc139 hc142 hc145 hc148 hc151 hc154) X0 hx hby hZ hown (own_w hw 0 rfl) (own_w hw 1 rfl) (own_w hw 2 rfl) (own_w hw 3 rfl) (by decide) (by rw [hml]; rfl) [(.int (x0 &&& (63 : Int32)))] [] pd_0 rfl at_16 rfl e0 rfl rfl rfl (by decide) (by decide) (by decide) (by decide) ?_
    rintro _ T157 L157 X157 ⟨rfl, N157, e157⟩
    have N157 := Fr.app N0 N157
    show Go p e below _ (T157.setTop (mkF m 19 _ [.null]))
    refine own_astore_n 20 #[oI x0, oI x1, oI (x0 &&& (63 : Int32)), oN, oU] X157 hx hby at_19 rfl rfl rfl ?_
    refine own_iload_n 21 X157 hx hby at_20 rfl rfl ?_
    refine own_callS (W := 0) 24 (rm2_23 l Z a0 hw [] w_HELLO w_ADD_SERVICE w_GET_SERVICE w_LIST_SERVICES w_TRANSLATE w_RESOLVE w_RELEASE w_STATUS w_WAITING w_WATCH w_ACQUIRE w_RETIRE w_RESULT w_FAILURE w_DEAD w_COUNT_WAITING w_CLOSING w_UNHELD w_OPEN w_TRANSACTION w_REPLY w_KNOCK w_ALL k_ALL W (x0 &&& (63 : Int32)) h0 n0 O0 (fun q => hc46 q.symm) (fun q => hc94 q.symm) (fun q => hc97 q.symm) (fun q => hc100 q.symm) (fun q => hc103 q.symm) (fun q => hc106 q.symm) (fun q => hc109 q.symm) (fun q => hc112 q.symm) (fun q => hc115 q.symm) (fun q => hc118 q.symm) (fun q => hc121 q.symm) (fun q => hc124 q.symm) (fun q => hc127 q.symm) (fun q => hc130 q.symm) (fun q => hc133 q.symm) (fun q => hc136 q.symm) (fun q => hc139 q.symm) (fun q => hc142 q.symm) (fun q => hc145 q.symm) (fun q => hc148 q.symm) (fun q => hc151 q.symm) (fun q => hc154 q.symm)) X157 hx hby hZ hown (own_w hw 4 rfl) (own_w hw 5 rfl) (own_w hw 6 rfl) (own_w hw 7 rfl) (by decide) (by rw [hml]; rfl) [(.int (x0 &&& (63 : Int32)))] [] pd_0 rfl at_21 rfl e157 rfl rfl rfl (by decide) (by decide) (by decide) (by decide) ?_
    rintro _ T158 L158 X158 ⟨rfl, N158, e158⟩
    have N158 := Fr.app N157 N158
    show Go p e below _ (T158.setTop (mkF m 24 _ [.null]))
    refine own_astore 26 #[oI x0, oI x1, oI (x0 &&& (63 : Int32)), oN, oN] X158 hx hby at_24 rfl rfl rfl ?_
    refine own_aload 28 X158 hx hby at_26 rfl rfl rfl ?_
    refine own_aload_n 29 X158 hx hby at_28 rfl rfl rfl ?_
    refine own_acmp 32 true X158 hx hby at_29 rfl rfl (by decide) (by decide) (decide_eq_true rfl) ?_
    refine own_iconst 33 (1 : Int32) X158 hx hby at_32 rfl (by decide) ?_
    refine own_goto 37 X158 hx hby at_33 (by decide) (by decide) ?_
    exact own_ret (Q := own_Q1 n0) X158 hx hby hret hlk at_37 rfl (Or.inl ⟨rfl, by simp, _, rfl⟩) (by decide) (by decide) ⟨rfl, N158⟩
  · refine own_iand 3 (1 : Int32) X0 hx hby at_2 rfl hv1 ?_
    refine own_ifN 6 X0 hx hby at_3 rfl (by decide) ?_
    refine own_iload_n 7 X0 hx hby at_6 rfl rfl ?_
    refine own_goto 14 X0 hx hby at_7 (by decide) (by decide) ?_
    refine own_istore_n 15 #[oI x0, oI x1, oI x0, oU, oU] X0 hx hby at_14 rfl rfl ?_
    refine own_iload_n 16 X0 hx hby at_15 rfl rfl ?_
    by_cases hc159 : x0 = (1 : Int32)
    · refine own_callS (W := 0) 19 (rm1_1 l Z a0 hw [] w_HELLO w_ADD_SERVICE w_GET_SERVICE w_LIST_SERVICES w_TRANSLATE w_RESOLVE w_RELEASE w_STATUS w_WAITING w_WATCH w_ACQUIRE w_RETIRE w_RESULT w_FAILURE w_DEAD w_COUNT_WAITING w_CLOSING w_UNHELD w_OPEN w_TRANSACTION w_REPLY w_KNOCK w_ALL k_ALL W x0 h0 n0 O0 hc159) X0 hx hby hZ hown (own_w hw 0 rfl) (own_w hw 1 rfl) (own_w hw 2 rfl) (own_w hw 3 rfl) (by decide) (by rw [hml]; rfl) [(.int x0)] [] pd_0 rfl at_16 rfl e0 rfl rfl rfl (by decide) (by decide) (by decide) (by decide) ?_
      rintro _ T160 L160 X160 ⟨rfl, N160, e160⟩
      have N160 := Fr.app N0 N160
      show Go p e below _ (T160.setTop (mkF m 19 _ [(.ref w_HELLO)]))
      refine own_astore_n 20 #[oI x0, oI x1, oI x0, oA w_HELLO, oU] X160 hx hby at_19 rfl rfl rfl ?_
      refine own_iload_n 21 X160 hx hby at_20 rfl rfl ?_
      refine own_callS (W := 0) 24 (rm2_1 l Z a0 hw [] w_HELLO w_ADD_SERVICE w_GET_SERVICE w_LIST_SERVICES w_TRANSLATE w_RESOLVE w_RELEASE w_STATUS w_WAITING w_WATCH w_ACQUIRE w_RETIRE w_RESULT w_FAILURE w_DEAD w_COUNT_WAITING w_CLOSING w_UNHELD w_OPEN w_TRANSACTION w_REPLY w_KNOCK w_ALL k_ALL W x0 h0 n0 O0 hc159.symm) X160 hx hby hZ hown (own_w hw 4 rfl) (own_w hw 5 rfl) (own_w hw 6 rfl) (own_w hw 7 rfl) (by decide) (by rw [hml]; rfl) [(.int x0)] [] pd_0 rfl at_21 rfl e160 rfl rfl rfl (by decide) (by decide) (by decide) (by decide) ?_
      rintro _ T161 L161 X161 ⟨rfl, N161, e161⟩
      have N161 := Fr.app N160 N161
      show Go p e below _ (T161.setTop (mkF m 24 _ [(.ref w_HELLO)]))
      refine own_astore 26 #[oI x0, oI x1, oI x0, oA w_HELLO, oA w_HELLO] X161 hx hby at_24 rfl rfl rfl ?_
      refine own_aload 28 X161 hx hby at_26 rfl rfl rfl ?_
      refine own_aload_n 29 X161 hx hby at_28 rfl rfl rfl ?_
      refine own_acmp 32 true X161 hx hby at_29 rfl rfl (by decide) (by decide) (decide_eq_true (congrArg Value.ref rfl)) ?_
      refine own_iconst 33 (1 : Int32) X161 hx hby at_32 rfl (by decide) ?_
      refine own_goto 37 X161 hx hby at_33 (by decide) (by decide) ?_
      exact own_ret (Q := own_Q1 n0) X161 hx hby hret hlk at_37 rfl (Or.inl ⟨rfl, by simp, _, rfl⟩) (by decide) (by decide) ⟨rfl, N161⟩
    by_cases hc162 : x0 = (2 : Int32)
    · refine own_callS (W := 0) 19 (rm1_2 l Z a0 hw [] w_HELLO w_ADD_SERVICE w_GET_SERVICE w_LIST_SERVICES w_TRANSLATE w_RESOLVE w_RELEASE w_STATUS w_WAITING w_WATCH w_ACQUIRE w_RETIRE w_RESULT w_FAILURE w_DEAD w_COUNT_WAITING w_CLOSING w_UNHELD w_OPEN w_TRANSACTION w_REPLY w_KNOCK w_ALL k_ALL W x0 h0 n0 O0 hc159 hc162) X0 hx hby hZ hown (own_w hw 0 rfl) (own_w hw 1 rfl) (own_w hw 2 rfl) (own_w hw 3 rfl) (by decide) (by rw [hml]; rfl) [(.int x0)] [] pd_0 rfl at_16 rfl e0 rfl rfl rfl (by decide) (by decide) (by decide) (by decide) ?_
      rintro _ T163 L163 X163 ⟨rfl, N163, e163⟩
      have N163 := Fr.app N0 N163
      show Go p e below _ (T163.setTop (mkF m 19 _ [(.ref w_ADD_SERVICE)]))
      refine own_astore_n 20 #[oI x0, oI x1, oI x0, oA w_ADD_SERVICE, oU] X163 hx hby at_19 rfl rfl rfl ?_
      refine own_iload_n 21 X163 hx hby at_20 rfl rfl ?_
      refine own_callS (W := 0) 24 (rm2_2 l Z a0 hw [] w_HELLO w_ADD_SERVICE w_GET_SERVICE w_LIST_SERVICES w_TRANSLATE w_RESOLVE w_RELEASE w_STATUS w_WAITING w_WATCH w_ACQUIRE w_RETIRE w_RESULT w_FAILURE w_DEAD w_COUNT_WAITING w_CLOSING w_UNHELD w_OPEN w_TRANSACTION w_REPLY w_KNOCK w_ALL k_ALL W x0 h0 n0 O0 (fun q => hc159 q.symm) hc162.symm) X163 hx hby hZ hown (own_w hw 4 rfl) (own_w hw 5 rfl) (own_w hw 6 rfl) (own_w hw 7 rfl) (by decide) (by rw [hml]; rfl) [(.int x0)] [] pd_0 rfl at_21 rfl e163 rfl rfl rfl (by decide) (by decide) (by decide) (by decide) ?_
      rintro _ T164 L164 X164 ⟨rfl, N164, e164⟩
      have N164 := Fr.app N163 N164
      show Go p e below _ (T164.setTop (mkF m 24 _ [(.ref w_ADD_SERVICE)]))
      refine own_astore 26 #[oI x0, oI x1, oI x0, oA w_ADD_SERVICE, oA w_ADD_SERVICE] X164 hx hby at_24 rfl rfl rfl ?_
      refine own_aload 28 X164 hx hby at_26 rfl rfl rfl ?_
      refine own_aload_n 29 X164 hx hby at_28 rfl rfl rfl ?_
      refine own_acmp 32 true X164 hx hby at_29 rfl rfl (by decide) (by decide) (decide_eq_true (congrArg Value.ref rfl)) ?_
      refine own_iconst 33 (1 : Int32) X164 hx hby at_32 rfl (by decide) ?_
      refine own_goto 37 X164 hx hby at_33 (by decide) (by decide) ?_
      exact own_ret (Q := own_Q1 n0) X164 hx hby hret hlk at_37 rfl (Or.inl ⟨rfl, by simp, _, rfl⟩) (by decide) (by decide) ⟨rfl, N164⟩
    by_cases hc165 : x0 = (3 : Int32)
    · refine own_callS (W := 0) 19 (rm1_3 l Z a0 hw [] w_HELLO w_ADD_SERVICE w_GET_SERVICE w_LIST_SERVICES w_TRANSLATE w_RESOLVE w_RELEASE w_STATUS w_WAITING w_WATCH w_ACQUIRE w_RETIRE w_RESULT w_FAILURE w_DEAD w_COUNT_WAITING w_CLOSING w_UNHELD w_OPEN w_TRANSACTION w_REPLY w_KNOCK w_ALL k_ALL W x0 h0 n0 O0 hc159 hc162 hc165) X0 hx hby hZ hown (own_w hw 0 rfl) (own_w hw 1 rfl) (own_w hw 2 rfl) (own_w hw 3 rfl) (by decide) (by rw [hml]; rfl) [(.int x0)] [] pd_0 rfl at_16 rfl e0 rfl rfl rfl (by decide) (by decide) (by decide) (by decide) ?_
      rintro _ T166 L166 X166 ⟨rfl, N166, e166⟩
      have N166 := Fr.app N0 N166
      show Go p e below _ (T166.setTop (mkF m 19 _ [(.ref w_GET_SERVICE)]))
      refine own_astore_n 20 #[oI x0, oI x1, oI x0, oA w_GET_SERVICE, oU] X166 hx hby at_19 rfl rfl rfl ?_
      refine own_iload_n 21 X166 hx hby at_20 rfl rfl ?_
      refine own_callS (W := 0) 24 (rm2_3 l Z a0 hw [] w_HELLO w_ADD_SERVICE w_GET_SERVICE w_LIST_SERVICES w_TRANSLATE w_RESOLVE w_RELEASE w_STATUS w_WAITING w_WATCH w_ACQUIRE w_RETIRE w_RESULT w_FAILURE w_DEAD w_COUNT_WAITING w_CLOSING w_UNHELD w_OPEN w_TRANSACTION w_REPLY w_KNOCK w_ALL k_ALL W x0 h0 n0 O0 (fun q => hc159 q.symm) (fun q => hc162 q.symm) hc165.symm) X166 hx hby hZ hown (own_w hw 4 rfl) (own_w hw 5 rfl) (own_w hw 6 rfl) (own_w hw 7 rfl) (by decide) (by rw [hml]; rfl) [(.int x0)] [] pd_0 rfl at_21 rfl e166 rfl rfl rfl (by decide) (by decide) (by decide) (by decide) ?_
      rintro _ T167 L167 X167 ⟨rfl, N167, e167⟩
      have N167 := Fr.app N166 N167
      show Go p e below _ (T167.setTop (mkF m 24 _ [(.ref w_GET_SERVICE)]))
      refine own_astore 26 #[oI x0, oI x1, oI x0, oA w_GET_SERVICE, oA w_GET_SERVICE] X167 hx hby at_24 rfl rfl rfl ?_
      refine own_aload 28 X167 hx hby at_26 rfl rfl rfl ?_
      refine own_aload_n 29 X167 hx hby at_28 rfl rfl rfl ?_
      refine own_acmp 32 true X167 hx hby at_29 rfl rfl (by decide) (by decide) (decide_eq_true (congrArg Value.ref rfl)) ?_
      refine own_iconst 33 (1 : Int32) X167 hx hby at_32 rfl (by decide) ?_
      refine own_goto 37 X167 hx hby at_33 (by decide) (by decide) ?_
      exact own_ret (Q := own_Q1 n0) X167 hx hby hret hlk at_37 rfl (Or.inl ⟨rfl, by simp, _, rfl⟩) (by decide) (by decide) ⟨rfl, N167⟩
    by_cases hc168 : x0 = (4 : Int32)
    · refine own_callS (W := 0) 19 (rm1_4 l Z a0 hw [] w_HELLO w_ADD_SERVICE w_GET_SERVICE w_LIST_SERVICES w_TRANSLATE w_RESOLVE w_RELEASE w_STATUS w_WAITING w_WATCH w_ACQUIRE w_RETIRE w_RESULT w_FAILURE w_DEAD w_COUNT_WAITING w_CLOSING w_UNHELD w_OPEN w_TRANSACTION w_REPLY w_KNOCK w_ALL k_ALL W x0 h0 n0 O0 hc159 hc162 hc165 hc168) X0 hx hby hZ hown (own_w hw 0 rfl) (own_w hw 1 rfl) (own_w hw 2 rfl) (own_w hw 3 rfl) (by decide) (by rw [hml]; rfl) [(.int x0)] [] pd_0 rfl at_16 rfl e0 rfl rfl rfl (by decide) (by decide) (by decide) (by decide) ?_
      rintro _ T169 L169 X169 ⟨rfl, N169, e169⟩
      have N169 := Fr.app N0 N169
      show Go p e below _ (T169.setTop (mkF m 19 _ [(.ref w_LIST_SERVICES)]))
      refine own_astore_n 20 #[oI x0, oI x1, oI x0, oA w_LIST_SERVICES, oU] X169 hx hby at_19 rfl rfl rfl ?_
      refine own_iload_n 21 X169 hx hby at_20 rfl rfl ?_
      refine own_callS (W := 0) 24 (rm2_4 l Z a0 hw [] w_HELLO w_ADD_SERVICE w_GET_SERVICE w_LIST_SERVICES w_TRANSLATE w_RESOLVE w_RELEASE w_STATUS w_WAITING w_WATCH w_ACQUIRE w_RETIRE w_RESULT w_FAILURE w_DEAD w_COUNT_WAITING w_CLOSING w_UNHELD w_OPEN w_TRANSACTION w_REPLY w_KNOCK w_ALL k_ALL W x0 h0 n0 O0 (fun q => hc159 q.symm) (fun q => hc162 q.symm) (fun q => hc165 q.symm) hc168.symm) X169 hx hby hZ hown (own_w hw 4 rfl) (own_w hw 5 rfl) (own_w hw 6 rfl) (own_w hw 7 rfl) (by decide) (by rw [hml]; rfl) [(.int x0)] [] pd_0 rfl at_21 rfl e169 rfl rfl rfl (by decide) (by decide) (by decide) (by decide) ?_
      rintro _ T170 L170 X170 ⟨rfl, N170, e170⟩
      have N170 := Fr.app N169 N170
      show Go p e below _ (T170.setTop (mkF m 24 _ [(.ref w_LIST_SERVICES)]))
      refine own_astore 26 #[oI x0, oI x1, oI x0, oA w_LIST_SERVICES, oA w_LIST_SERVICES] X170 hx hby at_24 rfl rfl rfl ?_
      refine own_aload 28 X170 hx hby at_26 rfl rfl rfl ?_
      refine own_aload_n 29 X170 hx hby at_28 rfl rfl rfl ?_
      refine own_acmp 32 true X170 hx hby at_29 rfl rfl (by decide) (by decide) (decide_eq_true (congrArg Value.ref rfl)) ?_
      refine own_iconst 33 (1 : Int32) X170 hx hby at_32 rfl (by decide) ?_
      refine own_goto 37 X170 hx hby at_33 (by decide) (by decide) ?_
      exact own_ret (Q := own_Q1 n0) X170 hx hby hret hlk at_37 rfl (Or.inl ⟨rfl, by simp, _, rfl⟩) (by decide) (by decide) ⟨rfl, N170⟩
    by_cases hc171 : x0 = (5 : Int32)
    · refine own_callS (W := 0) 19 (rm1_5 l Z a0 hw [] w_HELLO w_ADD_SERVICE w_GET_SERVICE w_LIST_SERVICES w_TRANSLATE w_RESOLVE w_RELEASE w_STATUS w_WAITING w_WATCH w_ACQUIRE w_RETIRE w_RESULT w_FAILURE w_DEAD w_COUNT_WAITING w_CLOSING w_UNHELD w_OPEN w_TRANSACTION w_REPLY w_KNOCK w_ALL k_ALL W x0 h0 n0 O0 hc159 hc162 hc165 hc168 hc171) X0 hx hby hZ hown (own_w hw 0 rfl) (own_w hw 1 rfl) (own_w hw 2 rfl) (own_w hw 3 rfl) (by decide) (by rw [hml]; rfl) [(.int x0)] [] pd_0 rfl at_16 rfl e0 rfl rfl rfl (by decide) (by decide) (by decide) (by decide) ?_
      rintro _ T172 L172 X172 ⟨rfl, N172, e172⟩
      have N172 := Fr.app N0 N172
      show Go p e below _ (T172.setTop (mkF m 19 _ [(.ref w_TRANSLATE)]))
      refine own_astore_n 20 #[oI x0, oI x1, oI x0, oA w_TRANSLATE, oU] X172 hx hby at_19 rfl rfl rfl ?_
      refine own_iload_n 21 X172 hx hby at_20 rfl rfl ?_
      refine own_callS (W := 0) 24 (rm2_5 l Z a0 hw [] w_HELLO w_ADD_SERVICE w_GET_SERVICE w_LIST_SERVICES w_TRANSLATE w_RESOLVE w_RELEASE w_STATUS w_WAITING w_WATCH w_ACQUIRE w_RETIRE w_RESULT w_FAILURE w_DEAD w_COUNT_WAITING w_CLOSING w_UNHELD w_OPEN w_TRANSACTION w_REPLY w_KNOCK w_ALL k_ALL W x0 h0 n0 O0 (fun q => hc159 q.symm) (fun q => hc162 q.symm) (fun q => hc165 q.symm) (fun q => hc168 q.symm) hc171.symm) X172 hx hby hZ hown (own_w hw 4 rfl) (own_w hw 5 rfl) (own_w hw 6 rfl) (own_w hw 7 rfl) (by decide) (by rw [hml]; rfl) [(.int x0)] [] pd_0 rfl at_21 rfl e172 rfl rfl rfl (by decide) (by decide) (by decide) (by decide) ?_
      rintro _ T173 L173 X173 ⟨rfl, N173, e173⟩
      have N173 := Fr.app N172 N173
      show Go p e below _ (T173.setTop (mkF m 24 _ [(.ref w_TRANSLATE)]))
      refine own_astore 26 #[oI x0, oI x1, oI x0, oA w_TRANSLATE, oA w_TRANSLATE] X173 hx hby at_24 rfl rfl rfl ?_
      refine own_aload 28 X173 hx hby at_26 rfl rfl rfl ?_
      refine own_aload_n 29 X173 hx hby at_28 rfl rfl rfl ?_
      refine own_acmp 32 true X173 hx hby at_29 rfl rfl (by decide) (by decide) (decide_eq_true (congrArg Value.ref rfl)) ?_
      refine own_iconst 33 (1 : Int32) X173 hx hby at_32 rfl (by decide) ?_
      refine own_goto 37 X173 hx hby at_33 (by decide) (by decide) ?_
      exact own_ret (Q := own_Q1 n0) X173 hx hby hret hlk at_37 rfl (Or.inl ⟨rfl, by simp, _, rfl⟩) (by decide) (by decide) ⟨rfl, N173⟩
    by_cases hc174 : x0 = (6 : Int32)
    · refine own_callS (W := 0) 19 (rm1_6 l Z a0 hw [] w_HELLO w_ADD_SERVICE w_GET_SERVICE w_LIST_SERVICES w_TRANSLATE w_RESOLVE w_RELEASE w_STATUS w_WAITING w_WATCH w_ACQUIRE w_RETIRE w_RESULT w_FAILURE w_DEAD w_COUNT_WAITING w_CLOSING w_UNHELD w_OPEN w_TRANSACTION w_REPLY w_KNOCK w_ALL k_ALL W x0 h0 n0 O0 hc159 hc162 hc165 hc168 hc171 hc174) X0 hx hby hZ hown (own_w hw 0 rfl) (own_w hw 1 rfl) (own_w hw 2 rfl) (own_w hw 3 rfl) (by decide) (by rw [hml]; rfl) [(.int x0)] [] pd_0 rfl at_16 rfl e0 rfl rfl rfl (by decide) (by decide) (by decide) (by decide) ?_
      rintro _ T175 L175 X175 ⟨rfl, N175, e175⟩
      have N175 := Fr.app N0 N175
      show Go p e below _ (T175.setTop (mkF m 19 _ [(.ref w_RESOLVE)]))
      refine own_astore_n 20 #[oI x0, oI x1, oI x0, oA w_RESOLVE, oU] X175 hx hby at_19 rfl rfl rfl ?_
      refine own_iload_n 21 X175 hx hby at_20 rfl rfl ?_
      refine own_callS (W := 0) 24 (rm2_6 l Z a0 hw [] w_HELLO w_ADD_SERVICE w_GET_SERVICE w_LIST_SERVICES w_TRANSLATE w_RESOLVE w_RELEASE w_STATUS w_WAITING w_WATCH w_ACQUIRE w_RETIRE w_RESULT w_FAILURE w_DEAD w_COUNT_WAITING w_CLOSING w_UNHELD w_OPEN w_TRANSACTION w_REPLY w_KNOCK w_ALL k_ALL W x0 h0 n0 O0 (fun q => hc159 q.symm) (fun q => hc162 q.symm) (fun q => hc165 q.symm) (fun q => hc168 q.symm) (fun q => hc171 q.symm) hc174.symm) X175 hx hby hZ hown (own_w hw 4 rfl) (own_w hw 5 rfl) (own_w hw 6 rfl) (own_w hw 7 rfl) (by decide) (by rw [hml]; rfl) [(.int x0)] [] pd_0 rfl at_21 rfl e175 rfl rfl rfl (by decide) (by decide) (by decide) (by decide) ?_
      rintro _ T176 L176 X176 ⟨rfl, N176, e176⟩
      have N176 := Fr.app N175 N176
      show Go p e below _ (T176.setTop (mkF m 24 _ [(.ref w_RESOLVE)]))
      refine own_astore 26 #[oI x0, oI x1, oI x0, oA w_RESOLVE, oA w_RESOLVE] X176 hx hby at_24 rfl rfl rfl ?_
      refine own_aload 28 X176 hx hby at_26 rfl rfl rfl ?_
      refine own_aload_n 29 X176 hx hby at_28 rfl rfl rfl ?_
      refine own_acmp 32 true X176 hx hby at_29 rfl rfl (by decide) (by decide) (decide_eq_true (congrArg Value.ref rfl)) ?_
      refine own_iconst 33 (1 : Int32) X176 hx hby at_32 rfl (by decide) ?_
      refine own_goto 37 X176 hx hby at_33 (by decide) (by decide) ?_
      exact own_ret (Q := own_Q1 n0) X176 hx hby hret hlk at_37 rfl (Or.inl ⟨rfl, by simp, _, rfl⟩) (by decide) (by decide) ⟨rfl, N176⟩
    by_cases hc177 : x0 = (7 : Int32)
    · refine own_callS (W := 0) 19 (rm1_7 l Z a0 hw [] w_HELLO w_ADD_SERVICE w_GET_SERVICE w_LIST_SERVICES w_TRANSLATE w_RESOLVE w_RELEASE w_STATUS w_WAITING w_WATCH w_ACQUIRE w_RETIRE w_RESULT w_FAILURE w_DEAD w_COUNT_WAITING w_CLOSING w_UNHELD w_OPEN w_TRANSACTION w_REPLY w_KNOCK w_ALL k_ALL W x0 h0 n0 O0 hc159 hc162 hc165 hc168 hc171 hc174 hc177) X0 hx hby hZ hown (own_w hw 0 rfl) (own_w hw 1 rfl) (own_w hw 2 rfl) (own_w hw 3 rfl) (by decide) (by rw [hml]; rfl) [(.int x0)] [] pd_0 rfl at_16 rfl e0 rfl rfl rfl (by decide) (by decide) (by decide) (by decide) ?_
      rintro _ T178 L178 X178 ⟨rfl, N178, e178⟩
      have N178 := Fr.app N0 N178
      show Go p e below _ (T178.setTop (mkF m 19 _ [(.ref w_RELEASE)]))
      refine own_astore_n 20 #[oI x0, oI x1, oI x0, oA w_RELEASE, oU] X178 hx hby at_19 rfl rfl rfl ?_
      refine own_iload_n 21 X178 hx hby at_20 rfl rfl ?_
      refine own_callS (W := 0) 24 (rm2_7 l Z a0 hw [] w_HELLO w_ADD_SERVICE w_GET_SERVICE w_LIST_SERVICES w_TRANSLATE w_RESOLVE w_RELEASE w_STATUS w_WAITING w_WATCH w_ACQUIRE w_RETIRE w_RESULT w_FAILURE w_DEAD w_COUNT_WAITING w_CLOSING w_UNHELD w_OPEN w_TRANSACTION w_REPLY w_KNOCK w_ALL k_ALL W x0 h0 n0 O0 (fun q => hc159 q.symm) (fun q => hc162 q.symm) (fun q => hc165 q.symm) (fun q => hc168 q.symm) (fun q => hc171 q.symm) (fun q => hc174 q.symm) hc177.symm) X178 hx hby hZ hown (own_w hw 4 rfl) (own_w hw 5 rfl) (own_w hw 6 rfl) (own_w hw 7 rfl) (by decide) (by rw [hml]; rfl) [(.int x0)] [] pd_0 rfl at_21 rfl e178 rfl rfl rfl (by decide) (by decide) (by decide) (by decide) ?_
      rintro _ T179 L179 X179 ⟨rfl, N179, e179⟩
      have N179 := Fr.app N178 N179
      show Go p e below _ (T179.setTop (mkF m 24 _ [(.ref w_RELEASE)]))
      refine own_astore 26 #[oI x0, oI x1, oI x0, oA w_RELEASE, oA w_RELEASE] X179 hx hby at_24 rfl rfl rfl ?_
      refine own_aload 28 X179 hx hby at_26 rfl rfl rfl ?_
      refine own_aload_n 29 X179 hx hby at_28 rfl rfl rfl ?_
      refine own_acmp 32 true X179 hx hby at_29 rfl rfl (by decide) (by decide) (decide_eq_true (congrArg Value.ref rfl)) ?_
      refine own_iconst 33 (1 : Int32) X179 hx hby at_32 rfl (by decide) ?_
      refine own_goto 37 X179 hx hby at_33 (by decide) (by decide) ?_
      exact own_ret (Q := own_Q1 n0) X179 hx hby hret hlk at_37 rfl (Or.inl ⟨rfl, by simp, _, rfl⟩) (by decide) (by decide) ⟨rfl, N179⟩
    by_cases hc180 : x0 = (8 : Int32)
    · refine own_callS (W := 0) 19 (rm1_8 l Z a0 hw [] w_HELLO w_ADD_SERVICE w_GET_SERVICE w_LIST_SERVICES w_TRANSLATE w_RESOLVE w_RELEASE w_STATUS w_WAITING w_WATCH w_ACQUIRE w_RETIRE w_RESULT w_FAILURE w_DEAD w_COUNT_WAITING w_CLOSING w_UNHELD w_OPEN w_TRANSACTION w_REPLY w_KNOCK w_ALL k_ALL W x0 h0 n0 O0 hc159 hc162 hc165 hc168 hc171 hc174 hc177 hc180) X0 hx hby hZ hown (own_w hw 0 rfl) (own_w hw 1 rfl) (own_w hw 2 rfl) (own_w hw 3 rfl) (by decide) (by rw [hml]; rfl) [(.int x0)] [] pd_0 rfl at_16 rfl e0 rfl rfl rfl (by decide) (by decide) (by decide) (by decide) ?_
      rintro _ T181 L181 X181 ⟨rfl, N181, e181⟩
      have N181 := Fr.app N0 N181
      show Go p e below _ (T181.setTop (mkF m 19 _ [(.ref w_STATUS)]))
      refine own_astore_n 20 #[oI x0, oI x1, oI x0, oA w_STATUS, oU] X181 hx hby at_19 rfl rfl rfl ?_
      refine own_iload_n 21 X181 hx hby at_20 rfl rfl ?_
      refine own_callS (W := 0) 24 (rm2_8 l Z a0 hw [] w_HELLO w_ADD_SERVICE w_GET_SERVICE w_LIST_SERVICES w_TRANSLATE w_RESOLVE w_RELEASE w_STATUS w_WAITING w_WATCH w_ACQUIRE w_RETIRE w_RESULT w_FAILURE w_DEAD w_COUNT_WAITING w_CLOSING w_UNHELD w_OPEN w_TRANSACTION w_REPLY w_KNOCK w_ALL k_ALL W x0 h0 n0 O0 (fun q => hc159 q.symm) (fun q => hc162 q.symm) (fun q => hc165 q.symm) (fun q => hc168 q.symm) (fun q => hc171 q.symm) (fun q => hc174 q.symm) (fun q => hc177 q.symm) hc180.symm) X181 hx hby hZ hown (own_w hw 4 rfl) (own_w hw 5 rfl) (own_w hw 6 rfl) (own_w hw 7 rfl) (by decide) (by rw [hml]; rfl) [(.int x0)] [] pd_0 rfl at_21 rfl e181 rfl rfl rfl (by decide) (by decide) (by decide) (by decide) ?_
      rintro _ T182 L182 X182 ⟨rfl, N182, e182⟩
      have N182 := Fr.app N181 N182
      show Go p e below _ (T182.setTop (mkF m 24 _ [(.ref w_STATUS)]))
      refine own_astore 26 #[oI x0, oI x1, oI x0, oA w_STATUS, oA w_STATUS] X182 hx hby at_24 rfl rfl rfl ?_
      refine own_aload 28 X182 hx hby at_26 rfl rfl rfl ?_
      refine own_aload_n 29 X182 hx hby at_28 rfl rfl rfl ?_
      refine own_acmp 32 true X182 hx hby at_29 rfl rfl (by decide) (by decide) (decide_eq_true (congrArg Value.ref rfl)) ?_
      refine own_iconst 33 (1 : Int32) X182 hx hby at_32 rfl (by decide) ?_
      refine own_goto 37 X182 hx hby at_33 (by decide) (by decide) ?_
      exact own_ret (Q := own_Q1 n0) X182 hx hby hret hlk at_37 rfl (Or.inl ⟨rfl, by simp, _, rfl⟩) (by decide) (by decide) ⟨rfl, N182⟩
    by_cases hc183 : x0 = (9 : Int32)
    · refine own_callS (W := 0) 19 (rm1_9 l Z a0 hw [] w_HELLO w_ADD_SERVICE w_GET_SERVICE w_LIST_SERVICES w_TRANSLATE w_RESOLVE w_RELEASE w_STATUS w_WAITING w_WATCH w_ACQUIRE w_RETIRE w_RESULT w_FAILURE w_DEAD w_COUNT_WAITING w_CLOSING w_UNHELD w_OPEN w_TRANSACTION w_REPLY w_KNOCK w_ALL k_ALL W x0 h0 n0 O0 hc159 hc162 hc165 hc168 hc171 hc174 hc177 hc180 hc183) X0 hx hby hZ hown (own_w hw 0 rfl) (own_w hw 1 rfl) (own_w hw 2 rfl) (own_w hw 3 rfl) (by decide) (by rw [hml]; rfl) [(.int x0)] [] pd_0 rfl at_16 rfl e0 rfl rfl rfl (by decide) (by decide) (by decide) (by decide) ?_
      rintro _ T184 L184 X184 ⟨rfl, N184, e184⟩
      have N184 := Fr.app N0 N184
      show Go p e below _ (T184.setTop (mkF m 19 _ [(.ref w_WAITING)]))
      refine own_astore_n 20 #[oI x0, oI x1, oI x0, oA w_WAITING, oU] X184 hx hby at_19 rfl rfl rfl ?_
      refine own_iload_n 21 X184 hx hby at_20 rfl rfl ?_
      refine own_callS (W := 0) 24 (rm2_9 l Z a0 hw [] w_HELLO w_ADD_SERVICE w_GET_SERVICE w_LIST_SERVICES w_TRANSLATE w_RESOLVE w_RELEASE w_STATUS w_WAITING w_WATCH w_ACQUIRE w_RETIRE w_RESULT w_FAILURE w_DEAD w_COUNT_WAITING w_CLOSING w_UNHELD w_OPEN w_TRANSACTION w_REPLY w_KNOCK w_ALL k_ALL W x0 h0 n0 O0 (fun q => hc159 q.symm) (fun q => hc162 q.symm) (fun q => hc165 q.symm) (fun q => hc168 q.symm) (fun q => hc171 q.symm) (fun q => hc174 q.symm) (fun q => hc177 q.symm) (fun q => hc180 q.symm) hc183.symm) X184 hx hby hZ hown (own_w hw 4 rfl) (own_w hw 5 rfl) (own_w hw 6 rfl) (own_w hw 7 rfl) (by decide) (by rw [hml]; rfl) [(.int x0)] [] pd_0 rfl at_21 rfl e184 rfl rfl rfl (by decide) (by decide) (by decide) (by decide) ?_
      rintro _ T185 L185 X185 ⟨rfl, N185, e185⟩
      have N185 := Fr.app N184 N185
      show Go p e below _ (T185.setTop (mkF m 24 _ [(.ref w_WAITING)]))
      refine own_astore 26 #[oI x0, oI x1, oI x0, oA w_WAITING, oA w_WAITING] X185 hx hby at_24 rfl rfl rfl ?_
      refine own_aload 28 X185 hx hby at_26 rfl rfl rfl ?_
      refine own_aload_n 29 X185 hx hby at_28 rfl rfl rfl ?_
      refine own_acmp 32 true X185 hx hby at_29 rfl rfl (by decide) (by decide) (decide_eq_true (congrArg Value.ref rfl)) ?_
      refine own_iconst 33 (1 : Int32) X185 hx hby at_32 rfl (by decide) ?_
      refine own_goto 37 X185 hx hby at_33 (by decide) (by decide) ?_
      exact own_ret (Q := own_Q1 n0) X185 hx hby hret hlk at_37 rfl (Or.inl ⟨rfl, by simp, _, rfl⟩) (by decide) (by decide) ⟨rfl, N185⟩
    by_cases hc186 : x0 = (10 : Int32)
    · refine own_callS (W := 0) 19 (rm1_10 l Z a0 hw [] w_HELLO w_ADD_SERVICE w_GET_SERVICE w_LIST_SERVICES w_TRANSLATE w_RESOLVE w_RELEASE w_STATUS w_WAITING w_WATCH w_ACQUIRE w_RETIRE w_RESULT w_FAILURE w_DEAD w_COUNT_WAITING w_CLOSING w_UNHELD w_OPEN w_TRANSACTION w_REPLY w_KNOCK w_ALL k_ALL W x0 h0 n0 O0 hc159 hc162 hc165 hc168 hc171 hc174 hc177 hc180 hc183 hc186) X0 hx hby hZ hown (own_w hw 0 rfl) (own_w hw 1 rfl) (own_w hw 2 rfl) (own_w hw 3 rfl) (by decide) (by rw [hml]; rfl) [(.int x0)] [] pd_0 rfl at_16 rfl e0 rfl rfl rfl (by decide) (by decide) (by decide) (by decide) ?_
      rintro _ T187 L187 X187 ⟨rfl, N187, e187⟩
      have N187 := Fr.app N0 N187
      show Go p e below _ (T187.setTop (mkF m 19 _ [(.ref w_WATCH)]))
      refine own_astore_n 20 #[oI x0, oI x1, oI x0, oA w_WATCH, oU] X187 hx hby at_19 rfl rfl rfl ?_
      refine own_iload_n 21 X187 hx hby at_20 rfl rfl ?_
      refine own_callS (W := 0) 24 (rm2_10 l Z a0 hw [] w_HELLO w_ADD_SERVICE w_GET_SERVICE w_LIST_SERVICES w_TRANSLATE w_RESOLVE w_RELEASE w_STATUS w_WAITING w_WATCH w_ACQUIRE w_RETIRE w_RESULT w_FAILURE w_DEAD w_COUNT_WAITING w_CLOSING w_UNHELD w_OPEN w_TRANSACTION w_REPLY w_KNOCK w_ALL k_ALL W x0 h0 n0 O0 (fun q => hc159 q.symm) (fun q => hc162 q.symm) (fun q => hc165 q.symm) (fun q => hc168 q.symm) (fun q => hc171 q.symm) (fun q => hc174 q.symm) (fun q => hc177 q.symm) (fun q => hc180 q.symm) (fun q => hc183 q.symm) hc186.symm) X187 hx hby hZ hown (own_w hw 4 rfl) (own_w hw 5 rfl) (own_w hw 6 rfl) (own_w hw 7 rfl) (by decide) (by rw [hml]; rfl) [(.int x0)] [] pd_0 rfl at_21 rfl e187 rfl rfl rfl (by decide) (by decide) (by decide) (by decide) ?_
      rintro _ T188 L188 X188 ⟨rfl, N188, e188⟩
      have N188 := Fr.app N187 N188
      show Go p e below _ (T188.setTop (mkF m 24 _ [(.ref w_WATCH)]))
      refine own_astore 26 #[oI x0, oI x1, oI x0, oA w_WATCH, oA w_WATCH] X188 hx hby at_24 rfl rfl rfl ?_
      refine own_aload 28 X188 hx hby at_26 rfl rfl rfl ?_
      refine own_aload_n 29 X188 hx hby at_28 rfl rfl rfl ?_
      refine own_acmp 32 true X188 hx hby at_29 rfl rfl (by decide) (by decide) (decide_eq_true (congrArg Value.ref rfl)) ?_
      refine own_iconst 33 (1 : Int32) X188 hx hby at_32 rfl (by decide) ?_
      refine own_goto 37 X188 hx hby at_33 (by decide) (by decide) ?_
      exact own_ret (Q := own_Q1 n0) X188 hx hby hret hlk at_37 rfl (Or.inl ⟨rfl, by simp, _, rfl⟩) (by decide) (by decide) ⟨rfl, N188⟩
    by_cases hc189 : x0 = (11 : Int32)
    · refine own_callS (W := 0) 19 (rm1_11 l Z a0 hw [] w_HELLO w_ADD_SERVICE w_GET_SERVICE w_LIST_SERVICES w_TRANSLATE w_RESOLVE w_RELEASE w_STATUS w_WAITING w_WATCH w_ACQUIRE w_RETIRE w_RESULT w_FAILURE w_DEAD w_COUNT_WAITING w_CLOSING w_UNHELD w_OPEN w_TRANSACTION w_REPLY w_KNOCK w_ALL k_ALL W x0 h0 n0 O0 hc159 hc162 hc165 hc168 hc171 hc174 hc177 hc180 hc183 hc186 hc189) X0 hx hby hZ hown (own_w hw 0 rfl) (own_w hw 1 rfl) (own_w hw 2 rfl) (own_w hw 3 rfl) (by decide) (by rw [hml]; rfl) [(.int x0)] [] pd_0 rfl at_16 rfl e0 rfl rfl rfl (by decide) (by decide) (by decide) (by decide) ?_
      rintro _ T190 L190 X190 ⟨rfl, N190, e190⟩
      have N190 := Fr.app N0 N190
      show Go p e below _ (T190.setTop (mkF m 19 _ [(.ref w_ACQUIRE)]))
      refine own_astore_n 20 #[oI x0, oI x1, oI x0, oA w_ACQUIRE, oU] X190 hx hby at_19 rfl rfl rfl ?_
      refine own_iload_n 21 X190 hx hby at_20 rfl rfl ?_
      refine own_callS (W := 0) 24 (rm2_11 l Z a0 hw [] w_HELLO w_ADD_SERVICE w_GET_SERVICE w_LIST_SERVICES w_TRANSLATE w_RESOLVE w_RELEASE w_STATUS w_WAITING w_WATCH w_ACQUIRE w_RETIRE w_RESULT w_FAILURE w_DEAD w_COUNT_WAITING w_CLOSING w_UNHELD w_OPEN w_TRANSACTION w_REPLY w_KNOCK w_ALL k_ALL W x0 h0 n0 O0 (fun q => hc159 q.symm) (fun q => hc162 q.symm) (fun q => hc165 q.symm) (fun q => hc168 q.symm) (fun q => hc171 q.symm) (fun q => hc174 q.symm) (fun q => hc177 q.symm) (fun q => hc180 q.symm) (fun q => hc183 q.symm) (fun q => hc186 q.symm) hc189.symm) X190 hx hby hZ hown (own_w hw 4 rfl) (own_w hw 5 rfl) (own_w hw 6 rfl) (own_w hw 7 rfl) (by decide) (by rw [hml]; rfl) [(.int x0)] [] pd_0 rfl at_21 rfl e190 rfl rfl rfl (by decide) (by decide) (by decide) (by decide) ?_
      rintro _ T191 L191 X191 ⟨rfl, N191, e191⟩
      have N191 := Fr.app N190 N191
      show Go p e below _ (T191.setTop (mkF m 24 _ [(.ref w_ACQUIRE)]))
      refine own_astore 26 #[oI x0, oI x1, oI x0, oA w_ACQUIRE, oA w_ACQUIRE] X191 hx hby at_24 rfl rfl rfl ?_
      refine own_aload 28 X191 hx hby at_26 rfl rfl rfl ?_
      refine own_aload_n 29 X191 hx hby at_28 rfl rfl rfl ?_
      refine own_acmp 32 true X191 hx hby at_29 rfl rfl (by decide) (by decide) (decide_eq_true (congrArg Value.ref rfl)) ?_
      refine own_iconst 33 (1 : Int32) X191 hx hby at_32 rfl (by decide) ?_
      refine own_goto 37 X191 hx hby at_33 (by decide) (by decide) ?_
      exact own_ret (Q := own_Q1 n0) X191 hx hby hret hlk at_37 rfl (Or.inl ⟨rfl, by simp, _, rfl⟩) (by decide) (by decide) ⟨rfl, N191⟩
    by_cases hc192 : x0 = (12 : Int32)
    · refine own_callS (W := 0) 19 (rm1_12 l Z a0 hw [] w_HELLO w_ADD_SERVICE w_GET_SERVICE w_LIST_SERVICES w_TRANSLATE w_RESOLVE w_RELEASE w_STATUS w_WAITING w_WATCH w_ACQUIRE w_RETIRE w_RESULT w_FAILURE w_DEAD w_COUNT_WAITING w_CLOSING w_UNHELD w_OPEN w_TRANSACTION w_REPLY w_KNOCK w_ALL k_ALL W x0 h0 n0 O0 hc159 hc162 hc165 hc168 hc171 hc174 hc177 hc180 hc183 hc186 hc189 hc192) X0 hx hby hZ hown (own_w hw 0 rfl) (own_w hw 1 rfl) (own_w hw 2 rfl) (own_w hw 3 rfl) (by decide) (by rw [hml]; rfl) [(.int x0)] [] pd_0 rfl at_16 rfl e0 rfl rfl rfl (by decide) (by decide) (by decide) (by decide) ?_
      rintro _ T193 L193 X193 ⟨rfl, N193, e193⟩
      have N193 := Fr.app N0 N193
      show Go p e below _ (T193.setTop (mkF m 19 _ [(.ref w_RETIRE)]))
      refine own_astore_n 20 #[oI x0, oI x1, oI x0, oA w_RETIRE, oU] X193 hx hby at_19 rfl rfl rfl ?_
      refine own_iload_n 21 X193 hx hby at_20 rfl rfl ?_
      refine own_callS (W := 0) 24 (rm2_12 l Z a0 hw [] w_HELLO w_ADD_SERVICE w_GET_SERVICE w_LIST_SERVICES w_TRANSLATE w_RESOLVE w_RELEASE w_STATUS w_WAITING w_WATCH w_ACQUIRE w_RETIRE w_RESULT w_FAILURE w_DEAD w_COUNT_WAITING w_CLOSING w_UNHELD w_OPEN w_TRANSACTION w_REPLY w_KNOCK w_ALL k_ALL W x0 h0 n0 O0 (fun q => hc159 q.symm) (fun q => hc162 q.symm) (fun q => hc165 q.symm) (fun q => hc168 q.symm) (fun q => hc171 q.symm) (fun q => hc174 q.symm) (fun q => hc177 q.symm) (fun q => hc180 q.symm) (fun q => hc183 q.symm) (fun q => hc186 q.symm) (fun q => hc189 q.symm) hc192.symm) X193 hx hby hZ hown (own_w hw 4 rfl) (own_w hw 5 rfl) (own_w hw 6 rfl) (own_w hw 7 rfl) (by decide) (by rw [hml]; rfl) [(.int x0)] [] pd_0 rfl at_21 rfl e193 rfl rfl rfl (by decide) (by decide) (by decide) (by decide) ?_
      rintro _ T194 L194 X194 ⟨rfl, N194, e194⟩
      have N194 := Fr.app N193 N194
      show Go p e below _ (T194.setTop (mkF m 24 _ [(.ref w_RETIRE)]))
      refine own_astore 26 #[oI x0, oI x1, oI x0, oA w_RETIRE, oA w_RETIRE] X194 hx hby at_24 rfl rfl rfl ?_
      refine own_aload 28 X194 hx hby at_26 rfl rfl rfl ?_
      refine own_aload_n 29 X194 hx hby at_28 rfl rfl rfl ?_
      refine own_acmp 32 true X194 hx hby at_29 rfl rfl (by decide) (by decide) (decide_eq_true (congrArg Value.ref rfl)) ?_
      refine own_iconst 33 (1 : Int32) X194 hx hby at_32 rfl (by decide) ?_
      refine own_goto 37 X194 hx hby at_33 (by decide) (by decide) ?_
      exact own_ret (Q := own_Q1 n0) X194 hx hby hret hlk at_37 rfl (Or.inl ⟨rfl, by simp, _, rfl⟩) (by decide) (by decide) ⟨rfl, N194⟩
    by_cases hc195 : x0 = (16 : Int32)
    · refine own_callS (W := 0) 19 (rm1_13 l Z a0 hw [] w_HELLO w_ADD_SERVICE w_GET_SERVICE w_LIST_SERVICES w_TRANSLATE w_RESOLVE w_RELEASE w_STATUS w_WAITING w_WATCH w_ACQUIRE w_RETIRE w_RESULT w_FAILURE w_DEAD w_COUNT_WAITING w_CLOSING w_UNHELD w_OPEN w_TRANSACTION w_REPLY w_KNOCK w_ALL k_ALL W x0 h0 n0 O0 hc159 hc162 hc165 hc168 hc171 hc174 hc177 hc180 hc183 hc186 hc189 hc192 hc195) X0 hx hby hZ hown (own_w hw 0 rfl) (own_w hw 1 rfl) (own_w hw 2 rfl) (own_w hw 3 rfl) (by decide) (by rw [hml]; rfl) [(.int x0)] [] pd_0 rfl at_16 rfl e0 rfl rfl rfl (by decide) (by decide) (by decide) (by decide) ?_
      rintro _ T196 L196 X196 ⟨rfl, N196, e196⟩
      have N196 := Fr.app N0 N196
      show Go p e below _ (T196.setTop (mkF m 19 _ [(.ref w_RESULT)]))
      refine own_astore_n 20 #[oI x0, oI x1, oI x0, oA w_RESULT, oU] X196 hx hby at_19 rfl rfl rfl ?_
      refine own_iload_n 21 X196 hx hby at_20 rfl rfl ?_
      refine own_callS (W := 0) 24 (rm2_13 l Z a0 hw [] w_HELLO w_ADD_SERVICE w_GET_SERVICE w_LIST_SERVICES w_TRANSLATE w_RESOLVE w_RELEASE w_STATUS w_WAITING w_WATCH w_ACQUIRE w_RETIRE w_RESULT w_FAILURE w_DEAD w_COUNT_WAITING w_CLOSING w_UNHELD w_OPEN w_TRANSACTION w_REPLY w_KNOCK w_ALL k_ALL W x0 h0 n0 O0 (fun q => hc159 q.symm) (fun q => hc162 q.symm) (fun q => hc165 q.symm) (fun q => hc168 q.symm) (fun q => hc171 q.symm) (fun q => hc174 q.symm) (fun q => hc177 q.symm) (fun q => hc180 q.symm) (fun q => hc183 q.symm) (fun q => hc186 q.symm) (fun q => hc189 q.symm) (fun q => hc192 q.symm) hc195.symm) X196 hx hby hZ hown (own_w hw 4 rfl) (own_w hw 5 rfl) (own_w hw 6 rfl) (own_w hw 7 rfl) (by decide) (by rw [hml]; rfl) [(.int x0)] [] pd_0 rfl at_21 rfl e196 rfl rfl rfl (by decide) (by decide) (by decide) (by decide) ?_
      rintro _ T197 L197 X197 ⟨rfl, N197, e197⟩
      have N197 := Fr.app N196 N197
      show Go p e below _ (T197.setTop (mkF m 24 _ [(.ref w_RESULT)]))
      refine own_astore 26 #[oI x0, oI x1, oI x0, oA w_RESULT, oA w_RESULT] X197 hx hby at_24 rfl rfl rfl ?_
      refine own_aload 28 X197 hx hby at_26 rfl rfl rfl ?_
      refine own_aload_n 29 X197 hx hby at_28 rfl rfl rfl ?_
      refine own_acmp 32 true X197 hx hby at_29 rfl rfl (by decide) (by decide) (decide_eq_true (congrArg Value.ref rfl)) ?_
      refine own_iconst 33 (1 : Int32) X197 hx hby at_32 rfl (by decide) ?_
      refine own_goto 37 X197 hx hby at_33 (by decide) (by decide) ?_
      exact own_ret (Q := own_Q1 n0) X197 hx hby hret hlk at_37 rfl (Or.inl ⟨rfl, by simp, _, rfl⟩) (by decide) (by decide) ⟨rfl, N197⟩
    by_cases hc198 : x0 = (17 : Int32)
    · refine own_callS (W := 0) 19 (rm1_14 l Z a0 hw [] w_HELLO w_ADD_SERVICE w_GET_SERVICE w_LIST_SERVICES w_TRANSLATE w_RESOLVE w_RELEASE w_STATUS w_WAITING w_WATCH w_ACQUIRE w_RETIRE w_RESULT w_FAILURE w_DEAD w_COUNT_WAITING w_CLOSING w_UNHELD w_OPEN w_TRANSACTION w_REPLY w_KNOCK w_ALL k_ALL W x0 h0 n0 O0 hc159 hc162 hc165 hc168 hc171 hc174 hc177 hc180 hc183 hc186 hc189 hc192 hc195 hc198) X0 hx hby hZ hown (own_w hw 0 rfl) (own_w hw 1 rfl) (own_w hw 2 rfl) (own_w hw 3 rfl) (by decide) (by rw [hml]; rfl) [(.int x0)] [] pd_0 rfl at_16 rfl e0 rfl rfl rfl (by decide) (by decide) (by decide) (by decide) ?_
      rintro _ T199 L199 X199 ⟨rfl, N199, e199⟩
      have N199 := Fr.app N0 N199
      show Go p e below _ (T199.setTop (mkF m 19 _ [(.ref w_FAILURE)]))
      refine own_astore_n 20 #[oI x0, oI x1, oI x0, oA w_FAILURE, oU] X199 hx hby at_19 rfl rfl rfl ?_
      refine own_iload_n 21 X199 hx hby at_20 rfl rfl ?_
      refine own_callS (W := 0) 24 (rm2_14 l Z a0 hw [] w_HELLO w_ADD_SERVICE w_GET_SERVICE w_LIST_SERVICES w_TRANSLATE w_RESOLVE w_RELEASE w_STATUS w_WAITING w_WATCH w_ACQUIRE w_RETIRE w_RESULT w_FAILURE w_DEAD w_COUNT_WAITING w_CLOSING w_UNHELD w_OPEN w_TRANSACTION w_REPLY w_KNOCK w_ALL k_ALL W x0 h0 n0 O0 (fun q => hc159 q.symm) (fun q => hc162 q.symm) (fun q => hc165 q.symm) (fun q => hc168 q.symm) (fun q => hc171 q.symm) (fun q => hc174 q.symm) (fun q => hc177 q.symm) (fun q => hc180 q.symm) (fun q => hc183 q.symm) (fun q => hc186 q.symm) (fun q => hc189 q.symm) (fun q => hc192 q.symm) (fun q => hc195 q.symm) hc198.symm) X199 hx hby hZ hown (own_w hw 4 rfl) (own_w hw 5 rfl) (own_w hw 6 rfl) (own_w hw 7 rfl) (by decide) (by rw [hml]; rfl) [(.int x0)] [] pd_0 rfl at_21 rfl e199 rfl rfl rfl (by decide) (by decide) (by decide) (by decide) ?_
      rintro _ T200 L200 X200 ⟨rfl, N200, e200⟩
      have N200 := Fr.app N199 N200
      show Go p e below _ (T200.setTop (mkF m 24 _ [(.ref w_FAILURE)]))
      refine own_astore 26 #[oI x0, oI x1, oI x0, oA w_FAILURE, oA w_FAILURE] X200 hx hby at_24 rfl rfl rfl ?_
      refine own_aload 28 X200 hx hby at_26 rfl rfl rfl ?_
      refine own_aload_n 29 X200 hx hby at_28 rfl rfl rfl ?_
      refine own_acmp 32 true X200 hx hby at_29 rfl rfl (by decide) (by decide) (decide_eq_true (congrArg Value.ref rfl)) ?_
      refine own_iconst 33 (1 : Int32) X200 hx hby at_32 rfl (by decide) ?_
      refine own_goto 37 X200 hx hby at_33 (by decide) (by decide) ?_
      exact own_ret (Q := own_Q1 n0) X200 hx hby hret hlk at_37 rfl (Or.inl ⟨rfl, by simp, _, rfl⟩) (by decide) (by decide) ⟨rfl, N200⟩
    by_cases hc201 : x0 = (18 : Int32)
    · refine own_callS (W := 0) 19 (rm1_15 l Z a0 hw [] w_HELLO w_ADD_SERVICE w_GET_SERVICE w_LIST_SERVICES w_TRANSLATE w_RESOLVE w_RELEASE w_STATUS w_WAITING w_WATCH w_ACQUIRE w_RETIRE w_RESULT w_FAILURE w_DEAD w_COUNT_WAITING w_CLOSING w_UNHELD w_OPEN w_TRANSACTION w_REPLY w_KNOCK w_ALL k_ALL W x0 h0 n0 O0 hc159 hc162 hc165 hc168 hc171 hc174 hc177 hc180 hc183 hc186 hc189 hc192 hc195 hc198 hc201) X0 hx hby hZ hown (own_w hw 0 rfl) (own_w hw 1 rfl) (own_w hw 2 rfl) (own_w hw 3 rfl) (by decide) (by rw [hml]; rfl) [(.int x0)] [] pd_0 rfl at_16 rfl e0 rfl rfl rfl (by decide) (by decide) (by decide) (by decide) ?_
      rintro _ T202 L202 X202 ⟨rfl, N202, e202⟩
      have N202 := Fr.app N0 N202
      show Go p e below _ (T202.setTop (mkF m 19 _ [(.ref w_DEAD)]))
      refine own_astore_n 20 #[oI x0, oI x1, oI x0, oA w_DEAD, oU] X202 hx hby at_19 rfl rfl rfl ?_
      refine own_iload_n 21 X202 hx hby at_20 rfl rfl ?_
      refine own_callS (W := 0) 24 (rm2_15 l Z a0 hw [] w_HELLO w_ADD_SERVICE w_GET_SERVICE w_LIST_SERVICES w_TRANSLATE w_RESOLVE w_RELEASE w_STATUS w_WAITING w_WATCH w_ACQUIRE w_RETIRE w_RESULT w_FAILURE w_DEAD w_COUNT_WAITING w_CLOSING w_UNHELD w_OPEN w_TRANSACTION w_REPLY w_KNOCK w_ALL k_ALL W x0 h0 n0 O0 (fun q => hc159 q.symm) (fun q => hc162 q.symm) (fun q => hc165 q.symm) (fun q => hc168 q.symm) (fun q => hc171 q.symm) (fun q => hc174 q.symm) (fun q => hc177 q.symm) (fun q => hc180 q.symm) (fun q => hc183 q.symm) (fun q => hc186 q.symm) (fun q => hc189 q.symm) (fun q => hc192 q.symm) (fun q => hc195 q.symm) (fun q => hc198 q.symm) hc201.symm) X202 hx hby hZ hown (own_w hw 4 rfl) (own_w hw 5 rfl) (own_w hw 6 rfl) (own_w hw 7 rfl) (by decide) (by rw [hml]; rfl) [(.int x0)] [] pd_0 rfl at_21 rfl e202 rfl rfl rfl (by decide) (by decide) (by decide) (by decide) ?_
      rintro _ T203 L203 X203 ⟨rfl, N203, e203⟩
      have N203 := Fr.app N202 N203
      show Go p e below _ (T203.setTop (mkF m 24 _ [(.ref w_DEAD)]))
      refine own_astore 26 #[oI x0, oI x1, oI x0, oA w_DEAD, oA w_DEAD] X203 hx hby at_24 rfl rfl rfl ?_
      refine own_aload 28 X203 hx hby at_26 rfl rfl rfl ?_
      refine own_aload_n 29 X203 hx hby at_28 rfl rfl rfl ?_
      refine own_acmp 32 true X203 hx hby at_29 rfl rfl (by decide) (by decide) (decide_eq_true (congrArg Value.ref rfl)) ?_
      refine own_iconst 33 (1 : Int32) X203 hx hby at_32 rfl (by decide) ?_
      refine own_goto 37 X203 hx hby at_33 (by decide) (by decide) ?_
      exact own_ret (Q := own_Q1 n0) X203 hx hby hret hlk at_37 rfl (Or.inl ⟨rfl, by simp, _, rfl⟩) (by decide) (by decide) ⟨rfl, N203⟩
    by_cases hc204 : x0 = (19 : Int32)
    · refine own_callS (W := 0) 19 (rm1_16 l Z a0 hw [] w_HELLO w_ADD_SERVICE w_GET_SERVICE w_LIST_SERVICES w_TRANSLATE w_RESOLVE w_RELEASE w_STATUS w_WAITING w_WATCH w_ACQUIRE w_RETIRE w_RESULT w_FAILURE w_DEAD w_COUNT_WAITING w_CLOSING w_UNHELD w_OPEN w_TRANSACTION w_REPLY w_KNOCK w_ALL k_ALL W x0 h0 n0 O0 hc159 hc162 hc165 hc168 hc171 hc174 hc177 hc180 hc183 hc186 hc189 hc192 hc195 hc198 hc201 hc204) X0 hx hby hZ hown (own_w hw 0 rfl) (own_w hw 1 rfl) (own_w hw 2 rfl) (own_w hw 3 rfl) (by decide) (by rw [hml]; rfl) [(.int x0)] [] pd_0 rfl at_16 rfl e0 rfl rfl rfl (by decide) (by decide) (by decide) (by decide) ?_
      rintro _ T205 L205 X205 ⟨rfl, N205, e205⟩
      have N205 := Fr.app N0 N205
      show Go p e below _ (T205.setTop (mkF m 19 _ [(.ref w_COUNT_WAITING)]))
      refine own_astore_n 20 #[oI x0, oI x1, oI x0, oA w_COUNT_WAITING, oU] X205 hx hby at_19 rfl rfl rfl ?_
      refine own_iload_n 21 X205 hx hby at_20 rfl rfl ?_
      refine own_callS (W := 0) 24 (rm2_16 l Z a0 hw [] w_HELLO w_ADD_SERVICE w_GET_SERVICE w_LIST_SERVICES w_TRANSLATE w_RESOLVE w_RELEASE w_STATUS w_WAITING w_WATCH w_ACQUIRE w_RETIRE w_RESULT w_FAILURE w_DEAD w_COUNT_WAITING w_CLOSING w_UNHELD w_OPEN w_TRANSACTION w_REPLY w_KNOCK w_ALL k_ALL W x0 h0 n0 O0 (fun q => hc159 q.symm) (fun q => hc162 q.symm) (fun q => hc165 q.symm) (fun q => hc168 q.symm) (fun q => hc171 q.symm) (fun q => hc174 q.symm) (fun q => hc177 q.symm) (fun q => hc180 q.symm) (fun q => hc183 q.symm) (fun q => hc186 q.symm) (fun q => hc189 q.symm) (fun q => hc192 q.symm) (fun q => hc195 q.symm) (fun q => hc198 q.symm) (fun q => hc201 q.symm) hc204.symm) X205 hx hby hZ hown (own_w hw 4 rfl) (own_w hw 5 rfl) (own_w hw 6 rfl) (own_w hw 7 rfl) (by decide) (by rw [hml]; rfl) [(.int x0)] [] pd_0 rfl at_21 rfl e205 rfl rfl rfl (by decide) (by decide) (by decide) (by decide) ?_
      rintro _ T206 L206 X206 ⟨rfl, N206, e206⟩
      have N206 := Fr.app N205 N206
      show Go p e below _ (T206.setTop (mkF m 24 _ [(.ref w_COUNT_WAITING)]))
      refine own_astore 26 #[oI x0, oI x1, oI x0, oA w_COUNT_WAITING, oA w_COUNT_WAITING] X206 hx hby at_24 rfl rfl rfl ?_
      refine own_aload 28 X206 hx hby at_26 rfl rfl rfl ?_
      refine own_aload_n 29 X206 hx hby at_28 rfl rfl rfl ?_
      refine own_acmp 32 true X206 hx hby at_29 rfl rfl (by decide) (by decide) (decide_eq_true (congrArg Value.ref rfl)) ?_
      refine own_iconst 33 (1 : Int32) X206 hx hby at_32 rfl (by decide) ?_
      refine own_goto 37 X206 hx hby at_33 (by decide) (by decide) ?_
      exact own_ret (Q := own_Q1 n0) X206 hx hby hret hlk at_37 rfl (Or.inl ⟨rfl, by simp, _, rfl⟩) (by decide) (by decide) ⟨rfl, N206⟩
    by_cases hc207 : x0 = (20 : Int32)
    · refine own_callS (W := 0) 19 (rm1_17 l Z a0 hw [] w_HELLO w_ADD_SERVICE w_GET_SERVICE w_LIST_SERVICES w_TRANSLATE w_RESOLVE w_RELEASE w_STATUS w_WAITING w_WATCH w_ACQUIRE w_RETIRE w_RESULT w_FAILURE w_DEAD w_COUNT_WAITING w_CLOSING w_UNHELD w_OPEN w_TRANSACTION w_REPLY w_KNOCK w_ALL k_ALL W x0 h0 n0 O0 hc159 hc162 hc165 hc168 hc171 hc174 hc177 hc180 hc183 hc186 hc189 hc192 hc195 hc198 hc201 hc204 hc207) X0 hx hby hZ hown (own_w hw 0 rfl) (own_w hw 1 rfl) (own_w hw 2 rfl) (own_w hw 3 rfl) (by decide) (by rw [hml]; rfl) [(.int x0)] [] pd_0 rfl at_16 rfl e0 rfl rfl rfl (by decide) (by decide) (by decide) (by decide) ?_
      rintro _ T208 L208 X208 ⟨rfl, N208, e208⟩
      have N208 := Fr.app N0 N208
      show Go p e below _ (T208.setTop (mkF m 19 _ [(.ref w_CLOSING)]))
      refine own_astore_n 20 #[oI x0, oI x1, oI x0, oA w_CLOSING, oU] X208 hx hby at_19 rfl rfl rfl ?_
      refine own_iload_n 21 X208 hx hby at_20 rfl rfl ?_
      refine own_callS (W := 0) 24 (rm2_17 l Z a0 hw [] w_HELLO w_ADD_SERVICE w_GET_SERVICE w_LIST_SERVICES w_TRANSLATE w_RESOLVE w_RELEASE w_STATUS w_WAITING w_WATCH w_ACQUIRE w_RETIRE w_RESULT w_FAILURE w_DEAD w_COUNT_WAITING w_CLOSING w_UNHELD w_OPEN w_TRANSACTION w_REPLY w_KNOCK w_ALL k_ALL W x0 h0 n0 O0 (fun q => hc159 q.symm) (fun q => hc162 q.symm) (fun q => hc165 q.symm) (fun q => hc168 q.symm) (fun q => hc171 q.symm) (fun q => hc174 q.symm) (fun q => hc177 q.symm) (fun q => hc180 q.symm) (fun q => hc183 q.symm) (fun q => hc186 q.symm) (fun q => hc189 q.symm) (fun q => hc192 q.symm) (fun q => hc195 q.symm) (fun q => hc198 q.symm) (fun q => hc201 q.symm) (fun q => hc204 q.symm) hc207.symm) X208 hx hby hZ hown (own_w hw 4 rfl) (own_w hw 5 rfl) (own_w hw 6 rfl) (own_w hw 7 rfl) (by decide) (by rw [hml]; rfl) [(.int x0)] [] pd_0 rfl at_21 rfl e208 rfl rfl rfl (by decide) (by decide) (by decide) (by decide) ?_
      rintro _ T209 L209 X209 ⟨rfl, N209, e209⟩
      have N209 := Fr.app N208 N209
      show Go p e below _ (T209.setTop (mkF m 24 _ [(.ref w_CLOSING)]))
      refine own_astore 26 #[oI x0, oI x1, oI x0, oA w_CLOSING, oA w_CLOSING] X209 hx hby at_24 rfl rfl rfl ?_
      refine own_aload 28 X209 hx hby at_26 rfl rfl rfl ?_
      refine own_aload_n 29 X209 hx hby at_28 rfl rfl rfl ?_
      refine own_acmp 32 true X209 hx hby at_29 rfl rfl (by decide) (by decide) (decide_eq_true (congrArg Value.ref rfl)) ?_
      refine own_iconst 33 (1 : Int32) X209 hx hby at_32 rfl (by decide) ?_
      refine own_goto 37 X209 hx hby at_33 (by decide) (by decide) ?_
      exact own_ret (Q := own_Q1 n0) X209 hx hby hret hlk at_37 rfl (Or.inl ⟨rfl, by simp, _, rfl⟩) (by decide) (by decide) ⟨rfl, N209⟩
    by_cases hc210 : x0 = (21 : Int32)
    · refine own_callS (W := 0) 19 (rm1_18 l Z a0 hw [] w_HELLO w_ADD_SERVICE w_GET_SERVICE w_LIST_SERVICES w_TRANSLATE w_RESOLVE w_RELEASE w_STATUS w_WAITING w_WATCH w_ACQUIRE w_RETIRE w_RESULT w_FAILURE w_DEAD w_COUNT_WAITING w_CLOSING w_UNHELD w_OPEN w_TRANSACTION w_REPLY w_KNOCK w_ALL k_ALL W x0 h0 n0 O0 hc159 hc162 hc165 hc168 hc171 hc174 hc177 hc180 hc183 hc186 hc189 hc192 hc195 hc198 hc201 hc204 hc207 hc210) X0 hx hby hZ hown (own_w hw 0 rfl) (own_w hw 1 rfl) (own_w hw 2 rfl) (own_w hw 3 rfl) (by decide) (by rw [hml]; rfl) [(.int x0)] [] pd_0 rfl at_16 rfl e0 rfl rfl rfl (by decide) (by decide) (by decide) (by decide) ?_
      rintro _ T211 L211 X211 ⟨rfl, N211, e211⟩
      have N211 := Fr.app N0 N211
      show Go p e below _ (T211.setTop (mkF m 19 _ [(.ref w_UNHELD)]))
      refine own_astore_n 20 #[oI x0, oI x1, oI x0, oA w_UNHELD, oU] X211 hx hby at_19 rfl rfl rfl ?_
      refine own_iload_n 21 X211 hx hby at_20 rfl rfl ?_
      refine own_callS (W := 0) 24 (rm2_18 l Z a0 hw [] w_HELLO w_ADD_SERVICE w_GET_SERVICE w_LIST_SERVICES w_TRANSLATE w_RESOLVE w_RELEASE w_STATUS w_WAITING w_WATCH w_ACQUIRE w_RETIRE w_RESULT w_FAILURE w_DEAD w_COUNT_WAITING w_CLOSING w_UNHELD w_OPEN w_TRANSACTION w_REPLY w_KNOCK w_ALL k_ALL W x0 h0 n0 O0 (fun q => hc159 q.symm) (fun q => hc162 q.symm) (fun q => hc165 q.symm) (fun q => hc168 q.symm) (fun q => hc171 q.symm) (fun q => hc174 q.symm) (fun q => hc177 q.symm) (fun q => hc180 q.symm) (fun q => hc183 q.symm) (fun q => hc186 q.symm) (fun q => hc189 q.symm) (fun q => hc192 q.symm) (fun q => hc195 q.symm) (fun q => hc198 q.symm) (fun q => hc201 q.symm) (fun q => hc204 q.symm) (fun q => hc207 q.symm) hc210.symm) X211 hx hby hZ hown (own_w hw 4 rfl) (own_w hw 5 rfl) (own_w hw 6 rfl) (own_w hw 7 rfl) (by decide) (by rw [hml]; rfl) [(.int x0)] [] pd_0 rfl at_21 rfl e211 rfl rfl rfl (by decide) (by decide) (by decide) (by decide) ?_
      rintro _ T212 L212 X212 ⟨rfl, N212, e212⟩
      have N212 := Fr.app N211 N212
      show Go p e below _ (T212.setTop (mkF m 24 _ [(.ref w_UNHELD)]))
      refine own_astore 26 #[oI x0, oI x1, oI x0, oA w_UNHELD, oA w_UNHELD] X212 hx hby at_24 rfl rfl rfl ?_
      refine own_aload 28 X212 hx hby at_26 rfl rfl rfl ?_
      refine own_aload_n 29 X212 hx hby at_28 rfl rfl rfl ?_
      refine own_acmp 32 true X212 hx hby at_29 rfl rfl (by decide) (by decide) (decide_eq_true (congrArg Value.ref rfl)) ?_
      refine own_iconst 33 (1 : Int32) X212 hx hby at_32 rfl (by decide) ?_
      refine own_goto 37 X212 hx hby at_33 (by decide) (by decide) ?_
      exact own_ret (Q := own_Q1 n0) X212 hx hby hret hlk at_37 rfl (Or.inl ⟨rfl, by simp, _, rfl⟩) (by decide) (by decide) ⟨rfl, N212⟩
    by_cases hc213 : x0 = (32 : Int32)
    · refine own_callS (W := 0) 19 (rm1_19 l Z a0 hw [] w_HELLO w_ADD_SERVICE w_GET_SERVICE w_LIST_SERVICES w_TRANSLATE w_RESOLVE w_RELEASE w_STATUS w_WAITING w_WATCH w_ACQUIRE w_RETIRE w_RESULT w_FAILURE w_DEAD w_COUNT_WAITING w_CLOSING w_UNHELD w_OPEN w_TRANSACTION w_REPLY w_KNOCK w_ALL k_ALL W x0 h0 n0 O0 hc159 hc162 hc165 hc168 hc171 hc174 hc177 hc180 hc183 hc186 hc189 hc192 hc195 hc198 hc201 hc204 hc207 hc210 hc213) X0 hx hby hZ hown (own_w hw 0 rfl) (own_w hw 1 rfl) (own_w hw 2 rfl) (own_w hw 3 rfl) (by decide) (by rw [hml]; rfl) [(.int x0)] [] pd_0 rfl at_16 rfl e0 rfl rfl rfl (by decide) (by decide) (by decide) (by decide) ?_
      rintro _ T214 L214 X214 ⟨rfl, N214, e214⟩
      have N214 := Fr.app N0 N214
      show Go p e below _ (T214.setTop (mkF m 19 _ [(.ref w_OPEN)]))
      refine own_astore_n 20 #[oI x0, oI x1, oI x0, oA w_OPEN, oU] X214 hx hby at_19 rfl rfl rfl ?_
      refine own_iload_n 21 X214 hx hby at_20 rfl rfl ?_
      refine own_callS (W := 0) 24 (rm2_19 l Z a0 hw [] w_HELLO w_ADD_SERVICE w_GET_SERVICE w_LIST_SERVICES w_TRANSLATE w_RESOLVE w_RELEASE w_STATUS w_WAITING w_WATCH w_ACQUIRE w_RETIRE w_RESULT w_FAILURE w_DEAD w_COUNT_WAITING w_CLOSING w_UNHELD w_OPEN w_TRANSACTION w_REPLY w_KNOCK w_ALL k_ALL W x0 h0 n0 O0 (fun q => hc159 q.symm) (fun q => hc162 q.symm) (fun q => hc165 q.symm) (fun q => hc168 q.symm) (fun q => hc171 q.symm) (fun q => hc174 q.symm) (fun q => hc177 q.symm) (fun q => hc180 q.symm) (fun q => hc183 q.symm) (fun q => hc186 q.symm) (fun q => hc189 q.symm) (fun q => hc192 q.symm) (fun q => hc195 q.symm) (fun q => hc198 q.symm) (fun q => hc201 q.symm) (fun q => hc204 q.symm) (fun q => hc207 q.symm) (fun q => hc210 q.symm) hc213.symm) X214 hx hby hZ hown (own_w hw 4 rfl) (own_w hw 5 rfl) (own_w hw 6 rfl) (own_w hw 7 rfl) (by decide) (by rw [hml]; rfl) [(.int x0)] [] pd_0 rfl at_21 rfl e214 rfl rfl rfl (by decide) (by decide) (by decide) (by decide) ?_
      rintro _ T215 L215 X215 ⟨rfl, N215, e215⟩
      have N215 := Fr.app N214 N215
      show Go p e below _ (T215.setTop (mkF m 24 _ [(.ref w_OPEN)]))
      refine own_astore 26 #[oI x0, oI x1, oI x0, oA w_OPEN, oA w_OPEN] X215 hx hby at_24 rfl rfl rfl ?_
      refine own_aload 28 X215 hx hby at_26 rfl rfl rfl ?_
      refine own_aload_n 29 X215 hx hby at_28 rfl rfl rfl ?_
      refine own_acmp 32 true X215 hx hby at_29 rfl rfl (by decide) (by decide) (decide_eq_true (congrArg Value.ref rfl)) ?_
      refine own_iconst 33 (1 : Int32) X215 hx hby at_32 rfl (by decide) ?_
      refine own_goto 37 X215 hx hby at_33 (by decide) (by decide) ?_
      exact own_ret (Q := own_Q1 n0) X215 hx hby hret hlk at_37 rfl (Or.inl ⟨rfl, by simp, _, rfl⟩) (by decide) (by decide) ⟨rfl, N215⟩
    by_cases hc216 : x0 = (33 : Int32)
    · refine own_callS (W := 0) 19 (rm1_20 l Z a0 hw [] w_HELLO w_ADD_SERVICE w_GET_SERVICE w_LIST_SERVICES w_TRANSLATE w_RESOLVE w_RELEASE w_STATUS w_WAITING w_WATCH w_ACQUIRE w_RETIRE w_RESULT w_FAILURE w_DEAD w_COUNT_WAITING w_CLOSING w_UNHELD w_OPEN w_TRANSACTION w_REPLY w_KNOCK w_ALL k_ALL W x0 h0 n0 O0 hc159 hc162 hc165 hc168 hc171 hc174 hc177 hc180 hc183 hc186 hc189 hc192 hc195 hc198 hc201 hc204 hc207 hc210 hc213 hc216) X0 hx hby hZ hown (own_w hw 0 rfl) (own_w hw 1 rfl) (own_w hw 2 rfl) (own_w hw 3 rfl) (by decide) (by rw [hml]; rfl) [(.int x0)] [] pd_0 rfl at_16 rfl e0 rfl rfl rfl (by decide) (by decide) (by decide) (by decide) ?_
      rintro _ T217 L217 X217 ⟨rfl, N217, e217⟩
      have N217 := Fr.app N0 N217
      show Go p e below _ (T217.setTop (mkF m 19 _ [(.ref w_TRANSACTION)]))
      refine own_astore_n 20 #[oI x0, oI x1, oI x0, oA w_TRANSACTION, oU] X217 hx hby at_19 rfl rfl rfl ?_
      refine own_iload_n 21 X217 hx hby at_20 rfl rfl ?_
      refine own_callS (W := 0) 24 (rm2_20 l Z a0 hw [] w_HELLO w_ADD_SERVICE w_GET_SERVICE w_LIST_SERVICES w_TRANSLATE w_RESOLVE w_RELEASE w_STATUS w_WAITING w_WATCH w_ACQUIRE w_RETIRE w_RESULT w_FAILURE w_DEAD w_COUNT_WAITING w_CLOSING w_UNHELD w_OPEN w_TRANSACTION w_REPLY w_KNOCK w_ALL k_ALL W x0 h0 n0 O0 (fun q => hc159 q.symm) (fun q => hc162 q.symm) (fun q => hc165 q.symm) (fun q => hc168 q.symm) (fun q => hc171 q.symm) (fun q => hc174 q.symm) (fun q => hc177 q.symm) (fun q => hc180 q.symm) (fun q => hc183 q.symm) (fun q => hc186 q.symm) (fun q => hc189 q.symm) (fun q => hc192 q.symm) (fun q => hc195 q.symm) (fun q => hc198 q.symm) (fun q => hc201 q.symm) (fun q => hc204 q.symm) (fun q => hc207 q.symm) (fun q => hc210 q.symm) (fun q => hc213 q.symm) hc216.symm) X217 hx hby hZ hown (own_w hw 4 rfl) (own_w hw 5 rfl) (own_w hw 6 rfl) (own_w hw 7 rfl) (by decide) (by rw [hml]; rfl) [(.int x0)] [] pd_0 rfl at_21 rfl e217 rfl rfl rfl (by decide) (by decide) (by decide) (by decide) ?_
      rintro _ T218 L218 X218 ⟨rfl, N218, e218⟩
      have N218 := Fr.app N217 N218
      show Go p e below _ (T218.setTop (mkF m 24 _ [(.ref w_TRANSACTION)]))
      refine own_astore 26 #[oI x0, oI x1, oI x0, oA w_TRANSACTION, oA w_TRANSACTION] X218 hx hby at_24 rfl rfl rfl ?_
      refine own_aload 28 X218 hx hby at_26 rfl rfl rfl ?_
      refine own_aload_n 29 X218 hx hby at_28 rfl rfl rfl ?_
      refine own_acmp 32 true X218 hx hby at_29 rfl rfl (by decide) (by decide) (decide_eq_true (congrArg Value.ref rfl)) ?_
      refine own_iconst 33 (1 : Int32) X218 hx hby at_32 rfl (by decide) ?_
      refine own_goto 37 X218 hx hby at_33 (by decide) (by decide) ?_
      exact own_ret (Q := own_Q1 n0) X218 hx hby hret hlk at_37 rfl (Or.inl ⟨rfl, by simp, _, rfl⟩) (by decide) (by decide) ⟨rfl, N218⟩
    by_cases hc219 : x0 = (34 : Int32)
    · refine own_callS (W := 0) 19 (rm1_21 l Z a0 hw [] w_HELLO w_ADD_SERVICE w_GET_SERVICE w_LIST_SERVICES w_TRANSLATE w_RESOLVE w_RELEASE w_STATUS w_WAITING w_WATCH w_ACQUIRE w_RETIRE w_RESULT w_FAILURE w_DEAD w_COUNT_WAITING w_CLOSING w_UNHELD w_OPEN w_TRANSACTION w_REPLY w_KNOCK w_ALL k_ALL W x0 h0 n0 O0 hc159 hc162 hc165 hc168 hc171 hc174 hc177 hc180 hc183 hc186 hc189 hc192 hc195 hc198 hc201 hc204 hc207 hc210 hc213 hc216 hc219) X0 hx hby hZ hown (own_w hw 0 rfl) (own_w hw 1 rfl) (own_w hw 2 rfl) (own_w hw 3 rfl) (by decide) (by rw [hml]; rfl) [(.int x0)] [] pd_0 rfl at_16 rfl e0 rfl rfl rfl (by decide) (by decide) (by decide) (by decide) ?_
      rintro _ T220 L220 X220 ⟨rfl, N220, e220⟩
      have N220 := Fr.app N0 N220
      show Go p e below _ (T220.setTop (mkF m 19 _ [(.ref w_REPLY)]))
      refine own_astore_n 20 #[oI x0, oI x1, oI x0, oA w_REPLY, oU] X220 hx hby at_19 rfl rfl rfl ?_
      refine own_iload_n 21 X220 hx hby at_20 rfl rfl ?_
      refine own_callS (W := 0) 24 (rm2_21 l Z a0 hw [] w_HELLO w_ADD_SERVICE w_GET_SERVICE w_LIST_SERVICES w_TRANSLATE w_RESOLVE w_RELEASE w_STATUS w_WAITING w_WATCH w_ACQUIRE w_RETIRE w_RESULT w_FAILURE w_DEAD w_COUNT_WAITING w_CLOSING w_UNHELD w_OPEN w_TRANSACTION w_REPLY w_KNOCK w_ALL k_ALL W x0 h0 n0 O0 (fun q => hc159 q.symm) (fun q => hc162 q.symm) (fun q => hc165 q.symm) (fun q => hc168 q.symm) (fun q => hc171 q.symm) (fun q => hc174 q.symm) (fun q => hc177 q.symm) (fun q => hc180 q.symm) (fun q => hc183 q.symm) (fun q => hc186 q.symm) (fun q => hc189 q.symm) (fun q => hc192 q.symm) (fun q => hc195 q.symm) (fun q => hc198 q.symm) (fun q => hc201 q.symm) (fun q => hc204 q.symm) (fun q => hc207 q.symm) (fun q => hc210 q.symm) (fun q => hc213 q.symm) (fun q => hc216 q.symm) hc219.symm) X220 hx hby hZ hown (own_w hw 4 rfl) (own_w hw 5 rfl) (own_w hw 6 rfl) (own_w hw 7 rfl) (by decide) (by rw [hml]; rfl) [(.int x0)] [] pd_0 rfl at_21 rfl e220 rfl rfl rfl (by decide) (by decide) (by decide) (by decide) ?_
      rintro _ T221 L221 X221 ⟨rfl, N221, e221⟩
      have N221 := Fr.app N220 N221
      show Go p e below _ (T221.setTop (mkF m 24 _ [(.ref w_REPLY)]))
      refine own_astore 26 #[oI x0, oI x1, oI x0, oA w_REPLY, oA w_REPLY] X221 hx hby at_24 rfl rfl rfl ?_
      refine own_aload 28 X221 hx hby at_26 rfl rfl rfl ?_
      refine own_aload_n 29 X221 hx hby at_28 rfl rfl rfl ?_
      refine own_acmp 32 true X221 hx hby at_29 rfl rfl (by decide) (by decide) (decide_eq_true (congrArg Value.ref rfl)) ?_
      refine own_iconst 33 (1 : Int32) X221 hx hby at_32 rfl (by decide) ?_
      refine own_goto 37 X221 hx hby at_33 (by decide) (by decide) ?_
      exact own_ret (Q := own_Q1 n0) X221 hx hby hret hlk at_37 rfl (Or.inl ⟨rfl, by simp, _, rfl⟩) (by decide) (by decide) ⟨rfl, N221⟩
    by_cases hc222 : x0 = (35 : Int32)
    · refine own_callS (W := 0) 19 (rm1_22 l Z a0 hw [] w_HELLO w_ADD_SERVICE w_GET_SERVICE w_LIST_SERVICES w_TRANSLATE w_RESOLVE w_RELEASE w_STATUS w_WAITING w_WATCH w_ACQUIRE w_RETIRE w_RESULT w_FAILURE w_DEAD w_COUNT_WAITING w_CLOSING w_UNHELD w_OPEN w_TRANSACTION w_REPLY w_KNOCK w_ALL k_ALL W x0 h0 n0 O0 hc159 hc162 hc165 hc168 hc171 hc174 hc177 hc180 hc183 hc186 hc189 hc192 hc195 hc198 hc201 hc204 hc207 hc210 hc213 hc216 hc219 hc222) X0 hx hby hZ hown (own_w hw 0 rfl) (own_w hw 1 rfl) (own_w hw 2 rfl) (own_w hw 3 rfl) (by decide) (by rw [hml]; rfl) [(.int x0)] [] pd_0 rfl at_16 rfl e0 rfl rfl rfl (by decide) (by decide) (by decide) (by decide) ?_
      rintro _ T223 L223 X223 ⟨rfl, N223, e223⟩
      have N223 := Fr.app N0 N223
      show Go p e below _ (T223.setTop (mkF m 19 _ [(.ref w_KNOCK)]))
      refine own_astore_n 20 #[oI x0, oI x1, oI x0, oA w_KNOCK, oU] X223 hx hby at_19 rfl rfl rfl ?_
      refine own_iload_n 21 X223 hx hby at_20 rfl rfl ?_
      refine own_callS (W := 0) 24 (rm2_22 l Z a0 hw [] w_HELLO w_ADD_SERVICE w_GET_SERVICE w_LIST_SERVICES w_TRANSLATE w_RESOLVE w_RELEASE w_STATUS w_WAITING w_WATCH w_ACQUIRE w_RETIRE w_RESULT w_FAILURE w_DEAD w_COUNT_WAITING w_CLOSING w_UNHELD w_OPEN w_TRANSACTION w_REPLY w_KNOCK w_ALL k_ALL W x0 h0 n0 O0 (fun q => hc159 q.symm) (fun q => hc162 q.symm) (fun q => hc165 q.symm) (fun q => hc168 q.symm) (fun q => hc171 q.symm) (fun q => hc174 q.symm) (fun q => hc177 q.symm) (fun q => hc180 q.symm) (fun q => hc183 q.symm) (fun q => hc186 q.symm) (fun q => hc189 q.symm) (fun q => hc192 q.symm) (fun q => hc195 q.symm) (fun q => hc198 q.symm) (fun q => hc201 q.symm) (fun q => hc204 q.symm) (fun q => hc207 q.symm) (fun q => hc210 q.symm) (fun q => hc213 q.symm) (fun q => hc216 q.symm) (fun q => hc219 q.symm) hc222.symm) X223 hx hby hZ hown (own_w hw 4 rfl) (own_w hw 5 rfl) (own_w hw 6 rfl) (own_w hw 7 rfl) (by decide) (by rw [hml]; rfl) [(.int x0)] [] pd_0 rfl at_21 rfl e223 rfl rfl rfl (by decide) (by decide) (by decide) (by decide) ?_
      rintro _ T224 L224 X224 ⟨rfl, N224, e224⟩
      have N224 := Fr.app N223 N224
      show Go p e below _ (T224.setTop (mkF m 24 _ [(.ref w_KNOCK)]))
      refine own_astore 26 #[oI x0, oI x1, oI x0, oA w_KNOCK, oA w_KNOCK] X224 hx hby at_24 rfl rfl rfl ?_
      refine own_aload 28 X224 hx hby at_26 rfl rfl rfl ?_
      refine own_aload_n 29 X224 hx hby at_28 rfl rfl rfl ?_
      refine own_acmp 32 true X224 hx hby at_29 rfl rfl (by decide) (by decide) (decide_eq_true (congrArg Value.ref rfl)) ?_
      refine own_iconst 33 (1 : Int32) X224 hx hby at_32 rfl (by decide) ?_
      refine own_goto 37 X224 hx hby at_33 (by decide) (by decide) ?_
      exact own_ret (Q := own_Q1 n0) X224 hx hby hret hlk at_37 rfl (Or.inl ⟨rfl, by simp, _, rfl⟩) (by decide) (by decide) ⟨rfl, N224⟩
    refine own_callS (W := 0) 19 (rm1_23 l Z a0 hw [] w_HELLO w_ADD_SERVICE w_GET_SERVICE w_LIST_SERVICES w_TRANSLATE w_RESOLVE w_RELEASE w_STATUS w_WAITING w_WATCH w_ACQUIRE w_RETIRE w_RESULT w_FAILURE w_DEAD w_COUNT_WAITING w_CLOSING w_UNHELD w_OPEN w_TRANSACTION w_REPLY w_KNOCK w_ALL k_ALL W x0 h0 n0 O0 hc159 hc162 hc165 hc168 hc171 hc174 hc177 hc180 hc183 hc186 hc189 hc192 hc195 hc198 hc201 hc204 hc207 hc210 hc213 hc216 hc219 hc222) X0 hx hby hZ hown (own_w hw 0 rfl) (own_w hw 1 rfl) (own_w hw 2 rfl) (own_w hw 3 rfl) (by decide) (by rw [hml]; rfl) [(.int x0)] [] pd_0 rfl at_16 rfl e0 rfl rfl rfl (by decide) (by decide) (by decide) (by decide) ?_
    rintro _ T225 L225 X225 ⟨rfl, N225, e225⟩
    have N225 := Fr.app N0 N225
    show Go p e below _ (T225.setTop (mkF m 19 _ [.null]))
    refine own_astore_n 20 #[oI x0, oI x1, oI x0, oN, oU] X225 hx hby at_19 rfl rfl rfl ?_
    refine own_iload_n 21 X225 hx hby at_20 rfl rfl ?_
    refine own_callS (W := 0) 24 (rm2_23 l Z a0 hw [] w_HELLO w_ADD_SERVICE w_GET_SERVICE w_LIST_SERVICES w_TRANSLATE w_RESOLVE w_RELEASE w_STATUS w_WAITING w_WATCH w_ACQUIRE w_RETIRE w_RESULT w_FAILURE w_DEAD w_COUNT_WAITING w_CLOSING w_UNHELD w_OPEN w_TRANSACTION w_REPLY w_KNOCK w_ALL k_ALL W x0 h0 n0 O0 (fun q => hc159 q.symm) (fun q => hc162 q.symm) (fun q => hc165 q.symm) (fun q => hc168 q.symm) (fun q => hc171 q.symm) (fun q => hc174 q.symm) (fun q => hc177 q.symm) (fun q => hc180 q.symm) (fun q => hc183 q.symm) (fun q => hc186 q.symm) (fun q => hc189 q.symm) (fun q => hc192 q.symm) (fun q => hc195 q.symm) (fun q => hc198 q.symm) (fun q => hc201 q.symm) (fun q => hc204 q.symm) (fun q => hc207 q.symm) (fun q => hc210 q.symm) (fun q => hc213 q.symm) (fun q => hc216 q.symm) (fun q => hc219 q.symm) (fun q => hc222 q.symm)) X225 hx hby hZ hown (own_w hw 4 rfl) (own_w hw 5 rfl) (own_w hw 6 rfl) (own_w hw 7 rfl) (by decide) (by rw [hml]; rfl) [(.int x0)] [] pd_0 rfl at_21 rfl e225 rfl rfl rfl (by decide) (by decide) (by decide) (by decide) ?_
    rintro _ T226 L226 X226 ⟨rfl, N226, e226⟩
    have N226 := Fr.app N225 N226
    show Go p e below _ (T226.setTop (mkF m 24 _ [.null]))
    refine own_astore 26 #[oI x0, oI x1, oI x0, oN, oN] X226 hx hby at_24 rfl rfl rfl ?_
    refine own_aload 28 X226 hx hby at_26 rfl rfl rfl ?_
    refine own_aload_n 29 X226 hx hby at_28 rfl rfl rfl ?_
    refine own_acmp 32 true X226 hx hby at_29 rfl rfl (by decide) (by decide) (decide_eq_true rfl) ?_
    refine own_iconst 33 (1 : Int32) X226 hx hby at_32 rfl (by decide) ?_
    refine own_goto 37 X226 hx hby at_33 (by decide) (by decide) ?_
    exact own_ret (Q := own_Q1 n0) X226 hx hby hret hlk at_37 rfl (Or.inl ⟨rfl, by simp, _, rfl⟩) (by decide) (by decide) ⟨rfl, N226⟩
set_option maxRecDepth 65536 in
set_option maxHeartbeats 40000000 in
theorem comes_1 {Post : Tables → Env → Array Value → State → Outcome → State → Prop} (hpost : ∀ tb e args s v u, (limb_1_1.after args s (.returned v) u = true ∧ limb_1_2.after args s (.returned v) u = true) → FrameEnd s (.returned v) u (Jvm.fieldLocs frame_1_writes args s ++ Jvm.arrayLocs frame_1_arrays args s ++ Jvm.staticLocs frame_1_statics s) 0 0 → Post tb e args s (.returned v) u) :
    ArmFor flags0 classFile x code maxLocals ret World_1 tables_1 room_1 Calls_1 rest_1 Pre_1 Post := by
  intro l hfl _ _ p e ha hc hk s m args below hf hA hF happ hP
  obtain ⟨hcalls, hrest, hpre⟩ := hP
  obtain ⟨-, -, -, hnamed, -, -, -, hat⟩ := (Spec.applies_iff hf).mp happ
  obtain ⟨hg, hn⟩ := and_e (Cond.before_iff.mp (show (Jvm.Cond.and given_1 narrow_1).before args s = true from hpre))
  obtain ⟨ga0, gb0⟩ := and_e hg
  obtain ⟨ga1, ga2⟩ := and_e gb0
  obtain ⟨u0, u1, rfl⟩ : ∃ u0 u1 : Value, args = #[u0, u1] := by
    have hs : args.size = 2 := by simpa [Cond.value, given_1] using ga0
    obtain ⟨L⟩ := args
    match L, hs with
    | [u0, u1], _ => exact ⟨u0, u1, rfl⟩
  have hw := fun d (hd : d ∈ tables_1) => atoms_spec (ws := Jvm.Cond.code x code maxLocals ret :: tables_1) hat d (List.mem_cons_of_mem _ hd)
  have hfit : Fit s := fun {y c} hc i hi => by
    obtain ⟨ha, rfl⟩ := Array.getElem?_eq_some_iff.mp hc
    have q := List.all_eq_true.mp ((Array.all_eq_true_iff_forall_mem.mp hF) _ (Array.getElem_mem ha)) i (List.mem_range.mpr hi)
    simpa [Array.getElem?_eq_getElem hi] using q
  obtain ⟨i0, ei0⟩ := is_v ga1
  obtain rfl : u0 = (.int i0) := Option.some.inj ei0
  obtain ⟨i1, ei1⟩ := is_v ga2
  obtain rfl : u1 = (.int i1) := Option.some.inj ei1
  obtain ⟨na0, nb0⟩ := and_e hn
  obtain ⟨na1, nb1⟩ := and_e nb0
  obtain ⟨na2, nb2⟩ := and_e nb1
  obtain ⟨na3, nb3⟩ := and_e nb2
  obtain ⟨na4, nb4⟩ := and_e nb3
  obtain ⟨na5, nb5⟩ := and_e nb4
  obtain ⟨na6, nb6⟩ := and_e nb5
  obtain ⟨na7, nb7⟩ := and_e nb6
  obtain ⟨na8, nb8⟩ := and_e nb7
  obtain ⟨na9, nb9⟩ := and_e nb8
  obtain ⟨na10, nb10⟩ := and_e nb9
  obtain ⟨na11, nb11⟩ := and_e nb10
  obtain ⟨na12, nb12⟩ := and_e nb11
  obtain ⟨na13, nb13⟩ := and_e nb12
  obtain ⟨na14, nb14⟩ := and_e nb13
  obtain ⟨na15, nb15⟩ := and_e nb14
  obtain ⟨na16, nb16⟩ := and_e nb15
  obtain ⟨na17, nb17⟩ := and_e nb16
  obtain ⟨na18, nb18⟩ := and_e nb17
  obtain ⟨na19, nb19⟩ := and_e nb18
  obtain ⟨na20, nb20⟩ := and_e nb19
  obtain ⟨na21, nb21⟩ := and_e nb20
  obtain ⟨na22, nb22⟩ := and_e nb21
  obtain ⟨na23, nb23⟩ := and_e nb22
  obtain ⟨na24, nb24⟩ := and_e nb23
  obtain ⟨na25, nb25⟩ := and_e nb24
  obtain ⟨na26, nb26⟩ := and_e nb25
  obtain ⟨na27, nb27⟩ := and_e nb26
  obtain ⟨na28, nb28⟩ := and_e nb27
  obtain ⟨na29, nb29⟩ := and_e nb28
  obtain ⟨na30, nb30⟩ := and_e nb29
  obtain ⟨na31, nb31⟩ := and_e nb30
  obtain ⟨na32, nb32⟩ := and_e nb31
  obtain ⟨na33, nb33⟩ := and_e nb32
  obtain ⟨na34, nb34⟩ := and_e nb33
  obtain ⟨na35, nb35⟩ := and_e nb34
  obtain ⟨na36, nb36⟩ := and_e nb35
  obtain ⟨na37, nb37⟩ := and_e nb36
  obtain ⟨na38, nb38⟩ := and_e nb37
  obtain ⟨na39, nb39⟩ := and_e nb38
  obtain ⟨na40, nb40⟩ := and_e nb39
  obtain ⟨na41, nb41⟩ := and_e nb40
  obtain ⟨na42, nb42⟩ := and_e nb41
  obtain ⟨na43, nb43⟩ := and_e nb42
  obtain ⟨na44, nb44⟩ := and_e nb43
  obtain ⟨na45, nb45⟩ := and_e nb44
  obtain ⟨na46, nb46⟩ := and_e nb45
  obtain ⟨na47, nb47⟩ := and_e nb46
  obtain ⟨na48, nb48⟩ := and_e nb47
  obtain ⟨na49, nb49⟩ := and_e nb48
  obtain ⟨na50, nb50⟩ := and_e nb49
  obtain ⟨na51, nb51⟩ := and_e nb50
  obtain ⟨na52, nb52⟩ := and_e nb51
  obtain ⟨na53, nb53⟩ := and_e nb52
  obtain ⟨na54, nb54⟩ := and_e nb53
  obtain ⟨na55, nb55⟩ := and_e nb54
  obtain ⟨na56, nb56⟩ := and_e nb55
  obtain ⟨na57, nb57⟩ := and_e nb56
  obtain ⟨na58, nb58⟩ := and_e nb57
  obtain ⟨na59, nb59⟩ := and_e nb58
  obtain ⟨na60, nb60⟩ := and_e nb59
  obtain ⟨na61, nb61⟩ := and_e nb60
  obtain ⟨na62, nb62⟩ := and_e nb61
  obtain ⟨na63, nb63⟩ := and_e nb62
  obtain ⟨na64, nb64⟩ := and_e nb63
  obtain ⟨na65, nb65⟩ := and_e nb64
  obtain ⟨na66, na67⟩ := and_e nb65
  obtain ⟨w_HELLO, v_w_HELLO⟩ := exa_v na2
  have S_w_HELLO := Sta.start v_w_HELLO (Or.inr ⟨(own_w hw 6 rfl), (own_w hw 10 rfl)⟩)
  have E_w_HELLO := Exa.start v_w_HELLO na2
  obtain ⟨w_ADD_SERVICE, v_w_ADD_SERVICE⟩ := exa_v na5
  have S_w_ADD_SERVICE := Sta.start v_w_ADD_SERVICE (Or.inr ⟨(own_w hw 6 rfl), (own_w hw 13 rfl)⟩)
  have E_w_ADD_SERVICE := Exa.start v_w_ADD_SERVICE na5
  obtain ⟨w_GET_SERVICE, v_w_GET_SERVICE⟩ := exa_v na8
  have S_w_GET_SERVICE := Sta.start v_w_GET_SERVICE (Or.inr ⟨(own_w hw 6 rfl), (own_w hw 14 rfl)⟩)
  have E_w_GET_SERVICE := Exa.start v_w_GET_SERVICE na8
  obtain ⟨w_LIST_SERVICES, v_w_LIST_SERVICES⟩ := exa_v na11
  have S_w_LIST_SERVICES := Sta.start v_w_LIST_SERVICES (Or.inr ⟨(own_w hw 6 rfl), (own_w hw 15 rfl)⟩)
  have E_w_LIST_SERVICES := Exa.start v_w_LIST_SERVICES na11
  obtain ⟨w_TRANSLATE, v_w_TRANSLATE⟩ := exa_v na14
  have S_w_TRANSLATE := Sta.start v_w_TRANSLATE (Or.inr ⟨(own_w hw 6 rfl), (own_w hw 16 rfl)⟩)
  have E_w_TRANSLATE := Exa.start v_w_TRANSLATE na14
  obtain ⟨w_RESOLVE, v_w_RESOLVE⟩ := exa_v na17
  have S_w_RESOLVE := Sta.start v_w_RESOLVE (Or.inr ⟨(own_w hw 6 rfl), (own_w hw 17 rfl)⟩)
  have E_w_RESOLVE := Exa.start v_w_RESOLVE na17
  obtain ⟨w_RELEASE, v_w_RELEASE⟩ := exa_v na20
  have S_w_RELEASE := Sta.start v_w_RELEASE (Or.inr ⟨(own_w hw 6 rfl), (own_w hw 18 rfl)⟩)
  have E_w_RELEASE := Exa.start v_w_RELEASE na20
  obtain ⟨w_STATUS, v_w_STATUS⟩ := exa_v na23
  have S_w_STATUS := Sta.start v_w_STATUS (Or.inr ⟨(own_w hw 6 rfl), (own_w hw 19 rfl)⟩)
  have E_w_STATUS := Exa.start v_w_STATUS na23
  obtain ⟨w_WAITING, v_w_WAITING⟩ := exa_v na26
  have S_w_WAITING := Sta.start v_w_WAITING (Or.inr ⟨(own_w hw 6 rfl), (own_w hw 20 rfl)⟩)
  have E_w_WAITING := Exa.start v_w_WAITING na26
  obtain ⟨w_WATCH, v_w_WATCH⟩ := exa_v na29
  have S_w_WATCH := Sta.start v_w_WATCH (Or.inr ⟨(own_w hw 6 rfl), (own_w hw 21 rfl)⟩)
  have E_w_WATCH := Exa.start v_w_WATCH na29
  obtain ⟨w_ACQUIRE, v_w_ACQUIRE⟩ := exa_v na32
  have S_w_ACQUIRE := Sta.start v_w_ACQUIRE (Or.inr ⟨(own_w hw 6 rfl), (own_w hw 22 rfl)⟩)
  have E_w_ACQUIRE := Exa.start v_w_ACQUIRE na32
  obtain ⟨w_RETIRE, v_w_RETIRE⟩ := exa_v na35
  have S_w_RETIRE := Sta.start v_w_RETIRE (Or.inr ⟨(own_w hw 6 rfl), (own_w hw 23 rfl)⟩)
  have E_w_RETIRE := Exa.start v_w_RETIRE na35
  obtain ⟨w_RESULT, v_w_RESULT⟩ := exa_v na38
  have S_w_RESULT := Sta.start v_w_RESULT (Or.inr ⟨(own_w hw 6 rfl), (own_w hw 24 rfl)⟩)
  have E_w_RESULT := Exa.start v_w_RESULT na38
  obtain ⟨w_FAILURE, v_w_FAILURE⟩ := exa_v na41
  have S_w_FAILURE := Sta.start v_w_FAILURE (Or.inr ⟨(own_w hw 6 rfl), (own_w hw 25 rfl)⟩)
  have E_w_FAILURE := Exa.start v_w_FAILURE na41
  obtain ⟨w_DEAD, v_w_DEAD⟩ := exa_v na44
  have S_w_DEAD := Sta.start v_w_DEAD (Or.inr ⟨(own_w hw 6 rfl), (own_w hw 26 rfl)⟩)
  have E_w_DEAD := Exa.start v_w_DEAD na44
  obtain ⟨w_COUNT_WAITING, v_w_COUNT_WAITING⟩ := exa_v na47
  have S_w_COUNT_WAITING := Sta.start v_w_COUNT_WAITING (Or.inr ⟨(own_w hw 6 rfl), (own_w hw 27 rfl)⟩)
  have E_w_COUNT_WAITING := Exa.start v_w_COUNT_WAITING na47
  obtain ⟨w_CLOSING, v_w_CLOSING⟩ := exa_v na50
  have S_w_CLOSING := Sta.start v_w_CLOSING (Or.inr ⟨(own_w hw 6 rfl), (own_w hw 28 rfl)⟩)
  have E_w_CLOSING := Exa.start v_w_CLOSING na50
  obtain ⟨w_UNHELD, v_w_UNHELD⟩ := exa_v na53
  have S_w_UNHELD := Sta.start v_w_UNHELD (Or.inr ⟨(own_w hw 6 rfl), (own_w hw 29 rfl)⟩)
  have E_w_UNHELD := Exa.start v_w_UNHELD na53
  obtain ⟨w_OPEN, v_w_OPEN⟩ := exa_v na56
  have S_w_OPEN := Sta.start v_w_OPEN (Or.inr ⟨(own_w hw 6 rfl), (own_w hw 30 rfl)⟩)
  have E_w_OPEN := Exa.start v_w_OPEN na56
  obtain ⟨w_TRANSACTION, v_w_TRANSACTION⟩ := exa_v na59
  have S_w_TRANSACTION := Sta.start v_w_TRANSACTION (Or.inr ⟨(own_w hw 6 rfl), (own_w hw 31 rfl)⟩)
  have E_w_TRANSACTION := Exa.start v_w_TRANSACTION na59
  obtain ⟨w_REPLY, v_w_REPLY⟩ := exa_v na62
  have S_w_REPLY := Sta.start v_w_REPLY (Or.inr ⟨(own_w hw 6 rfl), (own_w hw 32 rfl)⟩)
  have E_w_REPLY := Exa.start v_w_REPLY na62
  obtain ⟨w_KNOCK, v_w_KNOCK⟩ := exa_v na65
  have S_w_KNOCK := Sta.start v_w_KNOCK (Or.inr ⟨(own_w hw 6 rfl), (own_w hw 33 rfl)⟩)
  have E_w_KNOCK := Exa.start v_w_KNOCK na65
  have F_code_w_HELLO := own_fld na4 v_w_HELLO
  have F_code_w_ADD_SERVICE := own_fld na7 v_w_ADD_SERVICE
  have F_code_w_GET_SERVICE := own_fld na10 v_w_GET_SERVICE
  have F_code_w_LIST_SERVICES := own_fld na13 v_w_LIST_SERVICES
  have F_code_w_TRANSLATE := own_fld na16 v_w_TRANSLATE
  have F_code_w_RESOLVE := own_fld na19 v_w_RESOLVE
  have F_code_w_RELEASE := own_fld na22 v_w_RELEASE
  have F_code_w_STATUS := own_fld na25 v_w_STATUS
  have F_code_w_WAITING := own_fld na28 v_w_WAITING
  have F_code_w_WATCH := own_fld na31 v_w_WATCH
  have F_code_w_ACQUIRE := own_fld na34 v_w_ACQUIRE
  have F_code_w_RETIRE := own_fld na37 v_w_RETIRE
  have F_code_w_RESULT := own_fld na40 v_w_RESULT
  have F_code_w_FAILURE := own_fld na43 v_w_FAILURE
  have F_code_w_DEAD := own_fld na46 v_w_DEAD
  have F_code_w_COUNT_WAITING := own_fld na49 v_w_COUNT_WAITING
  have F_code_w_CLOSING := own_fld na52 v_w_CLOSING
  have F_code_w_UNHELD := own_fld na55 v_w_UNHELD
  have F_code_w_OPEN := own_fld na58 v_w_OPEN
  have F_code_w_TRANSACTION := own_fld na61 v_w_TRANSACTION
  have F_code_w_REPLY := own_fld na64 v_w_REPLY
  have F_code_w_KNOCK := own_fld na67 v_w_KNOCK
  obtain ⟨w_ALL, v_w_ALL⟩ := arr_v na0
  have S_w_ALL := Sta.start v_w_ALL (Or.inr ⟨(own_w hw 6 rfl), (own_w hw 9 rfl)⟩)
  obtain ⟨cl_w_ALL, A_w_ALL⟩ := Arr.start v_w_ALL na0
  obtain ⟨q_w_ALL, l_w_ALL⟩ := own_len_at (eqv_i (Term.int_eval _) na1) v_w_ALL (A_w_ALL.fin (Vm.Alike.refl _))
  have V_w_ALL : Arv s s.heap w_ALL _ (.object "com/example/hop1/hop1/protocol/FrameKind") (22 : Int32) [(.ref w_HELLO), (.ref w_ADD_SERVICE), (.ref w_GET_SERVICE), (.ref w_LIST_SERVICES), (.ref w_TRANSLATE), (.ref w_RESOLVE), (.ref w_RELEASE), (.ref w_STATUS), (.ref w_WAITING), (.ref w_WATCH), (.ref w_ACQUIRE), (.ref w_RETIRE), (.ref w_RESULT), (.ref w_FAILURE), (.ref w_DEAD), (.ref w_COUNT_WAITING), (.ref w_CLOSING), (.ref w_UNHELD), (.ref w_OPEN), (.ref w_TRANSACTION), (.ref w_REPLY), (.ref w_KNOCK)] .null := Arv.start hfit A_w_ALL q_w_ALL l_w_ALL (by decide) rfl ⟨(elem_in (own_eqvR v_w_HELLO na3) v_w_ALL (Term.int_eval _) A_w_ALL.1).2, (elem_in (own_eqvR v_w_ADD_SERVICE na6) v_w_ALL (Term.int_eval _) A_w_ALL.1).2, (elem_in (own_eqvR v_w_GET_SERVICE na9) v_w_ALL (Term.int_eval _) A_w_ALL.1).2, (elem_in (own_eqvR v_w_LIST_SERVICES na12) v_w_ALL (Term.int_eval _) A_w_ALL.1).2, (elem_in (own_eqvR v_w_TRANSLATE na15) v_w_ALL (Term.int_eval _) A_w_ALL.1).2, (elem_in (own_eqvR v_w_RESOLVE na18) v_w_ALL (Term.int_eval _) A_w_ALL.1).2, (elem_in (own_eqvR v_w_RELEASE na21) v_w_ALL (Term.int_eval _) A_w_ALL.1).2, (elem_in (own_eqvR v_w_STATUS na24) v_w_ALL (Term.int_eval _) A_w_ALL.1).2, (elem_in (own_eqvR v_w_WAITING na27) v_w_ALL (Term.int_eval _) A_w_ALL.1).2, (elem_in (own_eqvR v_w_WATCH na30) v_w_ALL (Term.int_eval _) A_w_ALL.1).2, (elem_in (own_eqvR v_w_ACQUIRE na33) v_w_ALL (Term.int_eval _) A_w_ALL.1).2, (elem_in (own_eqvR v_w_RETIRE na36) v_w_ALL (Term.int_eval _) A_w_ALL.1).2, (elem_in (own_eqvR v_w_RESULT na39) v_w_ALL (Term.int_eval _) A_w_ALL.1).2, (elem_in (own_eqvR v_w_FAILURE na42) v_w_ALL (Term.int_eval _) A_w_ALL.1).2, (elem_in (own_eqvR v_w_DEAD na45) v_w_ALL (Term.int_eval _) A_w_ALL.1).2, (elem_in (own_eqvR v_w_COUNT_WAITING na48) v_w_ALL (Term.int_eval _) A_w_ALL.1).2, (elem_in (own_eqvR v_w_CLOSING na51) v_w_ALL (Term.int_eval _) A_w_ALL.1).2, (elem_in (own_eqvR v_w_UNHELD na54) v_w_ALL (Term.int_eval _) A_w_ALL.1).2, (elem_in (own_eqvR v_w_OPEN na57) v_w_ALL (Term.int_eval _) A_w_ALL.1).2, (elem_in (own_eqvR v_w_TRANSACTION na60) v_w_ALL (Term.int_eval _) A_w_ALL.1).2, (elem_in (own_eqvR v_w_REPLY na63) v_w_ALL (Term.int_eval _) A_w_ALL.1).2, (elem_in (own_eqvR v_w_KNOCK na66) v_w_ALL (Term.int_eval _) A_w_ALL.1).2, trivial⟩
  obtain ⟨n, o, h1, h2, h3, _, L, rfl, ⟨rfl, N⟩, hq⟩ := rm0 l s _ hw tables_1 w_HELLO w_ADD_SERVICE w_GET_SERVICE w_LIST_SERVICES w_TRANSLATE w_RESOLVE w_RELEASE w_STATUS w_WAITING w_WATCH w_ACQUIRE w_RETIRE w_RESULT w_FAILURE w_DEAD w_COUNT_WAITING w_CLOSING w_UNHELD w_OPEN w_TRANSACTION w_REPLY w_KNOCK w_ALL _ ⟨S_w_HELLO, E_w_HELLO, S_w_ADD_SERVICE, E_w_ADD_SERVICE, S_w_GET_SERVICE, E_w_GET_SERVICE, S_w_LIST_SERVICES, E_w_LIST_SERVICES, S_w_TRANSLATE, E_w_TRANSLATE, S_w_RESOLVE, E_w_RESOLVE, S_w_RELEASE, E_w_RELEASE, S_w_STATUS, E_w_STATUS, S_w_WAITING, E_w_WAITING, S_w_WATCH, E_w_WATCH, S_w_ACQUIRE, E_w_ACQUIRE, S_w_RETIRE, E_w_RETIRE, S_w_RESULT, E_w_RESULT, S_w_FAILURE, E_w_FAILURE, S_w_DEAD, E_w_DEAD, S_w_COUNT_WAITING, E_w_COUNT_WAITING, S_w_CLOSING, E_w_CLOSING, S_w_UNHELD, E_w_UNHELD, S_w_OPEN, E_w_OPEN, S_w_TRANSACTION, E_w_TRANSACTION, S_w_REPLY, E_w_REPLY, S_w_KNOCK, E_w_KNOCK, S_w_ALL, F_code_w_HELLO, F_code_w_ADD_SERVICE, F_code_w_GET_SERVICE, F_code_w_LIST_SERVICES, F_code_w_TRANSLATE, F_code_w_RESOLVE, F_code_w_RELEASE, F_code_w_STATUS, F_code_w_WAITING, F_code_w_WATCH, F_code_w_ACQUIRE, F_code_w_RETIRE, F_code_w_RESULT, F_code_w_FAILURE, F_code_w_DEAD, F_code_w_COUNT_WAITING, F_code_w_CLOSING, F_code_w_UNHELD, F_code_w_OPEN, F_code_w_TRANSACTION, F_code_w_REPLY, F_code_w_KNOCK, V_w_ALL⟩ i0 i1 s.heap s.heap.size (Old.start s) p e ha hc hk s m _ below hf ((Spec.applies_iff_loose hf).mp happ).1 ⟨rfl, State.Warmed39.refl s, rfl⟩ trivial
  refine ⟨n, _, h1, h2, h3, hpost _ _ _ _ _ _ ⟨Cond.after_iff.mpr rfl, Cond.after_iff.mpr (eq_i res_at (Term.int_eval (1)) rfl)⟩ ⟨hq.1, hq.2.1, (hq.2.2.sift fun y hy => Or.inr (N y hy)).mono (by decide) (by decide)⟩⟩
theorem main_1_1 : Claimed_1_1 := comes_1 fun _ _ _ _ _ _ h hF => ⟨h.1, hF⟩
theorem main_1_2 : Claimed_1_2 := comes_1 fun _ _ _ _ _ _ h hF => ⟨h.2, hF⟩
end Jvm.Pilot.@@N@@
namespace Jvm.Pilot.@@N@@
open Jvm Jvm.ClassFile Sem Op Lib Jvm.Free Jvm.Stand Jvm.Pilot.@@N@@.Jvm.D
/-! MADE BY PROGRAM (witnessworld.py) out of the Statement's table words and the real class files: 13 classes; the members and pool entries that the words name. The judged class is class 1, her method 2. -/
namespace start1
open Jvm.ClassFile
def u (s : String) : CpInfo := .utf8 (stringToUtf16 s)
/-- a pool by its gaps: so many unusable entries, then the entry; so many at the end -/
def gap : Nat → List CpInfo → List CpInfo
  | 0, r => r
  | n + 1, r => .unusable :: gap n r
def poolList (es : List (Nat × CpInfo)) (last : Nat) : List CpInfo := es.foldr (fun e r => gap e.1 (e.2 :: r)) (gap last [])
def pool (es : List (Nat × CpInfo)) (last : Nat) : Array CpInfo := ⟨poolList es last⟩
def fileOf (pool : Array CpInfo) (this : Nat) (attrs : Array Attribute := #[]) (ms : Array MethodInfo := #[]) (fl : Nat := 33) (sup : Nat := 0) (ifs : Array Nat := #[]) (fds : Array FieldInfo := #[]) : ClassFile where
  minorVersion := 0
  majorVersion := 65
  constantPool := pool
  accessFlags := fl
  thisClass := this
  superClass := sup
  interfaces := ifs
  fields := fds
  methods := ms
  attributes := attrs
def plain (name : String) (sup : Option ClassId) : Class where
  name := name
  kind := .ordinary
  loader := none
  accessFlags := 33
  super := sup
  interfaces := #[]
  cf := none
  fields := #[]
  methods := #[]
  instanceTypes := #[]
  staticTypes := #[]
  resolved := #[]
  callSites := []
  init := .initialized
  statics := none
  mirror := none

def pool0 : Array CpInfo := pool [(5, u "<init>"), (0, u "()V"), (1, .class_ 10), (1, u "java/lang/Object")] 113

def k0m0 : Method := { name := "<init>", desc := "()V", sig := { parameters := [], returnType := none }, accessFlags := 1, code := none }
/-- java/lang/Object -/
def k0 : Class := { plain "java/lang/Object" none with
  accessFlags := 33
  interfaces := #[]
  cf := some (fileOf pool0 8 #[] #[{ accessFlags := 1, nameIndex := 5, descriptorIndex := 6, attributes := #[] }] 33 0 #[] #[])
  fields := #[]
  methods := #[k0m0]
  instanceTypes := #[]
  staticTypes := #[]
  resolved := Array.replicate 124 none
  statics := none }

def pool1 : Array CpInfo := pool [(2, .class_ 4), (1, u "java/lang/Object"), (0, u "<init>"), (0, u "()V"), (0, .fieldref 8 9), (0, .class_ 10), (0, .nameAndType 11 12), (0, u "com/example/hop1/hop1/protocol/FrameKind"), (0, u "HELLO"), (0, u "Lcom/example/hop1/hop1/protocol/FrameKind;"), (0, .fieldref 8 14), (0, .nameAndType 15 12), (0, u "ADD_SERVICE"), (0, .fieldref 8 17), (0, .nameAndType 18 12), (0, u "GET_SERVICE"), (0, .fieldref 8 20), (0, .nameAndType 21 12), (0, u "LIST_SERVICES"), (0, .fieldref 8 23), (0, .nameAndType 24 12), (0, u "TRANSLATE"), (0, .fieldref 8 26), (0, .nameAndType 27 12), (0, u "RESOLVE"), (0, .fieldref 8 29), (0, .nameAndType 30 12), (0, u "RELEASE"), (0, .fieldref 8 32), (0, .nameAndType 33 12), (0, u "STATUS"), (0, .fieldref 8 35), (0, .nameAndType 36 12), (0, u "WAITING"), (0, .fieldref 8 38), (0, .nameAndType 39 12), (0, u "WATCH"), (0, .fieldref 8 41), (0, .nameAndType 42 12), (0, u "ACQUIRE"), (0, .fieldref 8 44), (0, .nameAndType 45 12), (0, u "RETIRE"), (0, .fieldref 8 47), (0, .nameAndType 48 12), (0, u "RESULT"), (0, .fieldref 8 50), (0, .nameAndType 51 12), (0, u "FAILURE"), (0, .fieldref 8 53), (0, .nameAndType 54 12), (0, u "DEAD"), (0, .fieldref 8 56), (0, .nameAndType 57 12), (0, u "COUNT_WAITING"), (0, .fieldref 8 59), (0, .nameAndType 60 12), (0, u "CLOSING"), (0, .fieldref 8 62), (0, .nameAndType 63 12), (0, u "UNHELD"), (0, .fieldref 8 65), (0, .nameAndType 66 12), (0, u "OPEN"), (0, .fieldref 8 68), (0, .nameAndType 69 12), (0, u "TRANSACTION"), (0, .fieldref 8 71), (0, .nameAndType 72 12), (0, u "REPLY"), (0, .fieldref 8 74), (0, .nameAndType 75 12), (0, u "KNOCK"), (0, .methodref 77 78), (0, .class_ 79), (0, .nameAndType 80 81), (0, u "com/example/hop1/hop1/protocol/FrameKindOfPinLaw"), (0, u "expected"), (0, u "(I)Lcom/example/hop1/hop1/protocol/FrameKind;"), (0, .methodref 8 83), (0, .nameAndType 84 81), (0, u "of"), (3, u "law"), (0, u "(II)Z")] 2

def k1m0 : Method := { name := "<init>", desc := "()V", sig := { parameters := [], returnType := none }, accessFlags := 2, code := none }
def k1c1 : Code := { maxStack := 2, maxLocals := 1, code := method_2_code, exceptionTable := #[], attributes := #[] }
def k1m1 : Method := { name := "expected", desc := "(I)Lcom/example/hop1/hop1/protocol/FrameKind;", sig := { parameters := [.int], returnType := some (.object "com/example/hop1/hop1/protocol/FrameKind") }, accessFlags := 10, code := some k1c1 }
def k1c2 : Code := { maxStack := 2, maxLocals := 5, code := code, exceptionTable := #[], attributes := #[] }
def k1m2 : Method := { name := "law", desc := "(II)Z", sig := { parameters := [.int, .int], returnType := some .boolean }, accessFlags := 9, code := some k1c2 }
/-- com/example/hop1/hop1/protocol/FrameKindOfPinLaw -/
def k1 : Class := { plain "com/example/hop1/hop1/protocol/FrameKindOfPinLaw" (some 0) with
  accessFlags := 49
  interfaces := #[]
  cf := some (fileOf pool1 77 #[] #[{ accessFlags := 2, nameIndex := 5, descriptorIndex := 6, attributes := #[] }, { accessFlags := 10, nameIndex := 80, descriptorIndex := 81, attributes := #[] }, { accessFlags := 9, nameIndex := 88, descriptorIndex := 89, attributes := #[] }] 49 2 #[] #[])
  fields := #[]
  methods := #[k1m0, k1m1, k1m2]
  instanceTypes := #[]
  staticTypes := #[]
  resolved := Array.replicate 92 none
  statics := none }

def pool2 : Array CpInfo := pool [(1, .class_ 2), (0, u "java/lang/constant/Constable"), (0, .class_ 4), (0, u "java/lang/Object")] 6

/-- java/lang/constant/Constable -/
def k2 : Class := { plain "java/lang/constant/Constable" (some 0) with
  accessFlags := 1537
  interfaces := #[]
  cf := some (fileOf pool2 1 #[] #[] 1537 3 #[] #[])
  fields := #[]
  methods := #[]
  instanceTypes := #[]
  staticTypes := #[]
  resolved := Array.replicate 11 none
  statics := none }

def pool3 : Array CpInfo := pool [(1, .class_ 2), (0, u "java/lang/Comparable"), (0, .class_ 4), (0, u "java/lang/Object")] 7

/-- java/lang/Comparable -/
def k3 : Class := { plain "java/lang/Comparable" (some 0) with
  accessFlags := 1537
  interfaces := #[]
  cf := some (fileOf pool3 1 #[] #[] 1537 3 #[] #[])
  fields := #[]
  methods := #[]
  instanceTypes := #[]
  staticTypes := #[]
  resolved := Array.replicate 12 none
  statics := none }

def pool4 : Array CpInfo := pool [(1, .class_ 2), (0, u "java/io/Serializable"), (0, .class_ 4), (0, u "java/lang/Object")] 2

/-- java/io/Serializable -/
def k4 : Class := { plain "java/io/Serializable" (some 0) with
  accessFlags := 1537
  interfaces := #[]
  cf := some (fileOf pool4 1 #[] #[] 1537 3 #[] #[])
  fields := #[]
  methods := #[]
  instanceTypes := #[]
  staticTypes := #[]
  resolved := Array.replicate 7 none
  statics := none }

def pool5 : Array CpInfo := pool [(2, .class_ 4), (1, u "java/lang/Enum"), (0, u "name"), (0, u "Ljava/lang/String;"), (2, u "ordinal"), (0, u "I"), (1, .class_ 14), (1, u "java/lang/Object"), (4, u "hash"), (86, .class_ 108), (1, u "java/lang/Enum$EnumDesc"), (2, .class_ 112), (0, u "java/lang/constant/Constable"), (0, .class_ 114), (0, u "java/lang/Comparable"), (0, .class_ 116), (0, u "java/io/Serializable")] 87

/-- java/lang/Enum -/
def k5 : Class := { plain "java/lang/Enum" (some 0) with
  accessFlags := 1057
  interfaces := #[2, 3, 4]
  cf := some (fileOf pool5 2 #[.nestMembers #[106]] #[] 1057 12 #[111, 113, 115] #[{ accessFlags := 18, nameIndex := 5, descriptorIndex := 6, attributes := #[] }, { accessFlags := 18, nameIndex := 9, descriptorIndex := 10, attributes := #[] }, { accessFlags := 2, nameIndex := 19, descriptorIndex := 10, attributes := #[] }])
  fields := #[{ name := "name", type := (.object "java/lang/String"), accessFlags := 18, slot := 0, constantValue := 0 }, { name := "ordinal", type := .int, accessFlags := 18, slot := 1, constantValue := 0 }, { name := "hash", type := .int, accessFlags := 2, slot := 2, constantValue := 0 }]
  methods := #[]
  instanceTypes := #[(.object "java/lang/String"), .int, .int]
  staticTypes := #[]
  resolved := Array.replicate 204 none
  statics := none }

def pool6 : Array CpInfo := pool [(1, .class_ 2), (0, u "com/example/hop1/hop1/protocol/FrameKind"), (2, u "HELLO"), (0, u "Lcom/example/hop1/hop1/protocol/FrameKind;"), (2, u "ADD_SERVICE"), (2, u "GET_SERVICE"), (2, u "LIST_SERVICES"), (2, u "TRANSLATE"), (2, u "RESOLVE"), (2, u "RELEASE"), (2, u "STATUS"), (2, u "WAITING"), (2, u "WATCH"), (2, u "ACQUIRE"), (2, u "RETIRE"), (2, u "RESULT"), (2, u "FAILURE"), (2, u "DEAD"), (2, u "COUNT_WAITING"), (2, u "CLOSING"), (2, u "UNHELD"), (2, u "OPEN"), (2, u "TRANSACTION"), (2, u "REPLY"), (2, u "KNOCK"), (2, u "$VALUES"), (0, u "[Lcom/example/hop1/hop1/protocol/FrameKind;"), (6, .class_ 82), (1, u "java/lang/Enum"), (6, .fieldref 1 90), (0, .nameAndType 91 92), (0, u "code"), (0, u "I"), (0, .fieldref 1 94), (0, .nameAndType 95 73), (0, u "ALL"), (39, u "of"), (0, u "(I)Lcom/example/hop1/hop1/protocol/FrameKind;")] 6

def k6c0 : Code := { maxStack := 2, maxLocals := 5, code := prog_113_method_5_code, exceptionTable := #[], attributes := #[] }
def k6m0 : Method := { name := "of", desc := "(I)Lcom/example/hop1/hop1/protocol/FrameKind;", sig := { parameters := [.int], returnType := some (.object "com/example/hop1/hop1/protocol/FrameKind") }, accessFlags := 9, code := some k6c0 }
/-- com/example/hop1/hop1/protocol/FrameKind -/
def k6 : Class := { plain "com/example/hop1/hop1/protocol/FrameKind" (some 5) with
  accessFlags := 16433
  interfaces := #[]
  cf := some (fileOf pool6 1 #[] #[{ accessFlags := 9, nameIndex := 135, descriptorIndex := 136, attributes := #[] }] 16433 80 #[] #[{ accessFlags := 16409, nameIndex := 5, descriptorIndex := 6, attributes := #[] }, { accessFlags := 16409, nameIndex := 9, descriptorIndex := 6, attributes := #[] }, { accessFlags := 16409, nameIndex := 12, descriptorIndex := 6, attributes := #[] }, { accessFlags := 16409, nameIndex := 15, descriptorIndex := 6, attributes := #[] }, { accessFlags := 16409, nameIndex := 18, descriptorIndex := 6, attributes := #[] }, { accessFlags := 16409, nameIndex := 21, descriptorIndex := 6, attributes := #[] }, { accessFlags := 16409, nameIndex := 24, descriptorIndex := 6, attributes := #[] }, { accessFlags := 16409, nameIndex := 27, descriptorIndex := 6, attributes := #[] }, { accessFlags := 16409, nameIndex := 30, descriptorIndex := 6, attributes := #[] }, { accessFlags := 16409, nameIndex := 33, descriptorIndex := 6, attributes := #[] }, { accessFlags := 16409, nameIndex := 36, descriptorIndex := 6, attributes := #[] }, { accessFlags := 16409, nameIndex := 39, descriptorIndex := 6, attributes := #[] }, { accessFlags := 16409, nameIndex := 42, descriptorIndex := 6, attributes := #[] }, { accessFlags := 16409, nameIndex := 45, descriptorIndex := 6, attributes := #[] }, { accessFlags := 16409, nameIndex := 48, descriptorIndex := 6, attributes := #[] }, { accessFlags := 16409, nameIndex := 51, descriptorIndex := 6, attributes := #[] }, { accessFlags := 16409, nameIndex := 54, descriptorIndex := 6, attributes := #[] }, { accessFlags := 16409, nameIndex := 57, descriptorIndex := 6, attributes := #[] }, { accessFlags := 16409, nameIndex := 60, descriptorIndex := 6, attributes := #[] }, { accessFlags := 16409, nameIndex := 63, descriptorIndex := 6, attributes := #[] }, { accessFlags := 16409, nameIndex := 66, descriptorIndex := 6, attributes := #[] }, { accessFlags := 16409, nameIndex := 69, descriptorIndex := 6, attributes := #[] }, { accessFlags := 26, nameIndex := 95, descriptorIndex := 73, attributes := #[] }, { accessFlags := 18, nameIndex := 91, descriptorIndex := 92, attributes := #[] }, { accessFlags := 4122, nameIndex := 72, descriptorIndex := 73, attributes := #[] }])
  fields := #[{ name := "HELLO", type := (.object "com/example/hop1/hop1/protocol/FrameKind"), accessFlags := 16409, slot := 0, constantValue := 0 }, { name := "ADD_SERVICE", type := (.object "com/example/hop1/hop1/protocol/FrameKind"), accessFlags := 16409, slot := 1, constantValue := 0 }, { name := "GET_SERVICE", type := (.object "com/example/hop1/hop1/protocol/FrameKind"), accessFlags := 16409, slot := 2, constantValue := 0 }, { name := "LIST_SERVICES", type := (.object "com/example/hop1/hop1/protocol/FrameKind"), accessFlags := 16409, slot := 3, constantValue := 0 }, { name := "TRANSLATE", type := (.object "com/example/hop1/hop1/protocol/FrameKind"), accessFlags := 16409, slot := 4, constantValue := 0 }, { name := "RESOLVE", type := (.object "com/example/hop1/hop1/protocol/FrameKind"), accessFlags := 16409, slot := 5, constantValue := 0 }, { name := "RELEASE", type := (.object "com/example/hop1/hop1/protocol/FrameKind"), accessFlags := 16409, slot := 6, constantValue := 0 }, { name := "STATUS", type := (.object "com/example/hop1/hop1/protocol/FrameKind"), accessFlags := 16409, slot := 7, constantValue := 0 }, { name := "WAITING", type := (.object "com/example/hop1/hop1/protocol/FrameKind"), accessFlags := 16409, slot := 8, constantValue := 0 }, { name := "WATCH", type := (.object "com/example/hop1/hop1/protocol/FrameKind"), accessFlags := 16409, slot := 9, constantValue := 0 }, { name := "ACQUIRE", type := (.object "com/example/hop1/hop1/protocol/FrameKind"), accessFlags := 16409, slot := 10, constantValue := 0 }, { name := "RETIRE", type := (.object "com/example/hop1/hop1/protocol/FrameKind"), accessFlags := 16409, slot := 11, constantValue := 0 }, { name := "RESULT", type := (.object "com/example/hop1/hop1/protocol/FrameKind"), accessFlags := 16409, slot := 12, constantValue := 0 }, { name := "FAILURE", type := (.object "com/example/hop1/hop1/protocol/FrameKind"), accessFlags := 16409, slot := 13, constantValue := 0 }, { name := "DEAD", type := (.object "com/example/hop1/hop1/protocol/FrameKind"), accessFlags := 16409, slot := 14, constantValue := 0 }, { name := "COUNT_WAITING", type := (.object "com/example/hop1/hop1/protocol/FrameKind"), accessFlags := 16409, slot := 15, constantValue := 0 }, { name := "CLOSING", type := (.object "com/example/hop1/hop1/protocol/FrameKind"), accessFlags := 16409, slot := 16, constantValue := 0 }, { name := "UNHELD", type := (.object "com/example/hop1/hop1/protocol/FrameKind"), accessFlags := 16409, slot := 17, constantValue := 0 }, { name := "OPEN", type := (.object "com/example/hop1/hop1/protocol/FrameKind"), accessFlags := 16409, slot := 18, constantValue := 0 }, { name := "TRANSACTION", type := (.object "com/example/hop1/hop1/protocol/FrameKind"), accessFlags := 16409, slot := 19, constantValue := 0 }, { name := "REPLY", type := (.object "com/example/hop1/hop1/protocol/FrameKind"), accessFlags := 16409, slot := 20, constantValue := 0 }, { name := "KNOCK", type := (.object "com/example/hop1/hop1/protocol/FrameKind"), accessFlags := 16409, slot := 21, constantValue := 0 }, { name := "ALL", type := (.array (.object "com/example/hop1/hop1/protocol/FrameKind")), accessFlags := 26, slot := 22, constantValue := 0 }, { name := "code", type := .int, accessFlags := 18, slot := 3, constantValue := 0 }, { name := "$VALUES", type := (.array (.object "com/example/hop1/hop1/protocol/FrameKind")), accessFlags := 4122, slot := 23, constantValue := 0 }]
  methods := #[k6m0]
  instanceTypes := #[(.object "java/lang/String"), .int, .int, .int]
  staticTypes := #[(.object "com/example/hop1/hop1/protocol/FrameKind"), (.object "com/example/hop1/hop1/protocol/FrameKind"), (.object "com/example/hop1/hop1/protocol/FrameKind"), (.object "com/example/hop1/hop1/protocol/FrameKind"), (.object "com/example/hop1/hop1/protocol/FrameKind"), (.object "com/example/hop1/hop1/protocol/FrameKind"), (.object "com/example/hop1/hop1/protocol/FrameKind"), (.object "com/example/hop1/hop1/protocol/FrameKind"), (.object "com/example/hop1/hop1/protocol/FrameKind"), (.object "com/example/hop1/hop1/protocol/FrameKind"), (.object "com/example/hop1/hop1/protocol/FrameKind"), (.object "com/example/hop1/hop1/protocol/FrameKind"), (.object "com/example/hop1/hop1/protocol/FrameKind"), (.object "com/example/hop1/hop1/protocol/FrameKind"), (.object "com/example/hop1/hop1/protocol/FrameKind"), (.object "com/example/hop1/hop1/protocol/FrameKind"), (.object "com/example/hop1/hop1/protocol/FrameKind"), (.object "com/example/hop1/hop1/protocol/FrameKind"), (.object "com/example/hop1/hop1/protocol/FrameKind"), (.object "com/example/hop1/hop1/protocol/FrameKind"), (.object "com/example/hop1/hop1/protocol/FrameKind"), (.object "com/example/hop1/hop1/protocol/FrameKind"), (.array (.object "com/example/hop1/hop1/protocol/FrameKind")), (.array (.object "com/example/hop1/hop1/protocol/FrameKind"))]
  resolved := Array.replicate 143 none
  statics := some 0 }

def pool7 : Array CpInfo := pool [(1, u "java/lang/Cloneable"), (0, .class_ 1), (0, u "java/lang/Object"), (0, .class_ 3)] 3

/-- java/lang/Cloneable -/
def k7 : Class := { plain "java/lang/Cloneable" (some 0) with
  accessFlags := 1537
  interfaces := #[]
  cf := some (fileOf pool7 2 #[] #[] 1537 4 #[] #[])
  fields := #[]
  methods := #[]
  instanceTypes := #[]
  staticTypes := #[]
  resolved := Array.replicate 8 none
  statics := none }

/-- the primitive byte -/
def k8 : Class := { plain "byte" none with kind := .primitive 'B', accessFlags := 0x411 }
/-- [B -/
def k9 : Class := { plain "[B" (some 0) with kind := .array 8 .byte, interfaces := #[7, 4], accessFlags := 1041 }

/-- the primitive int -/
def k10 : Class := { plain "int" none with kind := .primitive 'I', accessFlags := 0x411 }
/-- [I -/
def k11 : Class := { plain "[I" (some 0) with kind := .array 10 .int, interfaces := #[7, 4], accessFlags := 1041 }

/-- [Lcom/example/hop1/hop1/protocol/FrameKind; -/
def k12 : Class := { plain "[Lcom/example/hop1/hop1/protocol/FrameKind;" (some 0) with kind := .array 6 (.object "com/example/hop1/hop1/protocol/FrameKind"), interfaces := #[7, 4], accessFlags := 1041 }

def heap : Heap := #[{ cls := 6, slots := #[.ref 2, .ref 3, .ref 4, .ref 5, .ref 6, .ref 7, .ref 8, .ref 9, .ref 10, .ref 11, .ref 12, .ref 13, .ref 14, .ref 15, .ref 16, .ref 17, .ref 18, .ref 19, .ref 20, .ref 21, .ref 22, .ref 23, .ref 1, .null], vm := .statics 6 },
  { cls := 12, slots := #[.ref 2, .ref 3, .ref 4, .ref 5, .ref 6, .ref 7, .ref 8, .ref 9, .ref 10, .ref 11, .ref 12, .ref 13, .ref 14, .ref 15, .ref 16, .ref 17, .ref 18, .ref 19, .ref 20, .ref 21, .ref 22, .ref 23], vm := .none },
  { cls := 6, slots := #[.null, .int 0, .int 0, .int 1], vm := .none },
  { cls := 6, slots := #[.null, .int 0, .int 0, .int 2], vm := .none },
  { cls := 6, slots := #[.null, .int 0, .int 0, .int 3], vm := .none },
  { cls := 6, slots := #[.null, .int 0, .int 0, .int 4], vm := .none },
  { cls := 6, slots := #[.null, .int 0, .int 0, .int 5], vm := .none },
  { cls := 6, slots := #[.null, .int 0, .int 0, .int 6], vm := .none },
  { cls := 6, slots := #[.null, .int 0, .int 0, .int 7], vm := .none },
  { cls := 6, slots := #[.null, .int 0, .int 0, .int 8], vm := .none },
  { cls := 6, slots := #[.null, .int 0, .int 0, .int 9], vm := .none },
  { cls := 6, slots := #[.null, .int 0, .int 0, .int 10], vm := .none },
  { cls := 6, slots := #[.null, .int 0, .int 0, .int 11], vm := .none },
  { cls := 6, slots := #[.null, .int 0, .int 0, .int 12], vm := .none },
  { cls := 6, slots := #[.null, .int 0, .int 0, .int 16], vm := .none },
  { cls := 6, slots := #[.null, .int 0, .int 0, .int 17], vm := .none },
  { cls := 6, slots := #[.null, .int 0, .int 0, .int 18], vm := .none },
  { cls := 6, slots := #[.null, .int 0, .int 0, .int 19], vm := .none },
  { cls := 6, slots := #[.null, .int 0, .int 0, .int 20], vm := .none },
  { cls := 6, slots := #[.null, .int 0, .int 0, .int 21], vm := .none },
  { cls := 6, slots := #[.null, .int 0, .int 0, .int 32], vm := .none },
  { cls := 6, slots := #[.null, .int 0, .int 0, .int 33], vm := .none },
  { cls := 6, slots := #[.null, .int 0, .int 0, .int 34], vm := .none },
  { cls := 6, slots := #[.null, .int 0, .int 0, .int 35], vm := .none }]
def classes : Array Class := #[k0, k1, k2, k3, k4, k5, k6, k7, k8, k9, k10, k11, k12]
def interned : List (Array UInt16 × Addr) := []
def slotsUsed : Nat := 134
def theMethod : MethodId := ⟨1, 2⟩
def args0 : Array Value := #[.int 5, .int 5]
def aboutOver (below : List Frame) : State where
  vm := { classes := classes, interned := interned.toArray }
  heap := heap
  slotsUsed := slotsUsed
  threads := #[{ frames := .invoking theMethod args0 :: below }]
def below0 : List Frame := [.native { method := ⟨0, 0⟩, args := #[] }]
def about1 : State := aboutOver below0
def p0 : Program := .bare "" "" ""
def e0 : Env := launch0.env 0 0 0
theorem w_frames : about1.frames = Frame.invoking theMethod args0 :: below0 := rfl
set_option maxRecDepth 65536 in
theorem w_args : argsFit about1.vm theMethod args0 = true := by decide +kernel
set_option maxRecDepth 65536 in
theorem w_heap : heapFits about1 = true := by decide +kernel
set_option maxRecDepth 65536 in
theorem w_runnable : about1.curStatus? = some .runnable := by decide +kernel
set_option maxRecDepth 65536 in
theorem w_alone : about1.alone = true := by decide +kernel
set_option maxRecDepth 65536 in
theorem w_named : about1.methodNamed? x = some theMethod := by decide +kernel
set_option maxRecDepth 65536 in
theorem w_hears : about1.hears theMethod below0 = true := by decide +kernel
set_option maxRecDepth 65536 in
theorem w_ripe : about1.ripe theMethod args0 below0 = true := by decide +kernel
theorem w_running : about1.status = .running := rfl
set_option maxRecDepth 65536 in
theorem w_room : about1.hasRoom e0.platform room_1 = true :=
  launch0.hasRoom_least _ room_1 (by decide +kernel) (by decide +kernel) (by decide +kernel) (by decide +kernel) (by decide +kernel) (by decide +kernel)
theorem allAtoms_all (ts : List Jvm.Cond) (a : Array Jvm.Value) (st : Jvm.State) : (allAtoms ts).before a st = ts.all (fun c => c.before a st) := by
  induction ts with
  | nil => rfl
  | cons c t ih =>
    show (Jvm.Cond.and c (allAtoms t)).before a st = _
    rw [Jvm.Cond.before_and, ih, List.all_cons]
def words1 : List Jvm.Cond := Jvm.Cond.code x code maxLocals ret :: tables_1
/-- a 'code' word, met by the world's own term for the bytes: nothing is compared byte by byte -/
theorem code_word {y : MethodName} {bytes : ByteArray} {mx : Nat} {rt : Option FieldType} {a : Array Value} {s : State} {m : MethodId} {meth : Method} {c : Code} (h1 : s.methodNamed? y = some m) (h2 : s.vm.method? m = some meth) (h3 : meth.code = some c) (h4 : c.code = bytes)
    (h5 : (c.maxLocals == mx && c.exceptionTable.isEmpty && decide (c.maxStack ≤ mostOperands) && decide (meth.sig.returnType = rt) && !meth.locks && decide (parseMethodDescriptor y.desc = some meth.sig)) = true) : (Jvm.Cond.code y bytes mx rt).before a s = true := by
  simp only [Bool.and_eq_true, beq_iff_eq, Bool.not_eq_true', decide_eq_true_eq] at h5
  obtain ⟨⟨⟨⟨⟨g1, g2⟩, g3⟩, g4⟩, g5⟩, g6⟩ := h5
  simp [Cond.before, Cond.holds, Cond.value, h1, h2, h3, h4, g1, g2, g3, g4, g5, g6]
def isCode : Jvm.Cond → Bool
  | .code _ _ _ _ => true
  | _ => false
theorem all_split {L : List Jvm.Cond} {P : Jvm.Cond → Bool} (h1 : L.all (fun c => isCode c || P c) = true) (h2 : ∀ c ∈ L.filter isCode, P c = true) : L.all P = true := by
  refine List.all_eq_true.mpr fun c hc => ?_
  have h := List.all_eq_true.mp h1 c hc
  rcases Bool.eq_false_or_eq_true (isCode c) with hi | hi
  · exact h2 c (List.mem_filter.mpr ⟨hc, hi⟩)
  · simpa [hi] using h
set_option maxRecDepth 65536 in
theorem w_c0 : (Jvm.Cond.code x code maxLocals ret).before args0 about1 = true := code_word (m := ⟨1, 2⟩) (meth := k1m2) (c := k1c2) (by decide +kernel) rfl rfl rfl (by decide +kernel)
set_option maxRecDepth 65536 in
theorem w_c1 : (Jvm.Cond.code ({ cls := "com/example/hop1/hop1/protocol/FrameKindOfPinLaw", name := "expected", desc := "(I)Lcom/example/hop1/hop1/protocol/FrameKind;" } : Jvm.MethodName) method_2_code (1 : Nat) (Option.some (Jvm.ClassFile.FieldType.object "com/example/hop1/hop1/protocol/FrameKind"))).before args0 about1 = true := code_word (m := ⟨1, 1⟩) (meth := k1m1) (c := k1c1) (by decide +kernel) rfl rfl rfl (by decide +kernel)
set_option maxRecDepth 65536 in
theorem w_c2 : (Jvm.Cond.code ({ cls := "com/example/hop1/hop1/protocol/FrameKind", name := "of", desc := "(I)Lcom/example/hop1/hop1/protocol/FrameKind;" } : Jvm.MethodName) prog_113_method_5_code (5 : Nat) (Option.some (Jvm.ClassFile.FieldType.object "com/example/hop1/hop1/protocol/FrameKind"))).before args0 about1 = true := code_word (m := ⟨6, 0⟩) (meth := k6m0) (c := k6c0) (by decide +kernel) rfl rfl rfl (by decide +kernel)
def codes1 : List Jvm.Cond := [Jvm.Cond.code x code maxLocals ret, Jvm.Cond.code ({ cls := "com/example/hop1/hop1/protocol/FrameKindOfPinLaw", name := "expected", desc := "(I)Lcom/example/hop1/hop1/protocol/FrameKind;" } : Jvm.MethodName) method_2_code (1 : Nat) (Option.some (Jvm.ClassFile.FieldType.object "com/example/hop1/hop1/protocol/FrameKind")), Jvm.Cond.code ({ cls := "com/example/hop1/hop1/protocol/FrameKind", name := "of", desc := "(I)Lcom/example/hop1/hop1/protocol/FrameKind;" } : Jvm.MethodName) prog_113_method_5_code (5 : Nat) (Option.some (Jvm.ClassFile.FieldType.object "com/example/hop1/hop1/protocol/FrameKind"))]
set_option maxRecDepth 65536 in
theorem codes_eq : words1.filter isCode = codes1 := rfl
theorem w_codes : ∀ c ∈ words1.filter isCode, c.before args0 about1 = true := by
  rw [codes_eq]
  intro c hc
  simp only [codes1, List.mem_cons, List.not_mem_nil, or_false] at hc
  rcases hc with rfl | rfl | rfl
  · exact w_c0
  · exact w_c1
  · exact w_c2
set_option maxRecDepth 65536 in
theorem w_t1 : (words1.take 24).all (fun c => isCode c || c.before args0 about1) = true := by decide +kernel
set_option maxRecDepth 65536 in
theorem w_t2 : ((words1.drop 24).take 24).all (fun c => isCode c || c.before args0 about1) = true := by decide +kernel
set_option maxRecDepth 65536 in
theorem w_t3 : ((words1.drop 24).drop 24).all (fun c => isCode c || c.before args0 about1) = true := by decide +kernel
theorem w_tables : (allAtoms (Jvm.Cond.code x code maxLocals ret :: tables_1)).before args0 about1 = true := by
  rw [allAtoms_all]
  show words1.all (fun c => c.before args0 about1) = true
  refine all_split ?_ w_codes
  rw [← List.take_append_drop 24 words1, List.all_append, w_t1, ← List.take_append_drop 24 (words1.drop 24), List.all_append, w_t2, w_t3]
  rfl
set_option maxRecDepth 65536 in
theorem w_case : (Jvm.Cond.and given_1 narrow_1).before args0 about1 = true := by decide +kernel
theorem w_applies : (headSpec (Jvm.Cond.code x code maxLocals ret :: tables_1) room_1).applies x e0.platform about1 = true :=
  (Spec.applies_iff w_frames).mpr ⟨w_running, w_runnable, w_alone, w_named, w_hears, w_ripe, w_room, w_tables⟩
theorem atStart : AtStart classFile x code maxLocals ret World_1 tables_1 room_1 Calls_1 rest_1 Pre_1 launch0 p0 e0 about1 theMethod args0 below0 :=
  ⟨lists_1, trivial, launch0.admits_env _ _ _, launch0.least_env, fairChoices_fair.cas, fairChoices_fair.clock, w_frames, w_args, w_heap, w_applies, trivial, trivial, w_case⟩
end start1
theorem witness_1 : WitnessClaimed_1 := ⟨start1.p0, start1.e0, start1.about1, start1.theMethod, start1.args0, start1.below0, start1.atStart⟩
end Jvm.Pilot.@@N@@
