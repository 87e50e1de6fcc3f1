import JvmDerived
import JvmDerived.Pilot.@@N@@Statement
import JvmDerived.Pilot.@@N@@Code
set_option linter.unusedVariables false
set_option linter.unusedSimpArgs false
namespace Jvm.RoadKit
open Sem ClassFile Op Lib Jvm.Stand Jvm.Free Jvm.LawKit
theorem own_getDI (L : List Int32) (i : Nat) (d : Int32) : (L.map Value.int).getD i (.int d) = .int (L.getD i d) := by simp [List.getD, List.getElem?_map]
theorem own_getDJ (L : List Int64) (i : Nat) (d : Int64) : (L.map Value.long).getD i (.long d) = .long (L.getD i d) := by simp [List.getD, List.getElem?_map]
theorem own_getDD (L : List UInt64) (i : Nat) (d : UInt64) : (L.map Value.double).getD i (.double d) = .double (L.getD i d) := by simp [List.getD, List.getElem?_map]
end Jvm.RoadKit
@@BLOCK:NumsL.lean.txt@@
namespace Jvm.OwnSt
open Sem ClassFile Op Lib Jvm.Free Jvm.Stand Jvm.RoadKit
abbrev lv (x : Int64) : Slot := .val (.long x)
abbrev dv (x : UInt64) : Slot := .val (.double x)
def Gd (tb : Tables) (T : State) (m : MethodId) (c : Code) (below : List Frame) (code : ByteArray) : Prop := At T m c below ∧ tb.exec = Jvm.exec ∧ c.code = code
theorem gd {p : Program} {l : Launch} {e : Env} {R : Room} {s : State} {m : MethodId} {args : Array Value} {below : List Frame} {meth : Method} {c : Code} {T : State} {locs : List Loc} {cells slots : Nat} {code : ByteArray} (X : Stand p l e R s m args below meth c T locs cells slots) (hx : p.tables.exec = Jvm.exec) (hby : c.code = code) : Gd p.tables T m c below code := ⟨X.here, hx, hby⟩
section Steps
variable {tb : Tables} [Ours tb] {e : Env} {below : List Frame} {T target : State} {m : MethodId} {c : Code} {pc : Nat} {L L' : Array Slot} {S : List Value} {code : ByteArray}
theorem miload (pc' : Nat) (G : Gd tb T m c below code) {k : Nat} {v : Int32} (hd : decode code pc = .ok (.iload k, 2)) (hl : L[k]? = some (.val (.int v))) (hp : pc + 2 = pc') (hr : Steps tb e below (T.setTop (mkF m pc' L (.int v :: S))) target) : Steps tb e below (T.setTop (mkF m pc L S)) target := by
  subst hp; exact XS.iload G.1 G.2.1 rfl (hb G.2.2 hd) hl hr
theorem miloadN (pc' : Nat) (G : Gd tb T m c below code) {k : Fin 4} {v : Int32} (hd : decode code pc = .ok (.iload_n k, 1)) (hl : L[k.val]? = some (.val (.int v))) (hp : pc + 1 = pc') (hr : Steps tb e below (T.setTop (mkF m pc' L (.int v :: S))) target) : Steps tb e below (T.setTop (mkF m pc L S)) target := by
  subst hp; exact XS.iloadN G.1 G.2.1 rfl (hb G.2.2 hd) hl hr
theorem mistore (pc' : Nat) (G : Gd tb T m c below code) {k : Nat} {x : Int32} (hd : decode code pc = .ok (.istore k, 2)) (L' : Array Slot) (hl : storeLocals L k (.int x) = some L') (hp : pc + 2 = pc') (hr : Steps tb e below (T.setTop (mkF m pc' L' S)) target) : Steps tb e below (T.setTop (mkF m pc L (.int x :: S))) target := by
  subst hp; exact XS.istore G.1 G.2.1 rfl (hb G.2.2 hd) rfl hl hr
theorem mistoreN (pc' : Nat) (G : Gd tb T m c below code) {k : Fin 4} {x : Int32} (hd : decode code pc = .ok (.istore_n k, 1)) (L' : Array Slot) (hl : storeLocals L k.val (.int x) = some L') (hp : pc + 1 = pc') (hr : Steps tb e below (T.setTop (mkF m pc' L' S)) target) : Steps tb e below (T.setTop (mkF m pc L (.int x :: S))) target := by
  subst hp; exact XS.istoreN G.1 G.2.1 rfl (hb G.2.2 hd) rfl hl hr
theorem mlload (pc' : Nat) (G : Gd tb T m c below code) {k : Nat} {v : Int64} (hd : decode code pc = .ok (.lload k, 2)) (hl : L[k]? = some (.val (.long v))) (hp : pc + 2 = pc') (hr : Steps tb e below (T.setTop (mkF m pc' L (.long v :: S))) target) : Steps tb e below (T.setTop (mkF m pc L S)) target := by
  subst hp; exact XS.lload G.1 G.2.1 rfl (hb G.2.2 hd) hl hr
theorem mlloadN (pc' : Nat) (G : Gd tb T m c below code) {k : Fin 4} {v : Int64} (hd : decode code pc = .ok (.lload_n k, 1)) (hl : L[k.val]? = some (.val (.long v))) (hp : pc + 1 = pc') (hr : Steps tb e below (T.setTop (mkF m pc' L (.long v :: S))) target) : Steps tb e below (T.setTop (mkF m pc L S)) target := by
  subst hp; exact XS.lloadN G.1 G.2.1 rfl (hb G.2.2 hd) hl hr
theorem mlstore (pc' : Nat) (G : Gd tb T m c below code) {k : Nat} {x : Int64} (hd : decode code pc = .ok (.lstore k, 2)) (L' : Array Slot) (hl : storeLocals L k (.long x) = some L') (hp : pc + 2 = pc') (hr : Steps tb e below (T.setTop (mkF m pc' L' S)) target) : Steps tb e below (T.setTop (mkF m pc L (.long x :: S))) target := by
  subst hp; exact XS.lstore G.1 G.2.1 rfl (hb G.2.2 hd) rfl hl hr
theorem mlstoreN (pc' : Nat) (G : Gd tb T m c below code) {k : Fin 4} {x : Int64} (hd : decode code pc = .ok (.lstore_n k, 1)) (L' : Array Slot) (hl : storeLocals L k.val (.long x) = some L') (hp : pc + 1 = pc') (hr : Steps tb e below (T.setTop (mkF m pc' L' S)) target) : Steps tb e below (T.setTop (mkF m pc L (.long x :: S))) target := by
  subst hp; exact XS.lstoreN G.1 G.2.1 rfl (hb G.2.2 hd) rfl hl hr
theorem mdload (pc' : Nat) (G : Gd tb T m c below code) {k : Nat} {v : UInt64} (hd : decode code pc = .ok (.dload k, 2)) (hl : L[k]? = some (.val (.double v))) (hp : pc + 2 = pc') (hr : Steps tb e below (T.setTop (mkF m pc' L (.double v :: S))) target) : Steps tb e below (T.setTop (mkF m pc L S)) target := by
  subst hp; exact XS.dload G.1 G.2.1 rfl (hb G.2.2 hd) hl hr
theorem mdloadN (pc' : Nat) (G : Gd tb T m c below code) {k : Fin 4} {v : UInt64} (hd : decode code pc = .ok (.dload_n k, 1)) (hl : L[k.val]? = some (.val (.double v))) (hp : pc + 1 = pc') (hr : Steps tb e below (T.setTop (mkF m pc' L (.double v :: S))) target) : Steps tb e below (T.setTop (mkF m pc L S)) target := by
  subst hp; exact XS.dloadN G.1 G.2.1 rfl (hb G.2.2 hd) hl hr
theorem mdstore (pc' : Nat) (G : Gd tb T m c below code) {k : Nat} {x : UInt64} (hd : decode code pc = .ok (.dstore k, 2)) (L' : Array Slot) (hl : storeLocals L k (.double x) = some L') (hp : pc + 2 = pc') (hr : Steps tb e below (T.setTop (mkF m pc' L' S)) target) : Steps tb e below (T.setTop (mkF m pc L (.double x :: S))) target := by
  subst hp; exact XS.dstore G.1 G.2.1 rfl (hb G.2.2 hd) rfl hl hr
theorem mdstoreN (pc' : Nat) (G : Gd tb T m c below code) {k : Fin 4} {x : UInt64} (hd : decode code pc = .ok (.dstore_n k, 1)) (L' : Array Slot) (hl : storeLocals L k.val (.double x) = some L') (hp : pc + 1 = pc') (hr : Steps tb e below (T.setTop (mkF m pc' L' S)) target) : Steps tb e below (T.setTop (mkF m pc L (.double x :: S))) target := by
  subst hp; exact XS.dstoreN G.1 G.2.1 rfl (hb G.2.2 hd) rfl hl hr
theorem maload (pc' : Nat) (G : Gd tb T m c below code) {k : Nat} {v : Value} (hd : decode code pc = .ok (.aload k, 2)) (hl : L[k]? = some (.val v)) (hv : v.isRef = true) (hp : pc + 2 = pc') (hr : Steps tb e below (T.setTop (mkF m pc' L (v :: S))) target) : Steps tb e below (T.setTop (mkF m pc L S)) target := by
  subst hp; exact XS.aload G.1 G.2.1 rfl (hb G.2.2 hd) hl hv hr
theorem maloadN (pc' : Nat) (G : Gd tb T m c below code) {k : Fin 4} {v : Value} (hd : decode code pc = .ok (.aload_n k, 1)) (hl : L[k.val]? = some (.val v)) (hv : v.isRef = true) (hp : pc + 1 = pc') (hr : Steps tb e below (T.setTop (mkF m pc' L (v :: S))) target) : Steps tb e below (T.setTop (mkF m pc L S)) target := by
  subst hp; exact XS.aloadN G.1 G.2.1 rfl (hb G.2.2 hd) hl hv hr
theorem mastore (pc' : Nat) (G : Gd tb T m c below code) {k : Nat} {x : Value} (hd : decode code pc = .ok (.astore k, 2)) (hv : x.isRef = true) (L' : Array Slot) (hl : storeLocals L k x = some L') (hp : pc + 2 = pc') (hr : Steps tb e below (T.setTop (mkF m pc' L' S)) target) : Steps tb e below (T.setTop (mkF m pc L (x :: S))) target := by
  subst hp; exact XS.astore G.1 G.2.1 rfl (hb G.2.2 hd) rfl hv hl hr
theorem mastoreN (pc' : Nat) (G : Gd tb T m c below code) {k : Fin 4} {x : Value} (hd : decode code pc = .ok (.astore_n k, 1)) (hv : x.isRef = true) (L' : Array Slot) (hl : storeLocals L k.val x = some L') (hp : pc + 1 = pc') (hr : Steps tb e below (T.setTop (mkF m pc' L' S)) target) : Steps tb e below (T.setTop (mkF m pc L (x :: S))) target := by
  subst hp; exact XS.astoreN G.1 G.2.1 rfl (hb G.2.2 hd) rfl hv hl hr
theorem miconst (pc' : Nat) (G : Gd tb T m c below code) {i : Int} {v : Int32} (hd : decode code pc = .ok (.iconst i, 1)) (hv : Int32.ofInt i = v) (hp : pc + 1 = pc') (hr : Steps tb e below (T.setTop (mkF m pc' L (.int v :: S))) target) : Steps tb e below (T.setTop (mkF m pc L S)) target := by
  subst hp; subst hv; exact XS.iconst G.1 G.2.1 rfl (hb G.2.2 hd) hr
theorem mbipush (pc' : Nat) (G : Gd tb T m c below code) {i : Int} {v : Int32} (hd : decode code pc = .ok (.bipush i, 2)) (hv : (Int8.ofInt i).toInt32 = v) (hp : pc + 2 = pc') (hr : Steps tb e below (T.setTop (mkF m pc' L (.int v :: S))) target) : Steps tb e below (T.setTop (mkF m pc L S)) target := by
  subst hp; subst hv; exact XS.bipush G.1 G.2.1 rfl (hb G.2.2 hd) hr
theorem msipush (pc' : Nat) (G : Gd tb T m c below code) {i : Int} {v : Int32} (hd : decode code pc = .ok (.sipush i, 3)) (hv : (Int16.ofInt i).toInt32 = v) (hp : pc + 3 = pc') (hr : Steps tb e below (T.setTop (mkF m pc' L (.int v :: S))) target) : Steps tb e below (T.setTop (mkF m pc L S)) target := by
  subst hp; subst hv; exact XS.sipush G.1 G.2.1 rfl (hb G.2.2 hd) hr
theorem mlconst (pc' : Nat) (G : Gd tb T m c below code) {k : Fin 2} {v : Int64} (hd : decode code pc = .ok (.lconst k, 1)) (hv : Int64.ofNat k = v) (hp : pc + 1 = pc') (hr : Steps tb e below (T.setTop (mkF m pc' L (.long v :: S))) target) : Steps tb e below (T.setTop (mkF m pc L S)) target := by
  subst hp; subst hv; exact XS.lconst G.1 G.2.1 rfl (hb G.2.2 hd) hr
theorem mdconst0 (pc' : Nat) (G : Gd tb T m c below code) {v : UInt64} (hd : decode code pc = .ok (.dconst 0, 1)) (hv : FP.dconst0 = v) (hp : pc + 1 = pc') (hr : Steps tb e below (T.setTop (mkF m pc' L (.double v :: S))) target) : Steps tb e below (T.setTop (mkF m pc L S)) target := by
  subst hp; exact XS.dconst0 G.1 G.2.1 rfl (hb G.2.2 hd) hv hr
theorem mdconst1 (pc' : Nat) (G : Gd tb T m c below code) {v : UInt64} (hd : decode code pc = .ok (.dconst 1, 1)) (hv : FP.dconst1 = v) (hp : pc + 1 = pc') (hr : Steps tb e below (T.setTop (mkF m pc' L (.double v :: S))) target) : Steps tb e below (T.setTop (mkF m pc L S)) target := by
  subst hp; exact XS.dconst1 G.1 G.2.1 rfl (hb G.2.2 hd) hv hr
theorem maconst_null (pc' : Nat) (G : Gd tb T m c below code)  (hd : decode code pc = .ok (.aconst_null, 1)) (hp : pc + 1 = pc') (hr : Steps tb e below (T.setTop (mkF m pc' L (.null :: S))) target) : Steps tb e below (T.setTop (mkF m pc L S)) target := by
  subst hp; exact XS.aconstNull G.1 G.2.1 rfl (hb G.2.2 hd)  hr
theorem miadd (pc' : Nat) (G : Gd tb T m c below code) {x : Int32} {y : Int32} {v : Int32} (hd : decode code pc = .ok (.iadd, 1)) (hv : x + y = v) (hp : pc + 1 = pc') (hr : Steps tb e below (T.setTop (mkF m pc' L (.int v :: S))) target) : Steps tb e below (T.setTop (mkF m pc L (.int y :: .int x :: S))) target := by
  subst hp; subst hv; exact XS.iadd G.1 G.2.1 rfl (hb G.2.2 hd) rfl  hr
theorem misub (pc' : Nat) (G : Gd tb T m c below code) {x : Int32} {y : Int32} {v : Int32} (hd : decode code pc = .ok (.isub, 1)) (hv : x - y = v) (hp : pc + 1 = pc') (hr : Steps tb e below (T.setTop (mkF m pc' L (.int v :: S))) target) : Steps tb e below (T.setTop (mkF m pc L (.int y :: .int x :: S))) target := by
  subst hp; subst hv; exact XS.isub G.1 G.2.1 rfl (hb G.2.2 hd) rfl  hr
theorem mimul (pc' : Nat) (G : Gd tb T m c below code) {x : Int32} {y : Int32} {v : Int32} (hd : decode code pc = .ok (.imul, 1)) (hv : x * y = v) (hp : pc + 1 = pc') (hr : Steps tb e below (T.setTop (mkF m pc' L (.int v :: S))) target) : Steps tb e below (T.setTop (mkF m pc L (.int y :: .int x :: S))) target := by
  subst hp; subst hv; exact XS.imul G.1 G.2.1 rfl (hb G.2.2 hd) rfl  hr
theorem miand (pc' : Nat) (G : Gd tb T m c below code) {x : Int32} {y : Int32} {v : Int32} (hd : decode code pc = .ok (.iand, 1)) (hv : x &&& y = v) (hp : pc + 1 = pc') (hr : Steps tb e below (T.setTop (mkF m pc' L (.int v :: S))) target) : Steps tb e below (T.setTop (mkF m pc L (.int y :: .int x :: S))) target := by
  subst hp; subst hv; exact XS.iand G.1 G.2.1 rfl (hb G.2.2 hd) rfl  hr
theorem mior (pc' : Nat) (G : Gd tb T m c below code) {x : Int32} {y : Int32} {v : Int32} (hd : decode code pc = .ok (.ior, 1)) (hv : x ||| y = v) (hp : pc + 1 = pc') (hr : Steps tb e below (T.setTop (mkF m pc' L (.int v :: S))) target) : Steps tb e below (T.setTop (mkF m pc L (.int y :: .int x :: S))) target := by
  subst hp; subst hv; exact XS.ior G.1 G.2.1 rfl (hb G.2.2 hd) rfl  hr
theorem mixor (pc' : Nat) (G : Gd tb T m c below code) {x : Int32} {y : Int32} {v : Int32} (hd : decode code pc = .ok (.ixor, 1)) (hv : x ^^^ y = v) (hp : pc + 1 = pc') (hr : Steps tb e below (T.setTop (mkF m pc' L (.int v :: S))) target) : Steps tb e below (T.setTop (mkF m pc L (.int y :: .int x :: S))) target := by
  subst hp; subst hv; exact XS.ixor G.1 G.2.1 rfl (hb G.2.2 hd) rfl  hr
theorem midiv (pc' : Nat) (G : Gd tb T m c below code) {x : Int32} {y : Int32} {v : Int32} (hd : decode code pc = .ok (.idiv, 1)) (hz : y ≠ 0) (hv : x / y = v) (hp : pc + 1 = pc') (hr : Steps tb e below (T.setTop (mkF m pc' L (.int v :: S))) target) : Steps tb e below (T.setTop (mkF m pc L (.int y :: .int x :: S))) target := by
  subst hp; subst hv; exact XS.idiv G.1 G.2.1 rfl (hb G.2.2 hd) rfl hz hr
theorem mladd (pc' : Nat) (G : Gd tb T m c below code) {x : Int64} {y : Int64} {v : Int64} (hd : decode code pc = .ok (.ladd, 1)) (hv : x + y = v) (hp : pc + 1 = pc') (hr : Steps tb e below (T.setTop (mkF m pc' L (.long v :: S))) target) : Steps tb e below (T.setTop (mkF m pc L (.long y :: .long x :: S))) target := by
  subst hp; subst hv; exact XS.ladd G.1 G.2.1 rfl (hb G.2.2 hd) rfl  hr
theorem mlsub (pc' : Nat) (G : Gd tb T m c below code) {x : Int64} {y : Int64} {v : Int64} (hd : decode code pc = .ok (.lsub, 1)) (hv : x - y = v) (hp : pc + 1 = pc') (hr : Steps tb e below (T.setTop (mkF m pc' L (.long v :: S))) target) : Steps tb e below (T.setTop (mkF m pc L (.long y :: .long x :: S))) target := by
  subst hp; subst hv; exact XS.lsub G.1 G.2.1 rfl (hb G.2.2 hd) rfl  hr
theorem mlmul (pc' : Nat) (G : Gd tb T m c below code) {x : Int64} {y : Int64} {v : Int64} (hd : decode code pc = .ok (.lmul, 1)) (hv : x * y = v) (hp : pc + 1 = pc') (hr : Steps tb e below (T.setTop (mkF m pc' L (.long v :: S))) target) : Steps tb e below (T.setTop (mkF m pc L (.long y :: .long x :: S))) target := by
  subst hp; subst hv; exact XS.lmul G.1 G.2.1 rfl (hb G.2.2 hd) rfl  hr
theorem mland (pc' : Nat) (G : Gd tb T m c below code) {x : Int64} {y : Int64} {v : Int64} (hd : decode code pc = .ok (.land, 1)) (hv : x &&& y = v) (hp : pc + 1 = pc') (hr : Steps tb e below (T.setTop (mkF m pc' L (.long v :: S))) target) : Steps tb e below (T.setTop (mkF m pc L (.long y :: .long x :: S))) target := by
  subst hp; subst hv; exact XS.land G.1 G.2.1 rfl (hb G.2.2 hd) rfl  hr
theorem mlor (pc' : Nat) (G : Gd tb T m c below code) {x : Int64} {y : Int64} {v : Int64} (hd : decode code pc = .ok (.lor, 1)) (hv : x ||| y = v) (hp : pc + 1 = pc') (hr : Steps tb e below (T.setTop (mkF m pc' L (.long v :: S))) target) : Steps tb e below (T.setTop (mkF m pc L (.long y :: .long x :: S))) target := by
  subst hp; subst hv; exact XS.lor G.1 G.2.1 rfl (hb G.2.2 hd) rfl  hr
theorem mlxor (pc' : Nat) (G : Gd tb T m c below code) {x : Int64} {y : Int64} {v : Int64} (hd : decode code pc = .ok (.lxor, 1)) (hv : x ^^^ y = v) (hp : pc + 1 = pc') (hr : Steps tb e below (T.setTop (mkF m pc' L (.long v :: S))) target) : Steps tb e below (T.setTop (mkF m pc L (.long y :: .long x :: S))) target := by
  subst hp; subst hv; exact XS.lxor G.1 G.2.1 rfl (hb G.2.2 hd) rfl  hr
theorem mldiv (pc' : Nat) (G : Gd tb T m c below code) {x : Int64} {y : Int64} {v : Int64} (hd : decode code pc = .ok (.ldiv, 1)) (hz : y ≠ 0) (hv : x / y = v) (hp : pc + 1 = pc') (hr : Steps tb e below (T.setTop (mkF m pc' L (.long v :: S))) target) : Steps tb e below (T.setTop (mkF m pc L (.long y :: .long x :: S))) target := by
  subst hp; subst hv; exact XS.ldiv G.1 G.2.1 rfl (hb G.2.2 hd) rfl hz hr
theorem mlrem (pc' : Nat) (G : Gd tb T m c below code) {x : Int64} {y : Int64} {v : Int64} (hd : decode code pc = .ok (.lrem, 1)) (hz : y ≠ 0) (hv : x - (x / y) * y = v) (hp : pc + 1 = pc') (hr : Steps tb e below (T.setTop (mkF m pc' L (.long v :: S))) target) : Steps tb e below (T.setTop (mkF m pc L (.long y :: .long x :: S))) target := by
  subst hp; subst hv; exact XS.lrem G.1 G.2.1 rfl (hb G.2.2 hd) rfl hz hr
theorem mirem (pc' : Nat) (G : Gd tb T m c below code) {x : Int32} {y : Int32} {v : Int32} (hd : decode code pc = .ok (.irem, 1)) (hz : y ≠ 0) (hv : x - (x / y) * y = v) (hp : pc + 1 = pc') (hr : Steps tb e below (T.setTop (mkF m pc' L (.int v :: S))) target) : Steps tb e below (T.setTop (mkF m pc L (.int y :: .int x :: S))) target := by
  subst hp; subst hv; exact XS.irem G.1 G.2.1 rfl (hb G.2.2 hd) rfl hz hr
theorem mishl (pc' : Nat) (G : Gd tb T m c below code) {x : Int32} {y : Int32} {v : Int32} (hd : decode code pc = .ok (.ishl, 1)) (hv : x <<< (y &&& 31) = v) (hp : pc + 1 = pc') (hr : Steps tb e below (T.setTop (mkF m pc' L (.int v :: S))) target) : Steps tb e below (T.setTop (mkF m pc L (.int y :: .int x :: S))) target := by
  subst hp; subst hv; exact XS.ishl G.1 G.2.1 rfl (hb G.2.2 hd) rfl  hr
theorem mishr (pc' : Nat) (G : Gd tb T m c below code) {x : Int32} {y : Int32} {v : Int32} (hd : decode code pc = .ok (.ishr, 1)) (hv : x >>> (y &&& 31) = v) (hp : pc + 1 = pc') (hr : Steps tb e below (T.setTop (mkF m pc' L (.int v :: S))) target) : Steps tb e below (T.setTop (mkF m pc L (.int y :: .int x :: S))) target := by
  subst hp; subst hv; exact XS.ishr G.1 G.2.1 rfl (hb G.2.2 hd) rfl  hr
theorem miushr (pc' : Nat) (G : Gd tb T m c below code) {x : Int32} {y : Int32} {v : Int32} (hd : decode code pc = .ok (.iushr, 1)) (hv : (x.toUInt32 >>> (y &&& 31).toUInt32).toInt32 = v) (hp : pc + 1 = pc') (hr : Steps tb e below (T.setTop (mkF m pc' L (.int v :: S))) target) : Steps tb e below (T.setTop (mkF m pc L (.int y :: .int x :: S))) target := by
  subst hp; subst hv; exact XS.iushr G.1 G.2.1 rfl (hb G.2.2 hd) rfl  hr
theorem mlshl (pc' : Nat) (G : Gd tb T m c below code) {x : Int64} {y : Int32} {v : Int64} (hd : decode code pc = .ok (.lshl, 1)) (hv : x <<< (y &&& 0x3f).toInt64 = v) (hp : pc + 1 = pc') (hr : Steps tb e below (T.setTop (mkF m pc' L (.long v :: S))) target) : Steps tb e below (T.setTop (mkF m pc L (.int y :: .long x :: S))) target := by
  subst hp; subst hv; exact XS.lshl G.1 G.2.1 rfl (hb G.2.2 hd) rfl  hr
theorem mlshr (pc' : Nat) (G : Gd tb T m c below code) {x : Int64} {y : Int32} {v : Int64} (hd : decode code pc = .ok (.lshr, 1)) (hv : x >>> (y &&& 0x3f).toInt64 = v) (hp : pc + 1 = pc') (hr : Steps tb e below (T.setTop (mkF m pc' L (.long v :: S))) target) : Steps tb e below (T.setTop (mkF m pc L (.int y :: .long x :: S))) target := by
  subst hp; subst hv; exact XS.lshr G.1 G.2.1 rfl (hb G.2.2 hd) rfl  hr
theorem mlushr (pc' : Nat) (G : Gd tb T m c below code) {x : Int64} {y : Int32} {v : Int64} (hd : decode code pc = .ok (.lushr, 1)) (hv : (x.toUInt64 >>> (y &&& 0x3f).toInt64.toUInt64).toInt64 = v) (hp : pc + 1 = pc') (hr : Steps tb e below (T.setTop (mkF m pc' L (.long v :: S))) target) : Steps tb e below (T.setTop (mkF m pc L (.int y :: .long x :: S))) target := by
  subst hp; subst hv; exact XS.lushr G.1 G.2.1 rfl (hb G.2.2 hd) rfl  hr
theorem mineg (pc' : Nat) (G : Gd tb T m c below code) {x : Int32} (hd : decode code pc = .ok (.ineg, 1)) (hp : pc + 1 = pc') (hr : Steps tb e below (T.setTop (mkF m pc' L (.int (-x) :: S))) target) : Steps tb e below (T.setTop (mkF m pc L (.int x :: S))) target := by
  subst hp; exact XS.ineg G.1 G.2.1 rfl (hb G.2.2 hd) rfl hr
theorem mlneg (pc' : Nat) (G : Gd tb T m c below code) {x : Int64} (hd : decode code pc = .ok (.lneg, 1)) (hp : pc + 1 = pc') (hr : Steps tb e below (T.setTop (mkF m pc' L (.long (-x) :: S))) target) : Steps tb e below (T.setTop (mkF m pc L (.long x :: S))) target := by
  subst hp; exact XS.lneg G.1 G.2.1 rfl (hb G.2.2 hd) rfl hr
theorem mi2l (pc' : Nat) (G : Gd tb T m c below code) {x : Int32} (hd : decode code pc = .ok (.i2l, 1)) (hp : pc + 1 = pc') (hr : Steps tb e below (T.setTop (mkF m pc' L (.long (x.toInt64) :: S))) target) : Steps tb e below (T.setTop (mkF m pc L (.int x :: S))) target := by
  subst hp; exact XS.i2l G.1 G.2.1 rfl (hb G.2.2 hd) rfl hr
theorem ml2i (pc' : Nat) (G : Gd tb T m c below code) {x : Int64} (hd : decode code pc = .ok (.l2i, 1)) (hp : pc + 1 = pc') (hr : Steps tb e below (T.setTop (mkF m pc' L (.int (x.toInt32) :: S))) target) : Steps tb e below (T.setTop (mkF m pc L (.long x :: S))) target := by
  subst hp; exact XS.l2i G.1 G.2.1 rfl (hb G.2.2 hd) rfl hr
theorem mi2d (pc' : Nat) (G : Gd tb T m c below code) {x : Int32} (hd : decode code pc = .ok (.i2d, 1)) (hp : pc + 1 = pc') (hr : Steps tb e below (T.setTop (mkF m pc' L (.double (FP.i2d x) :: S))) target) : Steps tb e below (T.setTop (mkF m pc L (.int x :: S))) target := by
  subst hp; exact XS.i2dS G.1 G.2.1 rfl (hb G.2.2 hd) rfl rfl hr
theorem ml2d (pc' : Nat) (G : Gd tb T m c below code) {x : Int64} (hd : decode code pc = .ok (.l2d, 1)) (hp : pc + 1 = pc') (hr : Steps tb e below (T.setTop (mkF m pc' L (.double (FP.l2d x) :: S))) target) : Steps tb e below (T.setTop (mkF m pc L (.long x :: S))) target := by
  subst hp; exact XS.l2dS G.1 G.2.1 rfl (hb G.2.2 hd) rfl rfl hr
theorem mdneg (pc' : Nat) (G : Gd tb T m c below code) {x : UInt64} (hd : decode code pc = .ok (.dneg, 1)) (hp : pc + 1 = pc') (hr : Steps tb e below (T.setTop (mkF m pc' L (.double (FP.dneg x) :: S))) target) : Steps tb e below (T.setTop (mkF m pc L (.double x :: S))) target := by
  subst hp; exact XS.dnegS G.1 G.2.1 rfl (hb G.2.2 hd) rfl rfl hr
theorem md2i (pc' : Nat) (G : Gd tb T m c below code) {x : UInt64} (hd : decode code pc = .ok (.d2i, 1)) (hp : pc + 1 = pc') (hr : Steps tb e below (T.setTop (mkF m pc' L (.int (FP.d2i x) :: S))) target) : Steps tb e below (T.setTop (mkF m pc L (.double x :: S))) target := by
  subst hp; exact XS.d2iS G.1 G.2.1 rfl (hb G.2.2 hd) rfl rfl hr
theorem md2l (pc' : Nat) (G : Gd tb T m c below code) {x : UInt64} (hd : decode code pc = .ok (.d2l, 1)) (hp : pc + 1 = pc') (hr : Steps tb e below (T.setTop (mkF m pc' L (.long (FP.d2l x) :: S))) target) : Steps tb e below (T.setTop (mkF m pc L (.double x :: S))) target := by
  subst hp; exact XS.d2lS G.1 G.2.1 rfl (hb G.2.2 hd) rfl rfl hr
theorem mdadd (pc' : Nat) (G : Gd tb T m c below code) {x y : UInt64} (hd : decode code pc = .ok (.dadd, 1)) (hn : Jvm.Free.Fl.NoNaN64 (FP.dadd x y)) (hp : pc + 1 = pc') (hr : Steps tb e below (T.setTop (mkF m pc' L (.double (FP.dadd x y) :: S))) target) : Steps tb e below (T.setTop (mkF m pc L (.double y :: .double x :: S))) target := by
  subst hp; exact XS.daddS G.1 G.2.1 rfl (hb G.2.2 hd) rfl hn rfl hr
theorem mdsub (pc' : Nat) (G : Gd tb T m c below code) {x y : UInt64} (hd : decode code pc = .ok (.dsub, 1)) (hn : Jvm.Free.Fl.NoNaN64 (FP.dsub x y)) (hp : pc + 1 = pc') (hr : Steps tb e below (T.setTop (mkF m pc' L (.double (FP.dsub x y) :: S))) target) : Steps tb e below (T.setTop (mkF m pc L (.double y :: .double x :: S))) target := by
  subst hp; exact XS.dsubS G.1 G.2.1 rfl (hb G.2.2 hd) rfl hn rfl hr
theorem mdmul (pc' : Nat) (G : Gd tb T m c below code) {x y : UInt64} (hd : decode code pc = .ok (.dmul, 1)) (hn : Jvm.Free.Fl.NoNaN64 (FP.dmul x y)) (hp : pc + 1 = pc') (hr : Steps tb e below (T.setTop (mkF m pc' L (.double (FP.dmul x y) :: S))) target) : Steps tb e below (T.setTop (mkF m pc L (.double y :: .double x :: S))) target := by
  subst hp; exact XS.dmulS G.1 G.2.1 rfl (hb G.2.2 hd) rfl hn rfl hr
theorem mddiv (pc' : Nat) (G : Gd tb T m c below code) {x y : UInt64} (hd : decode code pc = .ok (.ddiv, 1)) (hn : Jvm.Free.Fl.NoNaN64 (FP.ddiv x y)) (hp : pc + 1 = pc') (hr : Steps tb e below (T.setTop (mkF m pc' L (.double (FP.ddiv x y) :: S))) target) : Steps tb e below (T.setTop (mkF m pc L (.double y :: .double x :: S))) target := by
  subst hp; exact XS.ddivS G.1 G.2.1 rfl (hb G.2.2 hd) rfl hn rfl hr
theorem mdcmp (pc' : Nat) (G : Gd tb T m c below code) {o : CmpOp} {x y : UInt64} (hd : decode code pc = .ok (.dcmp o, 1)) (hp : pc + 1 = pc') (hr : Steps tb e below (T.setTop (mkF m pc' L (.int (cmpValue (FP.dcmp x y) o) :: S))) target) : Steps tb e below (T.setTop (mkF m pc L (.double y :: .double x :: S))) target := by
  subst hp; exact XS.dcmpS G.1 G.2.1 rfl (hb G.2.2 hd) rfl rfl hr
theorem mlcmp (pc' : Nat) (G : Gd tb T m c below code) {x y : Int64} (hd : decode code pc = .ok (.lcmp, 1)) (hp : pc + 1 = pc') (hr : Steps tb e below (T.setTop (mkF m pc' L (.int (lcmpW x y) :: S))) target) : Steps tb e below (T.setTop (mkF m pc L (.long y :: .long x :: S))) target := by
  subst hp; exact XS.lcmp G.1 G.2.1 rfl (hb G.2.2 hd) rfl hr
theorem mdup (pc' : Nat) (G : Gd tb T m c below code) {x : Value} (hd : decode code pc = .ok (.dup, 1)) (hc : x.category = 1) (hp : pc + 1 = pc') (hr : Steps tb e below (T.setTop (mkF m pc' L (x :: x :: S))) target) : Steps tb e below (T.setTop (mkF m pc L (x :: S))) target := by
  subst hp; exact XS.dup G.1 G.2.1 rfl (hb G.2.2 hd) rfl hc hr
theorem mpop (pc' : Nat) (G : Gd tb T m c below code) {x : Value} (hd : decode code pc = .ok (.pop, 1)) (hc : x.category = 1) (hp : pc + 1 = pc') (hr : Steps tb e below (T.setTop (mkF m pc' L S)) target) : Steps tb e below (T.setTop (mkF m pc L (x :: S))) target := by
  subst hp; exact XS.pop G.1 G.2.1 rfl (hb G.2.2 hd) rfl hc hr
theorem mdup_x1 (pc' : Nat) (G : Gd tb T m c below code) {x y : Value} (hd : decode code pc = .ok (.dup_x1, 1)) (hc : x.category = 1) (hc' : y.category = 1) (hp : pc + 1 = pc') (hr : Steps tb e below (T.setTop (mkF m pc' L (x :: y :: x :: S))) target) : Steps tb e below (T.setTop (mkF m pc L (x :: y :: S))) target := by
  subst hp; exact XS.dupX1 G.1 G.2.1 rfl (hb G.2.2 hd) rfl hc hc' hr
theorem miinc (pc' : Nat) (G : Gd tb T m c below code) {k : Nat} {i : Int} {x : Int32} (hd : decode code pc = .ok (.iinc k i, 3)) (hl : L[k]? = some (.val (.int x))) (L' : Array Slot) (hl' : storeLocals L k (.int (x + Int32.ofInt i)) = some L') (hp : pc + 3 = pc') (hr : Steps tb e below (T.setTop (mkF m pc' L' S)) target) : Steps tb e below (T.setTop (mkF m pc L S)) target := by
  subst hp; exact XS.iinc G.1 G.2.1 rfl (hb G.2.2 hd) hl hl' hr
theorem mgoto (pc' : Nat) (G : Gd tb T m c below code) {o : Int} (hd : decode code pc = .ok (.goto o, 3)) (ho : 0 ≤ (pc : Int) + o) (hp : ((pc : Int) + o).toNat = pc') (hr : Steps tb e below (T.setTop (mkF m pc' L S)) target) : Steps tb e below (T.setTop (mkF m pc L S)) target := XS.goto G.1 G.2.1 rfl rfl (hb G.2.2 hd) ho hp hr
theorem mifYes (pc' : Nat) (G : Gd tb T m c below code) {cd : ClassFile.Cond} {o : Int} {x : Int32} (hd : decode code pc = .ok (.ifCond cd o, 3)) (hc : ifCond.holds cd x = true) (ho : 0 ≤ (pc : Int) + o) (hp : ((pc : Int) + o).toNat = pc') (hr : Steps tb e below (T.setTop (mkF m pc' L S)) target) : Steps tb e below (T.setTop (mkF m pc L (.int x :: S))) target := XS.ifYes G.1 G.2.1 rfl rfl (hb G.2.2 hd) rfl hc ho hp hr
theorem mifNo (pc' : Nat) (G : Gd tb T m c below code) {cd : ClassFile.Cond} {o : Int} {x : Int32} (hd : decode code pc = .ok (.ifCond cd o, 3)) (hc : ifCond.holds cd x = false) (hp : pc + 3 = pc') (hr : Steps tb e below (T.setTop (mkF m pc' L S)) target) : Steps tb e below (T.setTop (mkF m pc L (.int x :: S))) target := by
  subst hp; exact XS.ifNo G.1 G.2.1 rfl (hb G.2.2 hd) rfl hc hr
theorem micmpYes (pc' : Nat) (G : Gd tb T m c below code) {cd : ClassFile.Cond} {o : Int} {x y : Int32} (hd : decode code pc = .ok (.if_icmp cd o, 3)) (hc : if_icmp.holds cd x y = true) (ho : 0 ≤ (pc : Int) + o) (hp : ((pc : Int) + o).toNat = pc') (hr : Steps tb e below (T.setTop (mkF m pc' L S)) target) : Steps tb e below (T.setTop (mkF m pc L (.int y :: .int x :: S))) target := XS.icmpYes G.1 G.2.1 rfl rfl (hb G.2.2 hd) rfl hc ho hp hr
theorem micmpNo (pc' : Nat) (G : Gd tb T m c below code) {cd : ClassFile.Cond} {o : Int} {x y : Int32} (hd : decode code pc = .ok (.if_icmp cd o, 3)) (hc : if_icmp.holds cd x y = false) (hp : pc + 3 = pc') (hr : Steps tb e below (T.setTop (mkF m pc' L S)) target) : Steps tb e below (T.setTop (mkF m pc L (.int y :: .int x :: S))) target := by
  subst hp; exact XS.icmpNo G.1 G.2.1 rfl (hb G.2.2 hd) rfl hc hr
end Steps
section Arrays
variable {p : Program} {l : Launch} {e : Env} {R : Room} {s : State} {m : MethodId} {args : Array Value} {below : List Frame} {meth : Method} {c : Code} {T : State} {locs : List Loc} {cells slots : Nat} {Z : State} {h : Heap} {a : Addr} {k : ClassId} {z j : Int32} {vs : List Value} {dv : Value} {pc : Nat} {L : Array Slot} {S : List Value} {code : ByteArray} {target : State}
theorem wd {ws : List Cond} {a0 : Array Value} (hw : ∀ d ∈ ws, d.before a0 Z = true) (i : Nat) {d : Cond} (q : ws[i]? = some d) : d.before a0 Z = true := hw d (List.mem_of_getElem? q)
theorem miaload (pc' : Nat) (X : Stand p l e R s m args below meth c T locs cells slots) (hx : p.tables.exec = Jvm.exec) (hby : c.code = code) (hZ : Z.Warmed39 s.vm) (eT : T.heap = h) (F : Arv Z h a k .int z vs dv) {v : Int32} (hd : decode code pc = .ok (.iaload, 1)) (hin : ¬ j < 0 ∧ j < z) (hv : vs.getD j.toNatClampNeg dv = .int v) (hp : pc + 1 = pc') (hr : Steps p.tables e below (T.setTop (mkF m pc' L (.int v :: S))) target) : Steps p.tables e below (T.setTop (mkF m pc L (.int j :: .ref a :: S))) target := by
  subst hp
  obtain ⟨cl, A, -, q2, q3, H, -⟩ := F
  have hb' := inb_of q2 hin
  exact X.iaload hx (j := j) (v := .int v) (by rw [eT]; exact A.1) (State.isArrayOf_alike hZ.alike A.2.1) A.2.2 hb' (H.at hb' hv) (g := mkF m pc L (.int j :: .ref a :: S)) rfl rfl (hb hby hd) _ hr
theorem own_stI (X : Stand p l e R s m args below meth c T locs cells slots) (hx : p.tables.exec = Jvm.exec) (hby : c.code = code) (hZ : Z.Warmed39 s.vm) (eT : T.heap = h) (F : Arv Z h a k .int z vs dv) {v : Int32} (hd : decode code pc = .ok (.iastore, 1)) (hin : ¬ j < 0 ∧ j < z) (i : Nat) (hj : j.toNatClampNeg = i) (hi : i < vs.length) (L : Array Slot) (S : List Value) (pc' : Nat) (hp : pc + 1 = pc') :
    ∃ T' h', Stand p l e R s m args below meth c T' (locs ++ [⟨a, j.toNatClampNeg⟩]) cells slots ∧ T'.heap = h' ∧ Wr h h' a j.toNatClampNeg (.int v) ∧ Arv Z h' a k .int z (vs.set i (.int v)) dv ∧ ∀ target, Steps p.tables e below (T'.setTop (mkF m pc' L S)) target → Steps p.tables e below (T.setTop (mkF m pc L (.int v :: .int j :: .ref a :: S))) target := by
  subst hp
  obtain ⟨cl, A, q1, q2, q3, H, G⟩ := F
  obtain ⟨T', h', X', e', W, st⟩ := Jvm.RoadKit.stI X hx hZ eT A (j := j) (inb_of q2 hin) (g := mkF m pc L (.int v :: .int j :: .ref a :: S)) rfl rfl (hb hby hd)
  exact ⟨T', h', X', e', W, Arv.set A q1 q2 q3 H G rfl W i hj hi, st⟩
theorem mlaload (pc' : Nat) (X : Stand p l e R s m args below meth c T locs cells slots) (hx : p.tables.exec = Jvm.exec) (hby : c.code = code) (hZ : Z.Warmed39 s.vm) (eT : T.heap = h) (F : Arv Z h a k .long z vs dv) {v : Int64} (hd : decode code pc = .ok (.laload, 1)) (hin : ¬ j < 0 ∧ j < z) (hv : vs.getD j.toNatClampNeg dv = .long v) (hp : pc + 1 = pc') (hr : Steps p.tables e below (T.setTop (mkF m pc' L (.long v :: S))) target) : Steps p.tables e below (T.setTop (mkF m pc L (.int j :: .ref a :: S))) target := by
  subst hp
  obtain ⟨cl, A, -, q2, q3, H, -⟩ := F
  have hb' := inb_of q2 hin
  exact X.laload hx (j := j) (v := .long v) (by rw [eT]; exact A.1) (State.isArrayOf_alike hZ.alike A.2.1) A.2.2 hb' (H.at hb' hv) (g := mkF m pc L (.int j :: .ref a :: S)) rfl rfl (hb hby hd) _ hr
theorem own_stJ (X : Stand p l e R s m args below meth c T locs cells slots) (hx : p.tables.exec = Jvm.exec) (hby : c.code = code) (hZ : Z.Warmed39 s.vm) (eT : T.heap = h) (F : Arv Z h a k .long z vs dv) {v : Int64} (hd : decode code pc = .ok (.lastore, 1)) (hin : ¬ j < 0 ∧ j < z) (i : Nat) (hj : j.toNatClampNeg = i) (hi : i < vs.length) (L : Array Slot) (S : List Value) (pc' : Nat) (hp : pc + 1 = pc') :
    ∃ T' h', Stand p l e R s m args below meth c T' (locs ++ [⟨a, j.toNatClampNeg⟩]) cells slots ∧ T'.heap = h' ∧ Wr h h' a j.toNatClampNeg (.long v) ∧ Arv Z h' a k .long z (vs.set i (.long v)) dv ∧ ∀ target, Steps p.tables e below (T'.setTop (mkF m pc' L S)) target → Steps p.tables e below (T.setTop (mkF m pc L (.long v :: .int j :: .ref a :: S))) target := by
  subst hp
  obtain ⟨cl, A, q1, q2, q3, H, G⟩ := F
  obtain ⟨T', h', X', e', W, st⟩ := Jvm.RoadKit.stJ X hx hZ eT A (j := j) (inb_of q2 hin) (g := mkF m pc L (.long v :: .int j :: .ref a :: S)) rfl rfl (hb hby hd)
  exact ⟨T', h', X', e', W, Arv.set A q1 q2 q3 H G rfl W i hj hi, st⟩
theorem mdaload (pc' : Nat) (X : Stand p l e R s m args below meth c T locs cells slots) (hx : p.tables.exec = Jvm.exec) (hby : c.code = code) (hZ : Z.Warmed39 s.vm) (eT : T.heap = h) (F : Arv Z h a k .double z vs dv) {v : UInt64} (hd : decode code pc = .ok (.daload, 1)) (hin : ¬ j < 0 ∧ j < z) (hv : vs.getD j.toNatClampNeg dv = .double v) (hp : pc + 1 = pc') (hr : Steps p.tables e below (T.setTop (mkF m pc' L (.double v :: S))) target) : Steps p.tables e below (T.setTop (mkF m pc L (.int j :: .ref a :: S))) target := by
  subst hp
  obtain ⟨cl, A, -, q2, q3, H, -⟩ := F
  have hb' := inb_of q2 hin
  exact X.daload hx (j := j) (v := .double v) (by rw [eT]; exact A.1) (State.isArrayOf_alike hZ.alike A.2.1) A.2.2 hb' (H.at hb' hv) (g := mkF m pc L (.int j :: .ref a :: S)) rfl rfl (hb hby hd) _ hr
theorem own_stD (X : Stand p l e R s m args below meth c T locs cells slots) (hx : p.tables.exec = Jvm.exec) (hby : c.code = code) (hZ : Z.Warmed39 s.vm) (eT : T.heap = h) (F : Arv Z h a k .double z vs dv) {v : UInt64} (hd : decode code pc = .ok (.dastore, 1)) (hin : ¬ j < 0 ∧ j < z) (i : Nat) (hj : j.toNatClampNeg = i) (hi : i < vs.length) (L : Array Slot) (S : List Value) (pc' : Nat) (hp : pc + 1 = pc') :
    ∃ T' h', Stand p l e R s m args below meth c T' (locs ++ [⟨a, j.toNatClampNeg⟩]) cells slots ∧ T'.heap = h' ∧ Wr h h' a j.toNatClampNeg (.double v) ∧ Arv Z h' a k .double z (vs.set i (.double v)) dv ∧ ∀ target, Steps p.tables e below (T'.setTop (mkF m pc' L S)) target → Steps p.tables e below (T.setTop (mkF m pc L (.double v :: .int j :: .ref a :: S))) target := by
  subst hp
  obtain ⟨cl, A, q1, q2, q3, H, G⟩ := F
  obtain ⟨T', h', X', e', W, st⟩ := Jvm.RoadKit.stD X hx hZ eT A (j := j) (inb_of q2 hin) (g := mkF m pc L (.double v :: .int j :: .ref a :: S)) rfl rfl (hb hby hd)
  exact ⟨T', h', X', e', W, Arv.set A q1 q2 q3 H G rfl W i hj hi, st⟩
theorem mlen {ty : FieldType} (pc' : Nat) (X : Stand p l e R s m args below meth c T locs cells slots) (hx : p.tables.exec = Jvm.exec) (hby : c.code = code) (hZ : Z.Warmed39 s.vm) (eT : T.heap = h) (F : Arv Z h a k ty z vs dv) (hd : decode code pc = .ok (.arraylength, 1)) (hp : pc + 1 = pc') (hr : Steps p.tables e below (T.setTop (mkF m pc' L (.int z :: S))) target) : Steps p.tables e below (T.setTop (mkF m pc L (.ref a :: S))) target := by
  subst hp
  obtain ⟨cl, A, -, q2, q3, -, -⟩ := F
  refine X.arraylength hx (by rw [eT]; exact A.1) (State.isArrayOf_alike hZ.alike A.2.1) (g := mkF m pc L (.ref a :: S)) rfl rfl (hb hby hd) _ ?_
  rw [len_of q2 q3]
  exact hr
end Arrays
end Jvm.OwnSt
namespace Jvm.OwnFl
open Jvm.FP Jvm.FP.Core Jvm.Free.Fl Jvm.Op
/-- a double's value, in units of 2^-1074 -/
def zv (a : UInt64) : Int := zval b64 (val64 a)
theorem vv_ddiv (a b : UInt64) : val64 (FP.ddiv a b) = quotient b64 (val64 a) (val64 b) := val64_ddiv a b
theorem vv_dmul (a b : UInt64) : val64 (FP.dmul a b) = round b64 (exactProduct (val64 a) (val64 b)) := val64_dmul a b
theorem vv_dadd (a b : UInt64) : val64 (FP.dadd a b) = round b64 (exactSum (val64 a) (val64 b)) := val64_dadd a b
theorem vv_dsub (a b : UInt64) : val64 (FP.dsub a b) = round b64 (exactSum (val64 a) (negate (val64 b))) := val64_dsub a b
/-- one, in these units -/
def ONE : Int := (one64 : Int)
theorem one_pos : 0 < ONE := Int.natCast_pos.mpr one64_pos
theorem qm : b64.qmin = -1074 := qmin_b64
theorem one_qm : (2 : Nat) ^ (-b64.qmin).toNat = one64 := pow_qmin64
theorem own_quot (f : Fmt) (s t : Bool) (c d : Nat) (q r : Int) : quotient f (.fin s c q) (.fin t d r) = if d = 0 then (if c = 0 then .nan else .inf (s != t)) else roundRatio f (s != t) c d (q - r) := rfl
theorem own_inU (c : Nat) (q e : Int) : inUnits c q e = c * 2 ^ (q - e).toNat := rfl
theorem pow3 {a b c d : Nat} (x : Nat) (h : a + b = c + d) : x * 2 ^ a * 2 ^ b = x * 2 ^ c * 2 ^ d := by
  rw [Nat.mul_assoc, ← Nat.pow_add, h, Nat.pow_add, ← Nat.mul_assoc]
section Mag
variable {s t : Bool} {c d : Nat} {q r : Int} {V : Datum}
theorem scale_quot (h1 : b64.qmin ≤ q) (h2 : b64.qmin ≤ r) :
    c * 2 ^ (q - r - min b64.qmin (q - r)).toNat * 2 ^ (r - b64.qmin).toNat = c * 2 ^ (q - b64.qmin).toNat * one64 * 2 ^ (b64.qmin - min b64.qmin (q - r)).toNat := by
  rw [← one_qm]
  have e : (q - r - min b64.qmin (q - r)).toNat + (r - b64.qmin).toNat = ((q - b64.qmin).toNat + (-b64.qmin).toNat) + (b64.qmin - min b64.qmin (q - r)).toNat := by
    have := qm; omega
  rw [Nat.mul_assoc, ← Nat.pow_add, e, Nat.pow_add, Nat.pow_add]
  simp only [Nat.mul_assoc]
theorem quot_mag_le (hx : FP.Core.fits b64 (.fin s c q)) (hy : FP.Core.fits b64 (.fin t d r)) (hd : d ≠ 0) (hV : FP.Core.fits b64 V) (hn : V ≠ .nan)
    (h : inUnits c q b64.qmin * one64 ≤ zmag b64 V * inUnits d r b64.qmin) : zmag b64 (roundRatio b64 (s != t) c d (q - r)) ≤ zmag b64 V := by
  refine zmag_roundRatio_le good_b64 (e0 := min b64.qmin (q - r)) (Nat.pos_of_ne_zero hd) hV hn (by omega) (by omega) ?_
  have h1 := hx.2.1
  have h2 := hy.2.1
  have hP := Nat.two_pow_pos (r - b64.qmin).toNat
  refine Nat.le_of_mul_le_mul_right (c := 2 ^ (r - b64.qmin).toNat) ?_ hP
  rw [own_inU] at h ⊢
  rw [own_inU] at h
  rw [scale_quot h1 h2]
  have := Nat.mul_le_mul_right (2 ^ (b64.qmin - min b64.qmin (q - r)).toNat) h
  refine Nat.le_trans this (Nat.le_of_eq ?_)
  simp only [Nat.mul_assoc, Nat.mul_left_comm, Nat.mul_comm]
theorem quot_mag_ge (hx : FP.Core.fits b64 (.fin s c q)) (hy : FP.Core.fits b64 (.fin t d r)) (hd : d ≠ 0) (hV : FP.Core.fits b64 V)
    (h : zmag b64 V * inUnits d r b64.qmin ≤ inUnits c q b64.qmin * one64) : zmag b64 V ≤ zmag b64 (roundRatio b64 (s != t) c d (q - r)) := by
  refine zmag_roundRatio_ge good_b64 (e0 := min b64.qmin (q - r)) (Nat.pos_of_ne_zero hd) hV (by omega) (by omega) ?_
  have h1 := hx.2.1
  have h2 := hy.2.1
  have hP := Nat.two_pow_pos (r - b64.qmin).toNat
  refine Nat.le_of_mul_le_mul_right (c := 2 ^ (r - b64.qmin).toNat) ?_ hP
  rw [own_inU] at h ⊢
  rw [own_inU] at h
  rw [scale_quot h1 h2]
  have := Nat.mul_le_mul_right (2 ^ (b64.qmin - min b64.qmin (q - r)).toNat) h
  refine Nat.le_trans (Nat.le_of_eq ?_) this
  simp only [Nat.mul_assoc, Nat.mul_left_comm, Nat.mul_comm]
end Mag
theorem fin_at {a : UInt64} (h : DFin a) : ∃ s c q, val64 a = .fin s c q ∧ FP.Core.fits b64 (.fin s c q) ∧ zv a = signed s (inUnits c q b64.qmin) := by
  obtain ⟨s, c, q, e⟩ := h
  have f := val64_fits a
  rw [e] at f
  exact ⟨s, c, q, e, f, by unfold zv; rw [e]; rfl⟩
theorem units_zero {d : Nat} {r : Int} : inUnits d r b64.qmin = 0 ↔ d = 0 := by
  rw [own_inU]
  have hP := Nat.two_pow_pos (r - b64.qmin).toNat
  constructor
  · intro h
    rcases Nat.mul_eq_zero.mp h with h | h
    · exact h
    · omega
  · rintro rfl; simp
theorem div_core {a b V : UInt64} (ha : DFin a) (hb : DFin b) (hz : zv b ≠ 0) (hV : val64 V ≠ .nan) :
    ∃ (U A D W : Nat) (s t w : Bool) (M : Nat), ONE = (U : Int) ∧ zv a = signed s A ∧ zv b = signed t D ∧ 0 < D ∧ zv V = signed w W ∧ val64 (FP.ddiv a b) ≠ .nan ∧ zv (FP.ddiv a b) = signed (s != t) M ∧ (A * U ≤ W * D → M ≤ W) ∧ (W * D ≤ A * U → W ≤ M) := by
  obtain ⟨s, c, q, e1, f1, z1⟩ := fin_at ha
  obtain ⟨t, d, r, e2, f2, z2⟩ := fin_at hb
  have hd : d ≠ 0 := by
    rintro rfl
    apply hz; rw [z2, units_zero.mpr rfl]; exact signed_zero t
  have e3 : val64 (FP.ddiv a b) = roundRatio b64 (s != t) c d (q - r) := by
    rw [vv_ddiv, e1, e2, own_quot, if_neg hd]
  have fV := val64_fits V
  refine ⟨one64, _, _, zmag b64 (val64 V), s, t, sgn (val64 V), zmag b64 (roundRatio b64 (s != t) c d (q - r)), rfl, z1, z2, ?_, rfl, ?_, ?_, quot_mag_le f1 f2 hd fV hV, quot_mag_ge f1 f2 hd fV⟩
  · exact Nat.pos_of_ne_zero fun h => hd (units_zero.mp h)
  · rw [e3]; exact roundRatio_ne_nan _ _ _ _ _
  · unfold zv; rw [e3]; unfold zval; rw [sgn_roundRatio]
theorem sg_t (n : Nat) : signed true n = -(n : Int) := rfl
theorem sg_f (n : Nat) : signed false n = (n : Int) := rfl
theorem div_le_pos {a b V : UInt64} (ha : DFin a) (hb : DFin b) (hz : 0 < zv b) (hV : val64 V ≠ .nan) (h : zv a * ONE ≤ zv V * zv b) : zv (FP.ddiv a b) ≤ zv V := by
  obtain ⟨U, A, D, W, s, t, w, M, e0, e1, e2, hD, e3, -, e4, l1, l2⟩ := div_core ha hb (by omega) hV
  rw [e1, e2, e3] at h
  rw [e2] at hz
  rw [e3, e4]
  obtain rfl : t = false := by cases t <;> simp only [sg_t, sg_f] at hz <;> first | rfl | omega
  rw [sg_f, e0, ← signed_mul, ← signed_mul] at h
  have hz2 : W * D = 0 → W = 0 := fun x => (Nat.mul_eq_zero.mp x).elim id (fun y => by omega)
  generalize A * U = P at *
  generalize W * D = R at *
  cases s <;> cases w <;> simp only [sg_t, sg_f, Bool.bne_false, bne_self_eq_false] at h ⊢
  · have := l1 (by omega); omega
  · have := l1 (by omega); have := hz2 (by omega); omega
  · omega
  · have := l2 (by omega); omega
theorem div_ge_pos {a b V : UInt64} (ha : DFin a) (hb : DFin b) (hz : 0 < zv b) (hV : val64 V ≠ .nan) (h : zv V * zv b ≤ zv a * ONE) : zv V ≤ zv (FP.ddiv a b) := by
  obtain ⟨U, A, D, W, s, t, w, M, e0, e1, e2, hD, e3, -, e4, l1, l2⟩ := div_core ha hb (by omega) hV
  rw [e1, e2, e3] at h
  rw [e2] at hz
  rw [e3, e4]
  obtain rfl : t = false := by cases t <;> simp only [sg_t, sg_f] at hz <;> first | rfl | omega
  rw [sg_f, e0, ← signed_mul, ← signed_mul] at h
  have hz2 : W * D = 0 → W = 0 := fun x => (Nat.mul_eq_zero.mp x).elim id (fun y => by omega)
  generalize A * U = P at *
  generalize W * D = R at *
  cases s <;> cases w <;> simp only [sg_t, sg_f, Bool.bne_false, bne_self_eq_false] at h ⊢
  · have := l2 (by omega); omega
  · omega
  · have := l1 (by omega); have := hz2 (by omega); omega
  · have := l1 (by omega); omega
theorem div_le_neg {a b V : UInt64} (ha : DFin a) (hb : DFin b) (hz : zv b < 0) (hV : val64 V ≠ .nan) (h : zv V * zv b ≤ zv a * ONE) : zv (FP.ddiv a b) ≤ zv V := by
  obtain ⟨U, A, D, W, s, t, w, M, e0, e1, e2, hD, e3, -, e4, l1, l2⟩ := div_core ha hb (by omega) hV
  rw [e1, e2, e3] at h
  rw [e2] at hz
  rw [e3, e4]
  obtain rfl : t = true := by cases t <;> simp only [sg_t, sg_f] at hz <;> first | rfl | omega
  rw [sg_t, Int.mul_neg, e0, ← signed_mul, ← signed_mul] at h
  have hz2 : W * D = 0 → W = 0 := fun x => (Nat.mul_eq_zero.mp x).elim id (fun y => by omega)
  generalize A * U = P at *
  generalize W * D = R at *
  cases s <;> cases w <;> simp only [sg_t, sg_f, Bool.bne_true, Bool.not_true, Bool.not_false] at h ⊢
  · omega
  · have := l2 (by omega); omega
  · have := l1 (by omega); omega
  · have := l1 (by omega); have := hz2 (by omega); omega
theorem div_ge_neg {a b V : UInt64} (ha : DFin a) (hb : DFin b) (hz : zv b < 0) (hV : val64 V ≠ .nan) (h : zv a * ONE ≤ zv V * zv b) : zv V ≤ zv (FP.ddiv a b) := by
  obtain ⟨U, A, D, W, s, t, w, M, e0, e1, e2, hD, e3, -, e4, l1, l2⟩ := div_core ha hb (by omega) hV
  rw [e1, e2, e3] at h
  rw [e2] at hz
  rw [e3, e4]
  obtain rfl : t = true := by cases t <;> simp only [sg_t, sg_f] at hz <;> first | rfl | omega
  rw [sg_t, Int.mul_neg, e0, ← signed_mul, ← signed_mul] at h
  have hz2 : W * D = 0 → W = 0 := fun x => (Nat.mul_eq_zero.mp x).elim id (fun y => by omega)
  generalize A * U = P at *
  generalize W * D = R at *
  cases s <;> cases w <;> simp only [sg_t, sg_f, Bool.bne_true, Bool.not_true, Bool.not_false] at h ⊢
  · have := l1 (by omega); have := hz2 (by omega); omega
  · have := l1 (by omega); omega
  · have := l2 (by omega); omega
  · omega
theorem div_nan {a b : UInt64} (ha : DFin a) (hb : DFin b) (hz : zv b ≠ 0) : val64 (FP.ddiv a b) ≠ .nan := by
  obtain ⟨U, A, D, W, s, t, w, M, -, -, -, -, -, h, -⟩ := div_core (V := a) ha hb hz ha.ne_nan
  exact h
theorem no_of {x : UInt64} (h : val64 x ≠ .nan) : NoNaN64 x := noNaN64_no.mpr ((notNaN_iff x).mpr h)
theorem of_no {x : UInt64} (h : NoNaN64 x) : val64 x ≠ .nan := (notNaN_iff x).mp (noNaN64_no.mp h)
theorem fin_no {x : UInt64} (h : DFin x) : NoNaN64 x := no_of h.ne_nan
/-- as great as a finite one: finite -/
theorem fin_of_eq {a V : UInt64} (hn : val64 a ≠ .nan) (hV : DFin V) (h : zv a = zv V) : DFin a := by
  cases e : val64 a with
  | nan => exact absurd e hn
  | fin s c q => exact ⟨s, c, q, e⟩
  | inf s =>
    exfalso
    have h1 := hV.zval_lt
    have h2 : (zv a).natAbs = b64.tails * 2 ^ (b64.exps - 2) := by unfold zv; rw [e]; exact natAbs_signed _ _
    have h3 : (zv V).natAbs = zmag b64 (val64 V) := natAbs_signed _ _
    rw [h] at h2
    omega
theorem fin_of_le {a V W : UInt64} (hn : val64 a ≠ .nan) (hV : DFin V) (hW : DFin W) (h : zv V ≤ zv a) (h' : zv a ≤ zv W) : DFin a := by
  cases e : val64 a with
  | nan => exact absurd e hn
  | fin s c q => exact ⟨s, c, q, e⟩
  | inf s =>
    exfalso
    have h1 := hV.zval_lt
    have h1' := hW.zval_lt
    have h2 : (zv a).natAbs = b64.tails * 2 ^ (b64.exps - 2) := by unfold zv; rw [e]; exact natAbs_signed _ _
    have h3 : (zv V).natAbs = zmag b64 (val64 V) := natAbs_signed _ _
    have h3' : (zv W).natAbs = zmag b64 (val64 W) := natAbs_signed _ _
    omega
/-! a finite double of a known value -/
def Dy (a : UInt64) (x : Int) : Prop := DFin a ∧ zv a = x
def Rep (x : Int) : Prop := ∃ V, Dy V x
theorem Dy.rep {a : UInt64} {x : Int} (h : Dy a x) : Rep x := ⟨a, h⟩
theorem Dy.no {a : UInt64} {x : Int} (h : Dy a x) : NoNaN64 a := fin_no h.1
theorem Dy.nn {a : UInt64} {x : Int} (h : Dy a x) : val64 a ≠ .nan := h.1.ne_nan
theorem dy_div {a b : UInt64} {x y z : Int} (ha : Dy a x) (hb : Dy b y) (hy : y ≠ 0) (hz : Rep z) (h : z * y = x * ONE) : Dy (FP.ddiv a b) z := by
  obtain ⟨V, fV, rfl⟩ := hz
  obtain ⟨fa, rfl⟩ := ha
  obtain ⟨fb, rfl⟩ := hb
  have hn := div_nan fa fb hy
  have e : zv (FP.ddiv a b) = zv V := by
    rcases Int.lt_or_gt_of_ne hy with q | q
    · exact Int.le_antisymm (div_le_neg fa fb q fV.ne_nan (Int.le_of_eq h)) (div_ge_neg fa fb q fV.ne_nan (Int.le_of_eq h.symm))
    · exact Int.le_antisymm (div_le_pos fa fb q fV.ne_nan (Int.le_of_eq h.symm)) (div_ge_pos fa fb q fV.ne_nan (Int.le_of_eq h))
  exact ⟨fin_of_eq hn fV e, e⟩
theorem mul_le {a b V : UInt64} (ha : DFin a) (hb : DFin b) (hV : val64 V ≠ .nan) (h : zv a * zv b ≤ zv V * ONE) : zv (FP.dmul a b) ≤ zv V := by
  obtain ⟨s, c, q, e1, f1, z1⟩ := fin_at ha
  obtain ⟨t, d, r, e2, f2, z2⟩ := fin_at hb
  obtain ⟨p1, p2, p3⟩ := product_units f1 f2
  unfold zv
  rw [vv_dmul, e1, e2, p1]
  refine zval_round_le good_b64 (val64_fits V) hV (e0 := 2 * b64.qmin) (by have := qm; omega) p2 ?_
  rw [p3, signed_xor, show (b64.qmin - 2 * b64.qmin).toNat = (-b64.qmin).toNat by omega, one_qm]
  rw [z1, z2] at h
  exact h
theorem mul_ge {a b V : UInt64} (ha : DFin a) (hb : DFin b) (hV : val64 V ≠ .nan) (h : zv V * ONE ≤ zv a * zv b) : zv V ≤ zv (FP.dmul a b) := by
  obtain ⟨s, c, q, e1, f1, z1⟩ := fin_at ha
  obtain ⟨t, d, r, e2, f2, z2⟩ := fin_at hb
  obtain ⟨p1, p2, p3⟩ := product_units f1 f2
  unfold zv
  rw [vv_dmul, e1, e2, p1]
  refine zval_round_ge good_b64 (val64_fits V) hV (e0 := 2 * b64.qmin) (by have := qm; omega) p2 ?_
  rw [p3, signed_xor, show (b64.qmin - 2 * b64.qmin).toNat = (-b64.qmin).toNat by omega, one_qm]
  rw [z1, z2] at h
  exact h
theorem mul_nan {a b : UInt64} (ha : DFin a) (hb : DFin b) : val64 (FP.dmul a b) ≠ .nan := (notNaN_iff _).mp (dmul_out ha hb)
theorem dy_mul {a b : UInt64} {x y z : Int} (ha : Dy a x) (hb : Dy b y) (hz : Rep z) (h : z * ONE = x * y) : Dy (FP.dmul a b) z := by
  obtain ⟨V, fV, rfl⟩ := hz
  obtain ⟨fa, rfl⟩ := ha
  obtain ⟨fb, rfl⟩ := hb
  have e : zv (FP.dmul a b) = zv V := Int.le_antisymm (mul_le fa fb fV.ne_nan (Int.le_of_eq h.symm)) (mul_ge fa fb fV.ne_nan (Int.le_of_eq h))
  exact ⟨fin_of_eq (mul_nan fa fb) fV e, e⟩
theorem add_le {a b V : UInt64} (ha : DFin a) (hb : DFin b) (hV : val64 V ≠ .nan) (h : zv a + zv b ≤ zv V) : zv (FP.dadd a b) ≤ zv V := by
  unfold zv
  rw [vv_dadd]
  exact sum_le good_b64 ha hb (val64_fits a) (val64_fits b) (val64_fits V) hV h
theorem add_ge {a b V : UInt64} (ha : DFin a) (hb : DFin b) (hV : val64 V ≠ .nan) (h : zv V ≤ zv a + zv b) : zv V ≤ zv (FP.dadd a b) := by
  unfold zv
  rw [vv_dadd]
  exact sum_ge good_b64 ha hb (val64_fits a) (val64_fits b) (val64_fits V) hV h
theorem add_nan {a b : UInt64} (ha : DFin a) (hb : DFin b) : val64 (FP.dadd a b) ≠ .nan := (notNaN_iff _).mp (dadd_out ha.notNaN hb)
theorem dy_add {a b : UInt64} {x y : Int} (ha : Dy a x) (hb : Dy b y) (hz : Rep (x + y)) : Dy (FP.dadd a b) (x + y) := by
  obtain ⟨V, fV, e0⟩ := hz
  obtain ⟨fa, rfl⟩ := ha
  obtain ⟨fb, rfl⟩ := hb
  have e : zv (FP.dadd a b) = zv V := Int.le_antisymm (add_le fa fb fV.ne_nan (Int.le_of_eq e0.symm)) (add_ge fa fb fV.ne_nan (Int.le_of_eq e0))
  exact ⟨fin_of_eq (add_nan fa fb) fV e, e.trans e0⟩
theorem neg_fin {b : UInt64} (hb : DFin b) : ∃ s c q, negate (val64 b) = .fin s c q := by
  obtain ⟨s, c, q, e⟩ := hb
  exact ⟨!s, c, q, by rw [e]; rfl⟩
theorem sub_le {a b V : UInt64} (ha : DFin a) (hb : DFin b) (hV : val64 V ≠ .nan) (h : zv a - zv b ≤ zv V) : zv (FP.dsub a b) ≤ zv V := by
  unfold zv
  rw [vv_dsub]
  refine sum_le good_b64 ha (neg_fin hb) (val64_fits a) (negate_fits (val64_fits b)) (val64_fits V) hV ?_
  rw [zval_negate]; unfold zv at h; omega
theorem sub_ge {a b V : UInt64} (ha : DFin a) (hb : DFin b) (hV : val64 V ≠ .nan) (h : zv V ≤ zv a - zv b) : zv V ≤ zv (FP.dsub a b) := by
  unfold zv
  rw [vv_dsub]
  refine sum_ge good_b64 ha (neg_fin hb) (val64_fits a) (negate_fits (val64_fits b)) (val64_fits V) hV ?_
  rw [zval_negate]; unfold zv at h; omega
theorem sub_nan {a b : UInt64} (ha : DFin a) (hb : DFin b) : val64 (FP.dsub a b) ≠ .nan := (notNaN_iff _).mp (dsub_out ha.notNaN hb)
theorem dy_sub {a b : UInt64} {x y : Int} (ha : Dy a x) (hb : Dy b y) (hz : Rep (x - y)) : Dy (FP.dsub a b) (x - y) := by
  obtain ⟨V, fV, e0⟩ := hz
  obtain ⟨fa, rfl⟩ := ha
  obtain ⟨fb, rfl⟩ := hb
  have e : zv (FP.dsub a b) = zv V := Int.le_antisymm (sub_le fa fb fV.ne_nan (Int.le_of_eq e0.symm)) (sub_ge fa fb fV.ne_nan (Int.le_of_eq e0))
  exact ⟨fin_of_eq (sub_nan fa fb) fV e, e.trans e0⟩
theorem dy_i2d (n : Int32) : Dy (FP.i2d n) (n.toInt * ONE) := ⟨Core.i2d_fin n, DInt_zval (i2d_int n)⟩
theorem dy_l2d {n : Int64} (h : n.toInt.natAbs ≤ 2 ^ 53) : Dy (FP.l2d n) (n.toInt * ONE) := ⟨Core.l2d_fin n, DInt_zval (l2d_int h)⟩
theorem rep_nat (s : Bool) (n j : Nat) (hn : n < 2 ^ 53) (hj : j ≤ 1074) : Rep (signed s (n * 2 ^ (1074 - j))) := by
  obtain ⟨c, q, h1, h2⟩ := round_exact good_b64 s (c := n) (q := -(j : Int)) hn (by rw [qm]; omega) (by rw [show b64.qmax = 971 by decide +kernel]; omega)
  have e : val64 (of64 (round b64 (.fin s n (-(j : Int))))) = .fin s c q := by rw [val64_of64 (round_fits good_b64 _), h1]
  refine ⟨of64 (round b64 (.fin s n (-(j : Int)))), ⟨s, c, q, e⟩, ?_⟩
  unfold zv; rw [e]
  show signed s (inUnits c q b64.qmin) = _
  rw [h2, own_inU, qm, show (-(j : Int) - -1074).toNat = 1074 - j by omega]
/-- n / 2^j is a double -/
theorem rep_int (n : Int) (j : Nat) (hn : n.natAbs < 2 ^ 53) (hj : j ≤ 1074) : Rep (n * ((2 ^ (1074 - j) : Nat) : Int)) := by
  have h := rep_nat (decide (n < 0)) n.natAbs j hn hj
  rw [signed_mul] at h
  have e : signed (decide (n < 0)) n.natAbs = n := by
    by_cases q : n < 0
    · simp only [q, decide_true, sg_t]; omega
    · simp only [q, decide_false, sg_f]; omega
  rwa [e] at h
theorem rep_whole (n : Int) (hn : n.natAbs < 2 ^ 53) : Rep (n * ONE) := rep_int n 0 hn (by decide)
theorem cv {a b : UInt64} (ha : val64 a ≠ .nan) (hb : val64 b ≠ .nan) (o : ClassFile.CmpOp) : cmpValue (FP.dcmp a b) o = if zv a < zv b then -1 else if zv a = zv b then 0 else 1 := by
  rw [show FP.dcmp a b = some (compare (zv a) (zv b)) from dcmp_zval ha hb, compare_ite]
  by_cases h1 : zv a < zv b
  · rw [if_pos h1, if_pos h1]; rfl
  · rw [if_neg h1, if_neg h1]
    by_cases h2 : zv a = zv b
    · rw [if_pos h2, if_pos h2]; rfl
    · rw [if_neg h2, if_neg h2]; rfl
theorem cv_lt {a b : UInt64} (ha : val64 a ≠ .nan) (hb : val64 b ≠ .nan) (o : ClassFile.CmpOp) : cmpValue (FP.dcmp a b) o < 0 ↔ zv a < zv b := by
  rw [cv ha hb]
  by_cases h1 : zv a < zv b
  · rw [if_pos h1]; exact ⟨fun _ => h1, fun _ => by decide⟩
  · by_cases h2 : zv a = zv b
    · rw [if_neg h1, if_pos h2]; exact ⟨fun h => absurd h (by decide), fun h => absurd h h1⟩
    · rw [if_neg h1, if_neg h2]; exact ⟨fun h => absurd h (by decide), fun h => absurd h h1⟩
theorem cv_gt {a b : UInt64} (ha : val64 a ≠ .nan) (hb : val64 b ≠ .nan) (o : ClassFile.CmpOp) : 0 < cmpValue (FP.dcmp a b) o ↔ zv b < zv a := by
  rw [cv ha hb]
  by_cases h1 : zv a < zv b
  · rw [if_pos h1]; exact ⟨fun h => absurd h (by decide), fun h => by omega⟩
  · by_cases h2 : zv a = zv b
    · rw [if_neg h1, if_pos h2]; exact ⟨fun h => absurd h (by decide), fun h => by omega⟩
    · rw [if_neg h1, if_neg h2]; exact ⟨fun _ => by omega, fun _ => by decide⟩
theorem cv_eq {a b : UInt64} (ha : val64 a ≠ .nan) (hb : val64 b ≠ .nan) (o : ClassFile.CmpOp) : cmpValue (FP.dcmp a b) o = 0 ↔ zv a = zv b := by
  rw [cv ha hb]
  by_cases h1 : zv a < zv b
  · rw [if_pos h1]; exact ⟨fun h => absurd h (by decide), fun h => by omega⟩
  · by_cases h2 : zv a = zv b
    · rw [if_neg h1, if_pos h2]; exact ⟨fun _ => h2, fun _ => rfl⟩
    · rw [if_neg h1, if_neg h2]; exact ⟨fun h => absurd h (by decide), fun h => absurd h h2⟩
theorem dy_zero : Dy 0 0 := ⟨⟨_, _, _, val64_zero⟩, zval64_zero⟩
theorem dy_lit (a : UInt64) (x : Int) (h1 : a.toNat % 2 ^ 63 < 9218868437227405312) (h2 : zval b64 (val64 a) = x) : Dy a x := ⟨(fin_bits a).mpr h1, h2⟩
theorem dy_one : Dy 4607182418800017408 ONE := dy_lit _ _ (by decide) (by have := DInt_zval dint_one; rw [Int.one_mul] at this; exact this)
/-- two quotients of one ratio are one double -/
theorem div_congr {a b a' b' : UInt64} (ha : DFin a) (hb : DFin b) (ha' : DFin a') (hb' : DFin b') (h0 : 0 ≤ zv a) (h0' : 0 ≤ zv a') (hz : 0 < zv b) (hz' : 0 < zv b') (h : zv a * zv b' = zv a' * zv b) : zv (FP.ddiv a b) = zv (FP.ddiv a' b') := by
  obtain ⟨s, c, q, e1, f1, z1⟩ := fin_at ha
  obtain ⟨t, d, r, e2, f2, z2⟩ := fin_at hb
  obtain ⟨s', c', q', e1', f1', z1'⟩ := fin_at ha'
  obtain ⟨t', d', r', e2', f2', z2'⟩ := fin_at hb'
  rw [z1] at h0; rw [z1'] at h0'; rw [z2] at hz; rw [z2'] at hz'
  rw [z1, z1', z2, z2'] at h
  obtain rfl : t = false := by cases t <;> simp only [sg_t, sg_f] at hz <;> first | rfl | omega
  obtain rfl : t' = false := by cases t' <;> simp only [sg_t, sg_f] at hz' <;> first | rfl | omega
  have k1 : signed s (inUnits c q b64.qmin) = (inUnits c q b64.qmin : Int) := by cases s <;> simp only [sg_t, sg_f] at h0 ⊢; omega
  have k2 : signed s' (inUnits c' q' b64.qmin) = (inUnits c' q' b64.qmin : Int) := by cases s' <;> simp only [sg_t, sg_f] at h0' ⊢; omega
  rw [k1, k2, sg_f, sg_f] at h
  have hN : inUnits c q b64.qmin * inUnits d' r' b64.qmin = inUnits c' q' b64.qmin * inUnits d r b64.qmin := by exact_mod_cast h
  have hd : d ≠ 0 := fun x => by rw [x, units_zero.mpr rfl] at hz; simp [sg_f] at hz
  have hd' : d' ≠ 0 := fun x => by rw [x, units_zero.mpr rfl] at hz'; simp [sg_f] at hz'
  have g1 := f1.2.1; have g2 := f2.2.1; have g3 := f1'.2.1; have g4 := f2'.2.1
  have key : zmag b64 (roundRatio b64 (s != false) c d (q - r)) = zmag b64 (roundRatio b64 (s' != false) c' d' (q' - r')) := by
    have E : roundRatio b64 false c d (q - r) = roundRatio b64 false c' d' (q' - r') := by
      refine roundRatio_congr (Nat.pos_of_ne_zero hd) (Nat.pos_of_ne_zero hd') ?_
      simp only [own_inU] at hN
      generalize b64.qmin = Q at *
      have a1 : c * 2 ^ (q - Q).toNat * (d' * 2 ^ (r' - Q).toNat) = c * d' * 2 ^ ((q - Q).toNat + (r' - Q).toNat) := by rw [Nat.pow_add]; simp only [Nat.mul_assoc, Nat.mul_left_comm, Nat.mul_comm]
      have a2 : c' * 2 ^ (q' - Q).toNat * (d * 2 ^ (r - Q).toNat) = c' * d * 2 ^ ((q' - Q).toNat + (r - Q).toNat) := by rw [Nat.pow_add]; simp only [Nat.mul_assoc, Nat.mul_left_comm, Nat.mul_comm]
      rw [a1, a2] at hN
      by_cases hle : (q - r) ≤ (q' - r')
      · have x1 : (q - r - (q' - r')).toNat = 0 := by omega
        rw [x1, Nat.pow_zero, Nat.mul_one]
        have x2 : (q' - Q).toNat + (r - Q).toNat = (q' - r' - (q - r)).toNat + ((q - Q).toNat + (r' - Q).toNat) := by omega
        rw [x2, Nat.pow_add 2 (q' - r' - (q - r)).toNat, ← Nat.mul_assoc] at hN
        exact Nat.eq_of_mul_eq_mul_right (Nat.two_pow_pos _) hN
      · have x1 : (q' - r' - (q - r)).toNat = 0 := by omega
        rw [x1, Nat.pow_zero, Nat.mul_one]
        have x2 : (q - Q).toNat + (r' - Q).toNat = (q - r - (q' - r')).toNat + ((q' - Q).toNat + (r - Q).toNat) := by omega
        rw [x2, Nat.pow_add 2 (q - r - (q' - r')).toNat, ← Nat.mul_assoc] at hN
        exact Nat.eq_of_mul_eq_mul_right (Nat.two_pow_pos _) hN
    have neg : ∀ (u : Bool) (A B : Nat) (x : Int), zmag b64 (roundRatio b64 u A B x) = zmag b64 (roundRatio b64 false A B x) := fun u A B x => by
      cases u
      · rfl
      · have := negate_roundRatio b64 false A B x
        rw [Bool.not_false] at this
        rw [← this]
        cases roundRatio b64 false A B x <;> rfl
    rw [neg, E, ← neg (s' != false)]
  have zd : zv (FP.ddiv a b) = signed (s != false) (zmag b64 (roundRatio b64 (s != false) c d (q - r))) := by
    unfold zv; rw [vv_ddiv, e1, e2, own_quot, if_neg hd]; unfold zval; rw [sgn_roundRatio]
  have zd' : zv (FP.ddiv a' b') = signed (s' != false) (zmag b64 (roundRatio b64 (s' != false) c' d' (q' - r'))) := by
    unfold zv; rw [vv_ddiv, e1', e2', own_quot, if_neg hd']; unfold zval; rw [sgn_roundRatio]
  have ge1 : 0 ≤ zv (FP.ddiv a b) := by
    have := div_ge_pos ha hb (by rw [z2, sg_f]; rw [sg_f] at hz; exact hz) (V := 0) dy_zero.nn (by rw [dy_zero.2, Int.zero_mul, z1, k1]; exact Int.mul_nonneg (by omega) (by have := one_pos; omega))
    rw [dy_zero.2] at this; exact this
  have ge2 : 0 ≤ zv (FP.ddiv a' b') := by
    have := div_ge_pos ha' hb' (by rw [z2', sg_f]; rw [sg_f] at hz'; exact hz') (V := 0) dy_zero.nn (by rw [dy_zero.2, Int.zero_mul, z1', k2]; exact Int.mul_nonneg (by omega) (by have := one_pos; omega))
    rw [dy_zero.2] at this; exact this
  rw [zd] at ge1 ⊢; rw [zd'] at ge2 ⊢
  rw [key] at ge1 ⊢
  generalize zmag b64 (roundRatio b64 (s' != false) c' d' (q' - r')) = M at *
  cases s <;> cases s' <;> simp only [sg_t, sg_f, Bool.bne_false, bne_self_eq_false] at ge1 ge2 ⊢ <;> omega
theorem one_le {x y : Int} : x * ONE ≤ y * ONE ↔ x ≤ y := ⟨fun h => Int.le_of_mul_le_mul_right h one_pos, fun h => Int.mul_le_mul_of_nonneg_right h (Int.le_of_lt one_pos)⟩
theorem one_lt {x y : Int} : x * ONE < y * ONE ↔ x < y := ⟨fun h => Int.lt_of_mul_lt_mul_right h (Int.le_of_lt one_pos), fun h => Int.mul_lt_mul_of_pos_right h one_pos⟩
theorem one_eq {x y : Int} : x * ONE = y * ONE ↔ x = y := ⟨fun h => Int.le_antisymm (one_le.mp (Int.le_of_eq h)) (one_le.mp (Int.le_of_eq h.symm)), fun h => h ▸ rfl⟩
theorem mul_bd {a b : Int} {A B : Nat} (ha : a.natAbs ≤ A) (hb : b.natAbs ≤ B) : (a * b).natAbs ≤ A * B := by rw [Int.natAbs_mul]; exact Nat.mul_le_mul ha hb
/-- comparison of two doubles that are whole numbers -/
theorem cw_lt {a b : UInt64} {x y : Int} (ha : Dy a (x * ONE)) (hb : Dy b (y * ONE)) (o : ClassFile.CmpOp) : cmpValue (FP.dcmp a b) o < 0 ↔ x < y := by rw [cv_lt ha.nn hb.nn, ha.2, hb.2, one_lt]
theorem cw_gt {a b : UInt64} {x y : Int} (ha : Dy a (x * ONE)) (hb : Dy b (y * ONE)) (o : ClassFile.CmpOp) : 0 < cmpValue (FP.dcmp a b) o ↔ y < x := by rw [cv_gt ha.nn hb.nn, ha.2, hb.2, one_lt]
theorem cw_eq {a b : UInt64} {x y : Int} (ha : Dy a (x * ONE)) (hb : Dy b (y * ONE)) (o : ClassFile.CmpOp) : cmpValue (FP.dcmp a b) o = 0 ↔ x = y := by rw [cv_eq ha.nn hb.nn, ha.2, hb.2, one_eq]
theorem dy_zero' : Dy 0 (0 * ONE) := by rw [Int.zero_mul]; exact dy_zero
theorem dw_add {a b : UInt64} {x y : Int} (ha : Dy a (x * ONE)) (hb : Dy b (y * ONE)) (h : (x + y).natAbs < 2 ^ 53) : Dy (FP.dadd a b) ((x + y) * ONE) := by
  have := dy_add ha hb (by rw [← Int.add_mul]; exact rep_whole _ h)
  rwa [← Int.add_mul] at this
theorem dw_sub {a b : UInt64} {x y : Int} (ha : Dy a (x * ONE)) (hb : Dy b (y * ONE)) (h : (x - y).natAbs < 2 ^ 53) : Dy (FP.dsub a b) ((x - y) * ONE) := by
  have := dy_sub ha hb (by rw [← Int.sub_mul]; exact rep_whole _ h)
  rwa [← Int.sub_mul] at this
theorem dw_mul {a b : UInt64} {x y : Int} (ha : Dy a (x * ONE)) (hb : Dy b (y * ONE)) (h : (x * y).natAbs < 2 ^ 53) : Dy (FP.dmul a b) ((x * y) * ONE) :=
  dy_mul ha hb (rep_whole _ h) (by simp only [Int.mul_assoc, Int.mul_left_comm, Int.mul_comm])
/-- twice a double that isn't too great is a double -/
theorem rep_dbl {a : UInt64} (h : DFin a) (hs : zmag b64 (val64 a) < 2 ^ 2000) : Rep (zv a + zv a) := by
  obtain ⟨s, c, q, e, f, z⟩ := fin_at h
  have hz : zmag b64 (val64 a) = inUnits c q b64.qmin := by rw [e]; rfl
  rw [hz, own_inU] at hs
  by_cases hc : c = 0
  · subst hc
    refine ⟨0, ⟨_, _, _, val64_zero⟩, ?_⟩
    rw [z, own_inU, Nat.zero_mul, signed_zero]; exact zval64_zero
  have hq : q + 1 ≤ b64.qmax := by
    rw [show b64.qmax = 971 by decide +kernel]
    refine Int.not_lt.mp fun r => ?_
    have k : 2 ^ 2000 ≤ 2 ^ (q - b64.qmin).toNat := Nat.pow_le_pow_right (by decide) (by rw [qm]; omega)
    have : 2 ^ (q - b64.qmin).toNat ≤ c * 2 ^ (q - b64.qmin).toNat := Nat.le_mul_of_pos_left _ (Nat.pos_of_ne_zero hc)
    omega
  have f2 := f.2.1
  obtain ⟨c', q', h1, h2⟩ := round_exact good_b64 s (c := c) (q := q + 1) f.1 (by omega) hq
  have e' : val64 (of64 (round b64 (.fin s c (q + 1)))) = .fin s c' q' := by rw [val64_of64 (round_fits good_b64 _), h1]
  refine ⟨of64 (round b64 (.fin s c (q + 1))), ⟨s, c', q', e'⟩, ?_⟩
  unfold zv; rw [e', e]
  show signed s (inUnits c' q' b64.qmin) = signed s (inUnits c q b64.qmin) + signed s (inUnits c q b64.qmin)
  rw [h2, own_inU, own_inU, show (q + 1 - b64.qmin).toNat = (q - b64.qmin).toNat + 1 by omega, Nat.pow_succ]
  generalize 2 ^ (q - b64.qmin).toNat = P
  have : c * (P * 2) = c * P + c * P := by rw [← Nat.mul_assoc, Nat.mul_two]
  rw [this]
  cases s
  · simp only [sg_f]; omega
  · simp only [sg_t]; omega
theorem l2d_small (n : Int64) : zmag b64 (val64 (FP.l2d n)) < 2 ^ 2000 := by
  have h := Core.l2d_mag n
  obtain ⟨s, c, q, e, k⟩ := mag_bits h (by decide)
  rw [e]
  show inUnits c q b64.qmin < _
  rw [own_inU]
  refine Nat.lt_of_lt_of_le k ?_
  rw [← Nat.pow_add]
  exact Nat.pow_le_pow_right (by decide) (by decide)
/-- a finite double's test of being finite -/
theorem mask_fin {a : UInt64} (h : DFin a) (o : ClassFile.CmpOp) : ¬ (0 < cmpValue (FP.dcmp (a &&& 0x7fffffffffffffff) 9218868437227405311) o) := by
  have q := (le_max h.notNaN).mpr h
  intro r
  rcases q with q | q
  · rw [show FP.dcmp (a &&& 0x7fffffffffffffff) 9218868437227405311 = some .lt from q] at r; cases o <;> exact absurd r (by decide)
  · rw [show FP.dcmp (a &&& 0x7fffffffffffffff) 9218868437227405311 = some .eq from q] at r; cases o <;> exact absurd r (by decide)
end Jvm.OwnFl
namespace Jvm.Pilot.@@N@@
open Jvm Jvm.ClassFile Sem Op Lib Jvm.Free Jvm.Stand Jvm.LawKit Jvm.RoadKit Jvm.OwnSt Bundle Jvm.Pilot.@@N@@.Jvm.D
theorem own_tmod {P W : Int} (h : W ≠ 0) : -(W.natAbs : Int) < P.tmod W ∧ P.tmod W < W.natAbs := by
  rcases Int.lt_or_gt_of_ne h with q | q
  · have := Jvm.LawKit.tmod_bounds (a := P) (M := -W) (by omega)
    rw [Int.tmod_neg] at this
    omega
  · have := Jvm.LawKit.tmod_bounds (a := P) (M := W) q
    omega
theorem own_tdiv {P W : Int} {N : Int} (h : -N ≤ P ∧ P ≤ N) : P.tdiv W ≤ N ∧ -N ≤ P.tdiv W := by
  have : (P.tdiv W).natAbs = P.natAbs / W.natAbs := Int.natAbs_tdiv P W
  have k := Nat.div_le_self P.natAbs W.natAbs
  omega
theorem d1_0 : decode prog_34_method_2_code 0 = .ok (.dload_n 2, 1) := by decide +kernel
theorem d1_1 : decode prog_34_method_2_code 1 = .ok (.dconst 0, 1) := by decide +kernel
theorem d1_2 : decode prog_34_method_2_code 2 = .ok (.dcmp .l, 1) := by decide +kernel
theorem d1_3 : decode prog_34_method_2_code 3 = .ok (.ifCond .ne 7, 3) := by decide +kernel
theorem d1_6 : decode prog_34_method_2_code 6 = .ok (.dconst 0, 1) := by decide +kernel
theorem d1_7 : decode prog_34_method_2_code 7 = .ok (.goto 6, 3) := by decide +kernel
theorem d1_10 : decode prog_34_method_2_code 10 = .ok (.dload_n 0, 1) := by decide +kernel
theorem d1_11 : decode prog_34_method_2_code 11 = .ok (.dload_n 2, 1) := by decide +kernel
theorem d1_12 : decode prog_34_method_2_code 12 = .ok (.ddiv, 1) := by decide +kernel
theorem d1_13 : decode prog_34_method_2_code 13 = .ok (.dreturn, 1) := by decide +kernel
theorem pn_1 : plainName "com/example/queries_into_facets/queriesintofacets/measures/FacetMeasures" = true := by first | (simp [plainName, overriddenIn]; done) | decide +kernel
theorem ef1 (m : MethodId) (d0 : UInt64) (d1 : UInt64) : entryFrame m #[(.double d0), (.double d1)] 4 = mkF m 0 #[dv d0, .second, dv d1, .second] [] := by first | (simp [entryFrame, mkF, argsToLocals, Value.category]; done) | rfl
abbrev room_of_1 : Room := { frames := 0, cells := 0, slots := 0, locals := 0 }
def rv1 (d0 : UInt64) (d1 : UInt64) : UInt64 := (if (cmpValue (FP.dcmp d1 (0 : UInt64)) .l) = (0 : Int32) then (0 : UInt64) else (FP.ddiv d0 d1))
def Q1 (Z : State) (d0 : UInt64) (d1 : UInt64) (h0 : Heap) (n0 : Nat) (v : Option Value) (h : Heap) (L : List Loc) : Prop := v = some (.double (rv1 d0 d1)) ∧ L = [] ∧ h = h0
set_option maxRecDepth 65536 in
set_option maxHeartbeats 40000000 in
theorem rm1 (l : Launch) (Z : State) (a0 : Array Value) (hw : ∀ d ∈ tables_1, d.before a0 Z = true) (ws : List Jvm.Cond) (d0 : UInt64) (d1 : UInt64)  (h0 : Heap) (n0 : Nat) (Z0 : n0 ≤ h0.size) (hn12 : (¬ ((cmpValue (FP.dcmp d1 (0 : UInt64)) .l) = (0 : Int32))) → Jvm.Free.Fl.NoNaN64 (FP.ddiv d0 d1)) :
    MetFree l (⟨"com/example/queries_into_facets/queriesintofacets/measures/FacetMeasures", "ratio", "(DD)D"⟩ : MethodName) (head1 (Jvm.Cond.code (⟨"com/example/queries_into_facets/queriesintofacets/measures/FacetMeasures", "ratio", "(DD)D"⟩ : MethodName) prog_34_method_2_code 4 (some .double) :: ws) (room_of_1)) (fun a U => a = #[(.double d0), (.double d1)] ∧ Z.Warmed39 U.vm ∧ U.heap = h0) (fun _ _ _ _ _ => True) (fun _ U o U' => ∃ v L, o = .returned v ∧ Q1 Z d0 d1 h0 n0 v U'.heap L ∧ FrameEnd U o U' L (room_of_1).cells (room_of_1).slots) := by
  refine MetFree.of_bodySF (plainFor_of_name pn_1) hisR ?_
  intro p e s m args below meth c s₁ Bd hml0 hP hK
  obtain ⟨rfl, hZ, hh⟩ := hP
  have hx := Bd.exec
  have hby := Bd.bytes
  have hml : c.maxLocals = 4 := hml0
  have hown : s.vm.findClass "com/example/queries_into_facets/queriesintofacets/measures/FacetMeasures" = some m.cls := findClass_of_methodNamed Bd.named
  have hnm := (name_of_methodNamed Bd.named Bd.method).1
  have X0 : Stand p l e (room_of_1) s m #[(.double d0), (.double d1)] below meth c s₁ [] 0 0 := Stand.of_body Bd
  have e0 : s₁.heap = h0 := by rw [← hh, Bd.state]; rfl
  have N0 := Fr.nil n0
  have G0 := gd X0 hx hby
  have pre0 : ∀ t, Steps p.tables e below (s₁.setTop (mkF m 0 #[dv d0, .second, dv d1, .second] [])) t → Steps p.tables e below (s₁.setTop (entryFrame m #[(.double d0), (.double d1)] 4)) t := fun t k => castTop (ef1 m d0 d1) k
  obtain ⟨T2, X2, e2, st2⟩ : ∃ T' : State, Stand p l e (room_of_1) s m #[(.double d0), (.double d1)] below meth c T' [] 0 0 ∧ T'.heap = h0 ∧ ∀ target, Steps p.tables e below (T'.setTop (mkF m 13 #[dv d0, .second, dv d1, .second] [(.double (if (cmpValue (FP.dcmp d1 (0 : UInt64)) .l) = (0 : Int32) then (0 : UInt64) else (FP.ddiv d0 d1)))])) target → Steps p.tables e below (s₁.setTop (mkF m 3 #[dv d0, .second, dv d1, .second] [(.int (cmpValue (FP.dcmp d1 (0 : UInt64)) .l))])) target := by
    by_cases hc3_1 : (cmpValue (FP.dcmp d1 (0 : UInt64)) .l) = (0 : Int32)
    · refine ⟨s₁, X0, e0, fun target kt => ?_⟩
      refine mifNo 6 G0 d1_3 ((if0 _ _).trans (teq hc3_1).2) rfl ?_
      refine mdconst0 7 G0 d1_6 (v := (0 : UInt64)) rfl rfl ?_
      refine mgoto 13 G0 d1_7 (by decide) rfl ?_
      exact castTop (g' := (mkF m 13 #[dv d0, .second, dv d1, .second] [(.double (if (cmpValue (FP.dcmp d1 (0 : UInt64)) .l) = (0 : Int32) then (0 : UInt64) else (FP.ddiv d0 d1)))])) (by simp only [if_pos hc3_1]) kt
    · refine ⟨s₁, X0, e0, fun target kt => ?_⟩
      refine mifYes 10 G0 d1_3 ((if0 _ _).trans (feq hc3_1).2) (by decide) rfl ?_
      refine mdloadN 11 G0 d1_10 rfl rfl ?_
      refine mdloadN 12 G0 d1_11 rfl rfl ?_
      refine mddiv 13 G0 d1_12 (hn12 hc3_1) rfl ?_
      exact castTop (g' := (mkF m 13 #[dv d0, .second, dv d1, .second] [(.double (if (cmpValue (FP.dcmp d1 (0 : UInt64)) .l) = (0 : Int32) then (0 : UInt64) else (FP.ddiv d0 d1)))])) (by simp only [if_neg hc3_1]) kt
  have G2 := gd X2 hx hby
  obtain ⟨fs, hr, hrun, hended, hW, hsame⟩ := X2.leave (v := some (.double (if (cmpValue (FP.dcmp d1 (0 : UInt64)) .l) = (0 : Int32) then (0 : UInt64) else (FP.ddiv d0 d1)))) (fun h => by rw [Bd.returns] at h; cases h)
  refine ⟨_, _, pre0 _ ?_, hrun, hended, _, _, rfl, ?_, ⟨_, rfl⟩, hW, hsame.mono (by decide) (by decide)⟩
  · show Steps p.tables e below (s₁.setTop (mkF m 0 #[dv d0, .second, dv d1, .second] [])) _
    refine mdloadN 1 G0 d1_0 rfl rfl ?_
    refine mdconst0 2 G0 d1_1 (v := (0 : UInt64)) rfl rfl ?_
    refine mdcmp 3 G0 d1_2 rfl ?_
    refine st2 _ ?_
    exact retOut X2 hx Bd.returns rfl (Or.inr (Or.inr (Or.inl ⟨rfl, rfl, _, rfl⟩))) (hb hby d1_13) hr
  · show Q1 Z d0 d1 h0 n0 _ T2.heap _
    rw [e2]
    exact ⟨by simp only [rv1], rfl, rfl⟩
theorem own_nn {a b : UInt64} (ha : Jvm.FP.Core.DFin a) (hb : Jvm.FP.Core.DFin b) : (¬ ((cmpValue (FP.dcmp b (0 : UInt64)) .l) = (0 : Int32))) → Jvm.Free.Fl.NoNaN64 (FP.ddiv a b) := fun h =>
  OwnFl.no_of (OwnFl.div_nan ha hb (fun q => h ((OwnFl.cv_eq hb.ne_nan OwnFl.dy_zero.nn _).mpr (q.trans OwnFl.dy_zero.2.symm))))
def own_H : Int := ((2 ^ (1074 - 1) : Nat) : Int)
theorem own_2H : OwnFl.ONE = 2 * own_H := by decide +kernel
theorem own_Hpos : 0 < own_H := Int.natCast_pos.mpr (Nat.two_pow_pos _)
theorem own_half : OwnFl.Dy 4602678819172646912 own_H := OwnFl.dy_lit _ _ (by decide) (by decide +kernel)
/-- the quotient of two ints, between the whole numbers lo and hi -/
theorem own_between {P W q r lo hi : Int} (hW : W ≠ 0) (e : W * q + r = P) (hr : -W.natAbs < r ∧ r < W.natAbs) (s1 : 0 ≤ P → 0 ≤ r) (s2 : P ≤ 0 → r ≤ 0) (nn : Prop) [Decidable nn] (hnn : nn ↔ (P = 0 ∨ (0 < P ↔ 0 < W))) (hlo : lo = if nn then q else q - 1) (hhi : hi = if nn then q + 1 else q) :
    (0 < W → lo * W ≤ P ∧ P ≤ hi * W) ∧ (W < 0 → P ≤ lo * W ∧ hi * W ≤ P) := by
  have e1 : q * W = P - r := by rw [Int.mul_comm]; omega
  have e2 : (q - 1) * W = P - r - W := by rw [Int.sub_mul, e1, Int.one_mul]
  have e3 : (q + 1) * W = P - r + W := by rw [Int.add_mul, e1, Int.one_mul]
  by_cases h : nn
  · rw [if_pos h] at hlo hhi
    subst hlo hhi
    rw [e1, e3]
    have := hnn.mp h
    constructor <;> intro w <;> constructor <;> omega
  · rw [if_neg h] at hlo hhi
    subst hlo hhi
    rw [e1, e2]
    have : ¬ (P = 0 ∨ (0 < P ↔ 0 < W)) := fun z => h (hnn.mpr z)
    constructor <;> intro w <;> constructor <;> omega
theorem pd_0 : parseMethodDescriptor "(DD)D" = some ⟨[.double, .double], some .double⟩ := by decide +kernel
theorem pn_0 : plainName "com/example/queries_into_facets/queriesintofacets/measures/FacetMeasuresRatioPinLaw" = true := by first | (simp [plainName, overriddenIn]; done) | decide +kernel
theorem ef0 (m : MethodId) (p0 : Int32) (p1 : Int32) (p2 : Int32) : entryFrame m #[(.int p0), (.int p1), (.int p2)] maxLocals = mkF m 0 #[iv p0, iv p1, iv p2, .unset, .unset, .unset, .unset, .unset, .unset, .unset, .unset, .unset, .unset, .unset, .unset, .unset, .unset, .unset, .unset] [] := by first | (simp [entryFrame, mkF, argsToLocals, Value.category, maxLocals]; done) | rfl
def Q0 (Z : State) (p0 : Int32) (p1 : Int32) (p2 : Int32) (h0 : Heap) (n0 : Nat) (v : Option Value) (h : Heap) (L : List Loc) : Prop := v = some (.int 1) ∧ Fr n0 L
theorem own_rm0_hp_hn12_4 (p0 : Int32) (p1 : Int32) (p2 : Int32) : (¬ ((cmpValue (FP.dcmp (FP.i2d p1) (0 : UInt64)) .l) = (0 : Int32))) → Jvm.Free.Fl.NoNaN64 (FP.ddiv (FP.i2d p0) (FP.i2d p1)) := own_nn (OwnFl.dy_i2d p0).1 (OwnFl.dy_i2d p1).1
theorem own_rm0_end (p0 : Int32) (p1 : Int32) (p2 : Int32) (x2 : UInt64) (hx2 : x2 = (rv1 (FP.i2d p0) (FP.i2d p1))) (x6 : Int32) (hx6 : x6 = (if (cmpValue (FP.dcmp x2 (0 : UInt64)) .l) = (0 : Int32) then (1 : Int32) else (0 : Int32))) (hc9_3 : (p1 = (0 : Int32))) : x6 = 1 := by
  subst hx2 hx6 hc9_3
  have q := (OwnFl.cv_eq OwnFl.dy_zero.nn OwnFl.dy_zero.nn .l).mpr rfl
  have z : FP.i2d 0 = 0 := by decide +kernel
  rw [z]
  unfold rv1
  rw [if_pos q, if_pos q]
theorem own_rm0_hp_hn12_55 (p0 : Int32) (p1 : Int32) (p2 : Int32) (x2 : UInt64) (hx2 : x2 = (rv1 (FP.i2d p0) (FP.i2d p1))) (x7 : Int64) (hx7 : x7 = (p2 % (1024 : Int32)).toInt64) (x8 : Int64) (hx8 : x8 = p1.toInt64) (hc9_3 : (¬ (p1 = (0 : Int32)))) : (¬ ((cmpValue (FP.dcmp (FP.l2d ((2 : Int64) * x8)) (0 : UInt64)) .l) = (0 : Int32))) → Jvm.Free.Fl.NoNaN64 (FP.ddiv (FP.l2d ((((2 : Int64) * x7) + (1 : Int64)) * x8)) (FP.l2d ((2 : Int64) * x8))) := own_nn (Jvm.FP.Core.l2d_fin _) (Jvm.FP.Core.l2d_fin _)
theorem own_rm0_hn68 (p0 : Int32) (p1 : Int32) (p2 : Int32) (x2 : UInt64) (hx2 : x2 = (rv1 (FP.i2d p0) (FP.i2d p1))) (x7 : Int64) (hx7 : x7 = (p2 % (1024 : Int32)).toInt64) (x8 : Int64) (hx8 : x8 = p1.toInt64) (x10 : UInt64) (hx10 : x10 = (rv1 (FP.l2d ((((2 : Int64) * x7) + (1 : Int64)) * x8)) (FP.l2d ((2 : Int64) * x8)))) (hc9_3 : (¬ (p1 = (0 : Int32)))) : Jvm.Free.Fl.NoNaN64 (FP.dadd (FP.l2d x7) (4602678819172646912 : UInt64)) := OwnFl.no_of (OwnFl.add_nan (Jvm.FP.Core.l2d_fin _) own_half.1)
theorem own_rm0_hz84 (p0 : Int32) (p1 : Int32) (p2 : Int32) (x2 : UInt64) (hx2 : x2 = (rv1 (FP.i2d p0) (FP.i2d p1))) (x7 : Int64) (hx7 : x7 = (p2 % (1024 : Int32)).toInt64) (x8 : Int64) (hx8 : x8 = p1.toInt64) (x10 : UInt64) (hx10 : x10 = (rv1 (FP.l2d ((((2 : Int64) * x7) + (1 : Int64)) * x8)) (FP.l2d ((2 : Int64) * x8)))) (x13 : Int32) (hx13 : x13 = (if (cmpValue (FP.dcmp x10 (FP.dadd (FP.l2d x7) (4602678819172646912 : UInt64))) .l) = (0 : Int32) then (1 : Int32) else (0 : Int32))) (hc9_3 : (¬ (p1 = (0 : Int32)))) : ¬ (x8 = (0 : Int64)) := fun q => hc9_3 (by
  rw [hx8] at q
  have := congrArg Int64.toInt q
  rw [Jvm.Kit.i64_of_i32] at this
  exact Int32.toInt_inj.mp this)
theorem own_rm0_end_1 (p0 : Int32) (p1 : Int32) (p2 : Int32) (x2 : UInt64) (hx2 : x2 = (rv1 (FP.i2d p0) (FP.i2d p1))) (x7 : Int64) (hx7 : x7 = (p2 % (1024 : Int32)).toInt64) (x8 : Int64) (hx8 : x8 = p1.toInt64) (x10 : UInt64) (hx10 : x10 = (rv1 (FP.l2d ((((2 : Int64) * x7) + (1 : Int64)) * x8)) (FP.l2d ((2 : Int64) * x8)))) (x13 : Int32) (hx13 : x13 = (if (cmpValue (FP.dcmp x10 (FP.dadd (FP.l2d x7) (4602678819172646912 : UInt64))) .l) = (0 : Int32) then (1 : Int32) else (0 : Int32))) (x14 : Int64) (hx14 : x14 = (p0.toInt64 / x8)) (x17 : Int32) (hx17 : x17 = (if p0 = (0 : Int32) then (1 : Int32) else (if (if (0 : Int32) < p0 then (1 : Int32) else (0 : Int32)) = (if (0 : Int32) < p1 then (1 : Int32) else (0 : Int32)) then (1 : Int32) else (0 : Int32)))) (x25 : Int64) (hx25 : x25 = (if x17 = (0 : Int32) then (x14 - (1 : Int64)) else x14)) (x28 : Int64) (hx28 : x28 = (if x17 = (0 : Int32) then x14 else (x14 + (1 : Int64)))) (x31 : Int32) (hx31 : x31 = (if x13 = (0 : Int32) then (0 : Int32) else (if (0 : Int32) < (cmpValue (FP.dcmp (FP.l2d x25) x2) .g) then (0 : Int32) else (if (0 : Int32) < (cmpValue (FP.dcmp x2 (FP.l2d x28)) .g) then (0 : Int32) else (1 : Int32))))) (hc9_3 : (¬ (p1 = (0 : Int32)))) : x31 = 1 := by
  have w := OwnFl.one_pos
  have b0 := Int32.toInt_lt p0
  have b0' := Int32.le_toInt p0
  have b1 := Int32.toInt_lt p1
  have b1' := Int32.le_toInt p1
  have hW : p1.toInt ≠ 0 := fun q => hc9_3 (Int32.toInt_inj.mp q)
  have e7 : x7.toInt = p2.toInt.tmod 1024 := by rw [hx7, Jvm.Kit.i64_of_i32, Jvm.Kit.i32_rem]; rfl
  have t7 := Jvm.LawKit.tmod_bounds (a := p2.toInt) (M := 1024) (by decide)
  rw [← e7] at t7
  have e8 : x8.toInt = p1.toInt := by rw [hx8, Jvm.Kit.i64_of_i32]
  have l2 : (2 : Int64).toInt = 2 := rfl
  have l1 : (1 : Int64).toInt = 1 := rfl
  have k1 : ((2 : Int64) * x8).toInt = 2 * p1.toInt := by rw [Jvm.Kit.i64_mul, l2, e8] <;> rw [l2, e8] <;> omega
  have k0 : ((2 : Int64) * x7).toInt = 2 * x7.toInt := by rw [Jvm.Kit.i64_mul, l2] <;> rw [l2] <;> omega
  have k2 : (((2 : Int64) * x7) + (1 : Int64)).toInt = 2 * x7.toInt + 1 := by rw [Jvm.Kit.i64_add, k0, l1] <;> rw [k0, l1] <;> omega
  have kb := OwnFl.mul_bd (a := 2 * x7.toInt + 1) (b := p1.toInt) (A := 2047) (B := 2147483648) (by omega) (by omega)
  have k3 : ((((2 : Int64) * x7) + (1 : Int64)) * x8).toInt = (2 * x7.toInt + 1) * p1.toInt := by rw [Jvm.Kit.i64_mul, k2, e8] <;> rw [k2, e8] <;> omega
  have dn := OwnFl.dy_l2d (n := ((((2 : Int64) * x7) + (1 : Int64)) * x8)) (by rw [k3]; omega)
  have dd := OwnFl.dy_l2d (n := ((2 : Int64) * x8)) (by rw [k1]; omega)
  rw [k3] at dn
  rw [k1] at dd
  have i0 := OwnFl.dy_i2d p0
  have i1 := OwnFl.dy_i2d p1
  have r2 : x2 = FP.ddiv (FP.i2d p0) (FP.i2d p1) := by
    rw [hx2]; unfold rv1
    rw [if_neg (fun q => hW ((OwnFl.cw_eq i1 OwnFl.dy_zero' _).mp q))]
  have r10 : x10 = FP.ddiv (FP.l2d ((((2 : Int64) * x7) + (1 : Int64)) * x8)) (FP.l2d ((2 : Int64) * x8)) := by
    rw [hx10]; unfold rv1
    rw [if_neg (fun q => hW (by have := (OwnFl.cw_eq dd OwnFl.dy_zero' _).mp q; omega))]
  have e := own_2H
  have hH := own_Hpos
  have d10 : OwnFl.Dy x10 ((2 * x7.toInt + 1) * own_H) := by
    rw [r10]
    refine OwnFl.dy_div dn dd (fun q => hW (by have := (OwnFl.one_eq (x := 2 * p1.toInt) (y := 0)).mp (by rw [q, Int.zero_mul]); omega)) (OwnFl.rep_int _ 1 (by omega) (by decide)) ?_
    rw [e]
    generalize own_H = H
    grind
  have ds : OwnFl.Dy (FP.dadd (FP.l2d x7) (4602678819172646912 : UInt64)) ((2 * x7.toInt + 1) * own_H) := by
    have z : x7.toInt * OwnFl.ONE + own_H = (2 * x7.toInt + 1) * own_H := by rw [e]; generalize own_H = H; grind
    have := OwnFl.dy_add (OwnFl.dy_l2d (n := x7) (by omega)) own_half (by rw [z]; exact OwnFl.rep_int _ 1 (by omega) (by decide))
    rwa [z] at this
  have e13 : x13 = 1 := by rw [hx13, if_pos ((OwnFl.cv_eq d10.nn ds.nn _).mpr (d10.2.trans ds.2.symm))]
  have e14 : x14.toInt = p0.toInt.tdiv p1.toInt := by
    rw [hx14, Jvm.Kit.i64_div, Jvm.Kit.i64_of_i32, e8]
    rw [Jvm.Kit.i64_of_i32]; omega
  have nn : x17 = 0 ↔ ¬ (p0.toInt = 0 ∨ (0 < p0.toInt ↔ 0 < p1.toInt)) := by
    have c0 : p0 = 0 ↔ p0.toInt = 0 := ⟨fun h => by rw [h]; rfl, fun h => Int32.toInt_inj.mp h⟩
    have c1 : (0 : Int32) < p0 ↔ 0 < p0.toInt := Int32.lt_iff_toInt_lt
    have c2 : (0 : Int32) < p1 ↔ 0 < p1.toInt := Int32.lt_iff_toInt_lt
    rw [hx17]
    simp only [c0, c1, c2]
    by_cases g0 : p0.toInt = 0 <;> by_cases g1 : 0 < p0.toInt <;> by_cases g2 : 0 < p1.toInt <;> simp [g0, g1, g2]
  have tb : -(p1.toInt.natAbs : Int) < p0.toInt.tmod p1.toInt ∧ p0.toInt.tmod p1.toInt < p1.toInt.natAbs := own_tmod hW
  have qb : p0.toInt.tdiv p1.toInt ≤ 2147483648 ∧ -2147483648 ≤ p0.toInt.tdiv p1.toInt := own_tdiv (by omega)
  have B := own_between (P := p0.toInt) (W := p1.toInt) (q := x14.toInt) (r := p0.toInt.tmod p1.toInt) (lo := x25.toInt) (hi := x28.toInt) hW (by rw [e14]; exact Int.mul_tdiv_add_tmod _ _) tb (fun h => Int.tmod_nonneg _ h) (fun h => by have z := Int.tmod_nonneg (a := -p0.toInt) p1.toInt (by omega); rw [Int.neg_tmod] at z; omega) (¬ x17 = 0) (by rw [nn]; exact Decidable.not_not) (by
    rw [hx25]; by_cases g : x17 = 0
    · rw [if_pos g, if_neg (by simpa using g), Jvm.Kit.i64_sub, l1] <;> rw [l1] <;> omega
    · rw [if_neg g, if_pos g]) (by
    rw [hx28]; by_cases g : x17 = 0
    · rw [if_pos g, if_neg (by simpa using g)]
    · rw [if_neg g, if_pos g, Jvm.Kit.i64_add, l1] <;> rw [l1] <;> omega)
  have lob : x25.toInt.natAbs ≤ 2147483649 ∧ x28.toInt.natAbs ≤ 2147483649 := by
    rw [hx25, hx28]
    by_cases g : x17 = 0
    · rw [if_pos g, if_pos g]
      have : (x14 - 1).toInt = x14.toInt - 1 := by rw [Jvm.Kit.i64_sub, l1] <;> rw [l1] <;> omega
      omega
    · rw [if_neg g, if_neg g]
      have : (x14 + 1).toInt = x14.toInt + 1 := by rw [Jvm.Kit.i64_add, l1] <;> rw [l1] <;> omega
      omega
  have dl := OwnFl.dy_l2d (n := x25) (by omega)
  have dh := OwnFl.dy_l2d (n := x28) (by omega)
  have hz1 : OwnFl.zv (FP.i2d p1) ≠ 0 := fun q => hW ((OwnFl.one_eq (y := 0)).mp (by rw [← i1.2, q, Int.zero_mul]))
  have hn2 : Jvm.FP.Core.val64 x2 ≠ .nan := by rw [r2]; exact OwnFl.div_nan i0.1 i1.1 hz1
  have mul : ∀ a b : Int, a ≤ b → a * OwnFl.ONE * OwnFl.ONE ≤ b * OwnFl.ONE * OwnFl.ONE := fun a b h => OwnFl.one_le.mpr (OwnFl.one_le.mpr h)
  have lo : OwnFl.zv (FP.l2d x25) ≤ OwnFl.zv x2 := by
    rw [r2]
    rcases Int.lt_or_gt_of_ne hW with q | q
    · refine OwnFl.div_ge_neg i0.1 i1.1 (by rw [i1.2]; exact Int.mul_neg_of_neg_of_pos q w) dl.nn ?_
      rw [i0.2, i1.2, dl.2]
      have := mul _ _ (B.2 q).1
      generalize OwnFl.ONE = O at *
      grind
    · refine OwnFl.div_ge_pos i0.1 i1.1 (by rw [i1.2]; exact Int.mul_pos q w) dl.nn ?_
      rw [i0.2, i1.2, dl.2]
      have := mul _ _ (B.1 q).1
      generalize OwnFl.ONE = O at *
      grind
  have hi : OwnFl.zv x2 ≤ OwnFl.zv (FP.l2d x28) := by
    rw [r2]
    rcases Int.lt_or_gt_of_ne hW with q | q
    · refine OwnFl.div_le_neg i0.1 i1.1 (by rw [i1.2]; exact Int.mul_neg_of_neg_of_pos q w) dh.nn ?_
      rw [i0.2, i1.2, dh.2]
      have := mul _ _ (B.2 q).2
      generalize OwnFl.ONE = O at *
      grind
    · refine OwnFl.div_le_pos i0.1 i1.1 (by rw [i1.2]; exact Int.mul_pos q w) dh.nn ?_
      rw [i0.2, i1.2, dh.2]
      have := mul _ _ (B.1 q).2
      generalize OwnFl.ONE = O at *
      grind
  rw [hx31, e13, if_neg (by decide), if_neg (fun q => by rw [OwnFl.cv_gt dl.nn hn2] at q; omega), if_neg (fun q => by rw [OwnFl.cv_gt hn2 dh.nn] at q; omega)]
set_option maxRecDepth 65536 in
set_option maxHeartbeats 40000000 in
theorem rm0 (l : Launch) (Z : State) (a0 : Array Value) (hw : ∀ d ∈ tables_1, d.before a0 Z = true) (ws : List Jvm.Cond) (p0 : Int32) (p1 : Int32) (p2 : Int32)  (h0 : Heap) (n0 : Nat) (Z0 : n0 ≤ h0.size) :
    MetFree l x (head1 (Jvm.Cond.code x code maxLocals ret :: ws) room_1) (fun a U => a = #[(.int p0), (.int p1), (.int p2)] ∧ Z.Warmed39 U.vm ∧ U.heap = h0) (fun _ _ _ _ _ => True) (fun _ U o U' => ∃ v L, o = .returned v ∧ Q0 Z p0 p1 p2 h0 n0 v U'.heap L ∧ FrameEnd U o U' L room_1.cells room_1.slots) := by
  refine MetFree.of_bodySF (plainFor_of_name pn_0) hisR ?_
  intro p e s m args below meth c s₁ Bd hml0 hP hK
  obtain ⟨rfl, hZ, hh⟩ := hP
  have hx := Bd.exec
  have hby := Bd.bytes
  have hml : c.maxLocals = 19 := hml0
  have hown : s.vm.findClass "com/example/queries_into_facets/queriesintofacets/measures/FacetMeasuresRatioPinLaw" = some m.cls := findClass_of_methodNamed Bd.named
  have hnm := (name_of_methodNamed Bd.named Bd.method).1
  have X0 : Stand p l e room_1 s m #[(.int p0), (.int p1), (.int p2)] below meth c s₁ [] 0 0 := Stand.of_body Bd
  have e0 : s₁.heap = h0 := by rw [← hh, Bd.state]; rfl
  have N0 := Fr.nil n0
  have G0 := gd X0 hx hby
  have pre0 : ∀ t, Steps p.tables e below (s₁.setTop (mkF m 0 #[iv p0, iv p1, iv p2, .unset, .unset, .unset, .unset, .unset, .unset, .unset, .unset, .unset, .unset, .unset, .unset, .unset, .unset, .unset, .unset] [])) t → Steps p.tables e below (s₁.setTop (entryFrame m #[(.int p0), (.int p1), (.int p2)] maxLocals)) t := fun t k => castTop (ef0 m p0 p1 p2) k
  obtain ⟨_, _, ⟨T1, L1, k1, n1⟩, -, X1, ⟨Lc1, hQ1, l1, y1, z1⟩, st1⟩ := Jvm.LawKit.callS X0 hx (y := (⟨"com/example/queries_into_facets/queriesintofacets/measures/FacetMeasures", "ratio", "(DD)D"⟩ : MethodName)) hown (mvT hZ (wd hw 0 rfl)) (mvT hZ (wd hw 1 rfl)) (mvT hZ (wd hw 2 rfl)) (mvT hZ (wd hw 3 rfl)) (by decide) (backOf (W := 0) (rm1 l Z a0 hw [] ((FP.i2d p0)) ((FP.i2d p1)) h0 n0 Z0 (own_rm0_hp_hn12_4 p0 p1 p2)) hZ (wd hw 3 rfl) (wd hw 2 rfl) (by decide) (by decide)) (g := (mkF m 4 #[iv p0, iv p1, iv p2, .unset, .unset, .unset, .unset, .unset, .unset, .unset, .unset, .unset, .unset, .unset, .unset, .unset, .unset, .unset, .unset] [(.double (FP.i2d p1)), (.double (FP.i2d p0))])) rfl (by rw [hml]; rfl) (argsL := [(.double (FP.i2d p0)), (.double (FP.i2d p1))]) (rest := []) (lenOf pd_0 rfl) rfl (by show 2 * 0 + _ ≤ _; exact Nat.le_of_eq rfl) (hb hby at_4) (fun _ _ => ⟨rfl, e0, (by decide : 0 + 0 ≤ _), (by decide : 0 + 0 ≤ _)⟩)
  dsimp only [Pt.U, Pt.locs, Pt.cells, Pt.slots] at X1 l1 y1 z1 st1 hQ1
  replace l1 : ([] ++ Lc1) = L1 := l1.symm
  subst l1 y1 z1
  obtain ⟨rfl, rfl, e1⟩ := hQ1
  simp only [List.append_nil, Nat.add_zero] at X1
  have G1 := gd X1 hx hby
  obtain ⟨x2, hx2⟩ : ∃ z : UInt64, z = (rv1 (FP.i2d p0) (FP.i2d p1)) := ⟨_, rfl⟩
  by_cases hc9_3 : p1 = (0 : Int32)
  · obtain ⟨x6, hx6⟩ : ∃ z : Int32, z = (if (cmpValue (FP.dcmp x2 (0 : UInt64)) .l) = (0 : Int32) then (1 : Int32) else (0 : Int32)) := ⟨_, rfl⟩
    obtain ⟨T5, X5, e5, st5⟩ : ∃ T' : State, Stand p l e room_1 s m #[(.int p0), (.int p1), (.int p2)] below meth c T' [] 0 0 ∧ T'.heap = h0 ∧ ∀ target, Steps p.tables e below (T'.setTop (mkF m 23 #[iv p0, iv p1, iv p2, dv x2, .second, .unset, .unset, .unset, .unset, .unset, .unset, .unset, .unset, .unset, .unset, .unset, .unset, .unset, .unset] [(.int x6)])) target → Steps p.tables e below (T1.setTop (mkF m 15 #[iv p0, iv p1, iv p2, dv x2, .second, .unset, .unset, .unset, .unset, .unset, .unset, .unset, .unset, .unset, .unset, .unset, .unset, .unset, .unset] [(.int (cmpValue (FP.dcmp x2 (0 : UInt64)) .l))])) target := by
      by_cases hc15_4 : (cmpValue (FP.dcmp x2 (0 : UInt64)) .l) = (0 : Int32)
      · refine ⟨T1, X1, e1, fun target kt => ?_⟩
        refine mifNo 18 G1 at_15 ((if0 _ _).trans (teq hc15_4).2) rfl ?_
        refine miconst 19 G1 at_18 (v := (1 : Int32)) rfl rfl ?_
        refine mgoto 23 G1 at_19 (by decide) rfl ?_
        exact castTop (g' := (mkF m 23 #[iv p0, iv p1, iv p2, dv x2, .second, .unset, .unset, .unset, .unset, .unset, .unset, .unset, .unset, .unset, .unset, .unset, .unset, .unset, .unset] [(.int x6)])) (by simp only [hx6, if_pos hc15_4]) kt
      · refine ⟨T1, X1, e1, fun target kt => ?_⟩
        refine mifYes 22 G1 at_15 ((if0 _ _).trans (feq hc15_4).2) (by decide) rfl ?_
        refine miconst 23 G1 at_22 (v := (0 : Int32)) rfl rfl ?_
        exact castTop (g' := (mkF m 23 #[iv p0, iv p1, iv p2, dv x2, .second, .unset, .unset, .unset, .unset, .unset, .unset, .unset, .unset, .unset, .unset, .unset, .unset, .unset, .unset] [(.int x6)])) (by simp only [hx6, if_neg hc15_4]) kt
    have G5 := gd X5 hx hby
    have hend : x6 = 1 := (own_rm0_end p0 p1 p2 x2 hx2 x6 hx6 hc9_3)
    obtain ⟨fs, hr, hrun, hended, hW, hsame⟩ := X5.leave (v := some (.int (1 : Int32))) (fun h => by rw [Bd.returns] at h; cases h)
    refine ⟨_, _, pre0 _ ?_, hrun, hended, _, _, rfl, ?_, ⟨_, rfl⟩, hW, hsame.mono (by decide) (by decide)⟩
    · show Steps p.tables e below (s₁.setTop (mkF m 0 #[iv p0, iv p1, iv p2, .unset, .unset, .unset, .unset, .unset, .unset, .unset, .unset, .unset, .unset, .unset, .unset, .unset, .unset, .unset, .unset] [])) _
      refine miloadN 1 G0 at_0 rfl rfl ?_
      refine mi2d 2 G0 at_1 rfl ?_
      refine miloadN 3 G0 at_2 rfl rfl ?_
      refine mi2d 4 G0 at_3 rfl ?_
      refine st1 _ ?_
      show Steps p.tables e below (T1.setTop (mkF m 7 #[iv p0, iv p1, iv p2, .unset, .unset, .unset, .unset, .unset, .unset, .unset, .unset, .unset, .unset, .unset, .unset, .unset, .unset, .unset, .unset] [(.double (rv1 (FP.i2d p0) (FP.i2d p1)))])) _
      refine castTop (g' := (mkF m 7 #[iv p0, iv p1, iv p2, .unset, .unset, .unset, .unset, .unset, .unset, .unset, .unset, .unset, .unset, .unset, .unset, .unset, .unset, .unset, .unset] [(.double x2)])) (by rw [hx2]) ?_
      refine mdstoreN 8 G1 at_7 #[iv p0, iv p1, iv p2, dv x2, .second, .unset, .unset, .unset, .unset, .unset, .unset, .unset, .unset, .unset, .unset, .unset, .unset, .unset, .unset] rfl rfl ?_
      refine miloadN 9 G1 at_8 rfl rfl ?_
      refine mifNo 12 G1 at_9 ((if0 _ _).trans (teq hc9_3).2) rfl ?_
      refine mdloadN 13 G1 at_12 rfl rfl ?_
      refine mdconst0 14 G1 at_13 (v := (0 : UInt64)) rfl rfl ?_
      refine mdcmp 15 G1 at_14 rfl ?_
      refine st5 _ ?_
      refine castTop (g' := (mkF m 23 #[iv p0, iv p1, iv p2, dv x2, .second, .unset, .unset, .unset, .unset, .unset, .unset, .unset, .unset, .unset, .unset, .unset, .unset, .unset, .unset] [(.int (1 : Int32))])) (by rw [hend]) ?_
      exact retN X5 hx (t := .boolean) Bd.returns (by simp) (hb hby at_23) hr
    · show Q0 Z p0 p1 p2 h0 n0 _ T5.heap _
      rw [e5]
      exact ⟨rfl, N0⟩
  · obtain ⟨x7, hx7⟩ : ∃ z : Int64, z = (p2 % (1024 : Int32)).toInt64 := ⟨_, rfl⟩
    obtain ⟨x8, hx8⟩ : ∃ z : Int64, z = p1.toInt64 := ⟨_, rfl⟩
    obtain ⟨_, _, ⟨T9, L9, k9, n9⟩, -, X9, ⟨Lc9, hQ9, l9, y9, z9⟩, st9⟩ := Jvm.LawKit.callS X1 hx (y := (⟨"com/example/queries_into_facets/queriesintofacets/measures/FacetMeasures", "ratio", "(DD)D"⟩ : MethodName)) hown (mvT hZ (wd hw 0 rfl)) (mvT hZ (wd hw 1 rfl)) (mvT hZ (wd hw 2 rfl)) (mvT hZ (wd hw 3 rfl)) (by decide) (backOf (W := 0) (rm1 l Z a0 hw [] ((FP.l2d ((((2 : Int64) * x7) + (1 : Int64)) * x8))) ((FP.l2d ((2 : Int64) * x8))) h0 n0 Z0 (own_rm0_hp_hn12_55 p0 p1 p2 x2 hx2 x7 hx7 x8 hx8 hc9_3)) hZ (wd hw 3 rfl) (wd hw 2 rfl) (by decide) (by decide)) (g := (mkF m 55 #[iv p0, iv p1, iv p2, dv x2, .second, lv x7, .second, lv x8, .second, .unset, .unset, .unset, .unset, .unset, .unset, .unset, .unset, .unset, .unset] [(.double (FP.l2d ((2 : Int64) * x8))), (.double (FP.l2d ((((2 : Int64) * x7) + (1 : Int64)) * x8)))])) rfl (by rw [hml]; rfl) (argsL := [(.double (FP.l2d ((((2 : Int64) * x7) + (1 : Int64)) * x8))), (.double (FP.l2d ((2 : Int64) * x8)))]) (rest := []) (lenOf pd_0 rfl) rfl (by show 2 * 0 + _ ≤ _; exact Nat.le_of_eq rfl) (hb hby at_55) (fun _ _ => ⟨rfl, e1, (by decide : 0 + 0 ≤ _), (by decide : 0 + 0 ≤ _)⟩)
    dsimp only [Pt.U, Pt.locs, Pt.cells, Pt.slots] at X9 l9 y9 z9 st9 hQ9
    replace l9 : ([] ++ Lc9) = L9 := l9.symm
    subst l9 y9 z9
    obtain ⟨rfl, rfl, e9⟩ := hQ9
    simp only [List.append_nil, Nat.add_zero] at X9
    have G9 := gd X9 hx hby
    obtain ⟨x10, hx10⟩ : ∃ z : UInt64, z = (rv1 (FP.l2d ((((2 : Int64) * x7) + (1 : Int64)) * x8)) (FP.l2d ((2 : Int64) * x8))) := ⟨_, rfl⟩
    obtain ⟨x13, hx13⟩ : ∃ z : Int32, z = (if (cmpValue (FP.dcmp x10 (FP.dadd (FP.l2d x7) (4602678819172646912 : UInt64))) .l) = (0 : Int32) then (1 : Int32) else (0 : Int32)) := ⟨_, rfl⟩
    obtain ⟨T12, X12, e12, st12⟩ : ∃ T' : State, Stand p l e room_1 s m #[(.int p0), (.int p1), (.int p2)] below meth c T' [] 0 0 ∧ T'.heap = h0 ∧ ∀ target, Steps p.tables e below (T'.setTop (mkF m 78 #[iv p0, iv p1, iv p2, dv x2, .second, lv x7, .second, lv x8, .second, dv x10, .second, .unset, .unset, .unset, .unset, .unset, .unset, .unset, .unset] [(.int x13)])) target → Steps p.tables e below (T9.setTop (mkF m 70 #[iv p0, iv p1, iv p2, dv x2, .second, lv x7, .second, lv x8, .second, dv x10, .second, .unset, .unset, .unset, .unset, .unset, .unset, .unset, .unset] [(.int (cmpValue (FP.dcmp x10 (FP.dadd (FP.l2d x7) (4602678819172646912 : UInt64))) .l))])) target := by
      by_cases hc70_11 : (cmpValue (FP.dcmp x10 (FP.dadd (FP.l2d x7) (4602678819172646912 : UInt64))) .l) = (0 : Int32)
      · refine ⟨T9, X9, e9, fun target kt => ?_⟩
        refine mifNo 73 G9 at_70 ((if0 _ _).trans (teq hc70_11).2) rfl ?_
        refine miconst 74 G9 at_73 (v := (1 : Int32)) rfl rfl ?_
        refine mgoto 78 G9 at_74 (by decide) rfl ?_
        exact castTop (g' := (mkF m 78 #[iv p0, iv p1, iv p2, dv x2, .second, lv x7, .second, lv x8, .second, dv x10, .second, .unset, .unset, .unset, .unset, .unset, .unset, .unset, .unset] [(.int x13)])) (by simp only [hx13, if_pos hc70_11]) kt
      · refine ⟨T9, X9, e9, fun target kt => ?_⟩
        refine mifYes 77 G9 at_70 ((if0 _ _).trans (feq hc70_11).2) (by decide) rfl ?_
        refine miconst 78 G9 at_77 (v := (0 : Int32)) rfl rfl ?_
        exact castTop (g' := (mkF m 78 #[iv p0, iv p1, iv p2, dv x2, .second, lv x7, .second, lv x8, .second, dv x10, .second, .unset, .unset, .unset, .unset, .unset, .unset, .unset, .unset] [(.int x13)])) (by simp only [hx13, if_neg hc70_11]) kt
    have G12 := gd X12 hx hby
    obtain ⟨x14, hx14⟩ : ∃ z : Int64, z = (p0.toInt64 / x8) := ⟨_, rfl⟩
    obtain ⟨x17, hx17⟩ : ∃ z : Int32, z = (if p0 = (0 : Int32) then (1 : Int32) else (if (if (0 : Int32) < p0 then (1 : Int32) else (0 : Int32)) = (if (0 : Int32) < p1 then (1 : Int32) else (0 : Int32)) then (1 : Int32) else (0 : Int32))) := ⟨_, rfl⟩
    obtain ⟨T16, X16, e16, st16⟩ : ∃ T' : State, Stand p l e room_1 s m #[(.int p0), (.int p1), (.int p2)] below meth c T' [] 0 0 ∧ T'.heap = h0 ∧ ∀ target, Steps p.tables e below (T'.setTop (mkF m 117 #[iv p0, iv p1, iv p2, dv x2, .second, lv x7, .second, lv x8, .second, dv x10, .second, iv x13, lv x14, .second, .unset, .unset, .unset, .unset, .unset] [(.int x17)])) target → Steps p.tables e below (T12.setTop (mkF m 88 #[iv p0, iv p1, iv p2, dv x2, .second, lv x7, .second, lv x8, .second, dv x10, .second, iv x13, lv x14, .second, .unset, .unset, .unset, .unset, .unset] [(.int p0)])) target := by
      by_cases hc88_15 : p0 = (0 : Int32)
      · refine ⟨T12, X12, e12, fun target kt => ?_⟩
        refine mifYes 112 G12 at_88 ((if0 _ _).trans (teq hc88_15).1) (by decide) rfl ?_
        refine miconst 113 G12 at_112 (v := (1 : Int32)) rfl rfl ?_
        refine mgoto 117 G12 at_113 (by decide) rfl ?_
        exact castTop (g' := (mkF m 117 #[iv p0, iv p1, iv p2, dv x2, .second, lv x7, .second, lv x8, .second, dv x10, .second, iv x13, lv x14, .second, .unset, .unset, .unset, .unset, .unset] [(.int x17)])) (by simp only [hx17, if_pos hc88_15]) kt
      · obtain ⟨T19, X19, e19, st19⟩ : ∃ T' : State, Stand p l e room_1 s m #[(.int p0), (.int p1), (.int p2)] below meth c T' [] 0 0 ∧ T'.heap = h0 ∧ ∀ target, Steps p.tables e below (T'.setTop (mkF m 100 #[iv p0, iv p1, iv p2, dv x2, .second, lv x7, .second, lv x8, .second, dv x10, .second, iv x13, lv x14, .second, .unset, .unset, .unset, .unset, .unset] [(.int (if (0 : Int32) < p0 then (1 : Int32) else (0 : Int32)))])) target → Steps p.tables e below (T12.setTop (mkF m 92 #[iv p0, iv p1, iv p2, dv x2, .second, lv x7, .second, lv x8, .second, dv x10, .second, iv x13, lv x14, .second, .unset, .unset, .unset, .unset, .unset] [(.int p0)])) target := by
          by_cases hc92_18 : (0 : Int32) < p0
          · refine ⟨T12, X12, e12, fun target kt => ?_⟩
            refine mifNo 95 G12 at_92 ((if0 _ _).trans (tlt hc92_18).2.2.2) rfl ?_
            refine miconst 96 G12 at_95 (v := (1 : Int32)) rfl rfl ?_
            refine mgoto 100 G12 at_96 (by decide) rfl ?_
            exact castTop (g' := (mkF m 100 #[iv p0, iv p1, iv p2, dv x2, .second, lv x7, .second, lv x8, .second, dv x10, .second, iv x13, lv x14, .second, .unset, .unset, .unset, .unset, .unset] [(.int (if (0 : Int32) < p0 then (1 : Int32) else (0 : Int32)))])) (by simp only [if_pos hc92_18]) kt
          · refine ⟨T12, X12, e12, fun target kt => ?_⟩
            refine mifYes 99 G12 at_92 ((if0 _ _).trans (flt hc92_18).2.2.2) (by decide) rfl ?_
            refine miconst 100 G12 at_99 (v := (0 : Int32)) rfl rfl ?_
            exact castTop (g' := (mkF m 100 #[iv p0, iv p1, iv p2, dv x2, .second, lv x7, .second, lv x8, .second, dv x10, .second, iv x13, lv x14, .second, .unset, .unset, .unset, .unset, .unset] [(.int (if (0 : Int32) < p0 then (1 : Int32) else (0 : Int32)))])) (by simp only [if_neg hc92_18]) kt
        have G19 := gd X19 hx hby
        obtain ⟨T21, X21, e21, st21⟩ : ∃ T' : State, Stand p l e room_1 s m #[(.int p0), (.int p1), (.int p2)] below meth c T' [] 0 0 ∧ T'.heap = h0 ∧ ∀ target, Steps p.tables e below (T'.setTop (mkF m 109 #[iv p0, iv p1, iv p2, dv x2, .second, lv x7, .second, lv x8, .second, dv x10, .second, iv x13, lv x14, .second, .unset, .unset, .unset, .unset, .unset] [(.int (if (0 : Int32) < p1 then (1 : Int32) else (0 : Int32))), (.int (if (0 : Int32) < p0 then (1 : Int32) else (0 : Int32)))])) target → Steps p.tables e below (T19.setTop (mkF m 101 #[iv p0, iv p1, iv p2, dv x2, .second, lv x7, .second, lv x8, .second, dv x10, .second, iv x13, lv x14, .second, .unset, .unset, .unset, .unset, .unset] [(.int p1), (.int (if (0 : Int32) < p0 then (1 : Int32) else (0 : Int32)))])) target := by
          by_cases hc101_20 : (0 : Int32) < p1
          · refine ⟨T19, X19, e19, fun target kt => ?_⟩
            refine mifNo 104 G19 at_101 ((if0 _ _).trans (tlt hc101_20).2.2.2) rfl ?_
            refine miconst 105 G19 at_104 (v := (1 : Int32)) rfl rfl ?_
            refine mgoto 109 G19 at_105 (by decide) rfl ?_
            exact castTop (g' := (mkF m 109 #[iv p0, iv p1, iv p2, dv x2, .second, lv x7, .second, lv x8, .second, dv x10, .second, iv x13, lv x14, .second, .unset, .unset, .unset, .unset, .unset] [(.int (if (0 : Int32) < p1 then (1 : Int32) else (0 : Int32))), (.int (if (0 : Int32) < p0 then (1 : Int32) else (0 : Int32)))])) (by simp only [if_pos hc101_20]) kt
          · refine ⟨T19, X19, e19, fun target kt => ?_⟩
            refine mifYes 108 G19 at_101 ((if0 _ _).trans (flt hc101_20).2.2.2) (by decide) rfl ?_
            refine miconst 109 G19 at_108 (v := (0 : Int32)) rfl rfl ?_
            exact castTop (g' := (mkF m 109 #[iv p0, iv p1, iv p2, dv x2, .second, lv x7, .second, lv x8, .second, dv x10, .second, iv x13, lv x14, .second, .unset, .unset, .unset, .unset, .unset] [(.int (if (0 : Int32) < p1 then (1 : Int32) else (0 : Int32))), (.int (if (0 : Int32) < p0 then (1 : Int32) else (0 : Int32)))])) (by simp only [if_neg hc101_20]) kt
        have G21 := gd X21 hx hby
        by_cases hc109_22 : (if (0 : Int32) < p0 then (1 : Int32) else (0 : Int32)) = (if (0 : Int32) < p1 then (1 : Int32) else (0 : Int32))
        · refine ⟨T21, X21, e21, fun target kt => ?_⟩
          refine mifNo 91 G12 at_88 ((if0 _ _).trans (feq hc88_15).1) rfl ?_
          refine miloadN 92 G12 at_91 rfl rfl ?_
          refine st19 _ ?_
          refine miloadN 101 G19 at_100 rfl rfl ?_
          refine st21 _ ?_
          refine micmpNo 112 G21 at_109 (teq hc109_22).2 rfl ?_
          refine miconst 113 G21 at_112 (v := (1 : Int32)) rfl rfl ?_
          refine mgoto 117 G21 at_113 (by decide) rfl ?_
          exact castTop (g' := (mkF m 117 #[iv p0, iv p1, iv p2, dv x2, .second, lv x7, .second, lv x8, .second, dv x10, .second, iv x13, lv x14, .second, .unset, .unset, .unset, .unset, .unset] [(.int x17)])) (by simp only [hx17, if_neg hc88_15, if_pos hc109_22]) kt
        · refine ⟨T21, X21, e21, fun target kt => ?_⟩
          refine mifNo 91 G12 at_88 ((if0 _ _).trans (feq hc88_15).1) rfl ?_
          refine miloadN 92 G12 at_91 rfl rfl ?_
          refine st19 _ ?_
          refine miloadN 101 G19 at_100 rfl rfl ?_
          refine st21 _ ?_
          refine micmpYes 116 G21 at_109 (feq hc109_22).2 (by decide) rfl ?_
          refine miconst 117 G21 at_116 (v := (0 : Int32)) rfl rfl ?_
          exact castTop (g' := (mkF m 117 #[iv p0, iv p1, iv p2, dv x2, .second, lv x7, .second, lv x8, .second, dv x10, .second, iv x13, lv x14, .second, .unset, .unset, .unset, .unset, .unset] [(.int x17)])) (by simp only [hx17, if_neg hc88_15, if_neg hc109_22]) kt
    have G16 := gd X16 hx hby
    obtain ⟨x25, hx25⟩ : ∃ z : Int64, z = (if x17 = (0 : Int32) then (x14 - (1 : Int64)) else x14) := ⟨_, rfl⟩
    obtain ⟨T24, X24, e24, st24⟩ : ∃ T' : State, Stand p l e room_1 s m #[(.int p0), (.int p1), (.int p2)] below meth c T' [] 0 0 ∧ T'.heap = h0 ∧ ∀ target, Steps p.tables e below (T'.setTop (mkF m 133 #[iv p0, iv p1, iv p2, dv x2, .second, lv x7, .second, lv x8, .second, dv x10, .second, iv x13, lv x14, .second, iv x17, .unset, .unset, .unset, .unset] [(.long x25)])) target → Steps p.tables e below (T16.setTop (mkF m 121 #[iv p0, iv p1, iv p2, dv x2, .second, lv x7, .second, lv x8, .second, dv x10, .second, iv x13, lv x14, .second, iv x17, .unset, .unset, .unset, .unset] [(.int x17)])) target := by
      by_cases hc121_23 : x17 = (0 : Int32)
      · refine ⟨T16, X16, e16, fun target kt => ?_⟩
        refine mifYes 129 G16 at_121 ((if0 _ _).trans (teq hc121_23).1) (by decide) rfl ?_
        refine mlload 131 G16 at_129 rfl rfl ?_
        refine mlconst 132 G16 at_131 (v := (1 : Int64)) rfl rfl ?_
        refine mlsub 133 G16 at_132 rfl rfl ?_
        exact castTop (g' := (mkF m 133 #[iv p0, iv p1, iv p2, dv x2, .second, lv x7, .second, lv x8, .second, dv x10, .second, iv x13, lv x14, .second, iv x17, .unset, .unset, .unset, .unset] [(.long x25)])) (by simp only [hx25, if_pos hc121_23]) kt
      · refine ⟨T16, X16, e16, fun target kt => ?_⟩
        refine mifNo 124 G16 at_121 ((if0 _ _).trans (feq hc121_23).1) rfl ?_
        refine mlload 126 G16 at_124 rfl rfl ?_
        refine mgoto 133 G16 at_126 (by decide) rfl ?_
        exact castTop (g' := (mkF m 133 #[iv p0, iv p1, iv p2, dv x2, .second, lv x7, .second, lv x8, .second, dv x10, .second, iv x13, lv x14, .second, iv x17, .unset, .unset, .unset, .unset] [(.long x25)])) (by simp only [hx25, if_neg hc121_23]) kt
    have G24 := gd X24 hx hby
    obtain ⟨x28, hx28⟩ : ∃ z : Int64, z = (if x17 = (0 : Int32) then x14 else (x14 + (1 : Int64))) := ⟨_, rfl⟩
    obtain ⟨T27, X27, e27, st27⟩ : ∃ T' : State, Stand p l e room_1 s m #[(.int p0), (.int p1), (.int p2)] below meth c T' [] 0 0 ∧ T'.heap = h0 ∧ ∀ target, Steps p.tables e below (T'.setTop (mkF m 149 #[iv p0, iv p1, iv p2, dv x2, .second, lv x7, .second, lv x8, .second, dv x10, .second, iv x13, lv x14, .second, iv x17, lv x25, .second, .unset, .unset] [(.long x28)])) target → Steps p.tables e below (T24.setTop (mkF m 137 #[iv p0, iv p1, iv p2, dv x2, .second, lv x7, .second, lv x8, .second, dv x10, .second, iv x13, lv x14, .second, iv x17, lv x25, .second, .unset, .unset] [(.int x17)])) target := by
      by_cases hc137_26 : x17 = (0 : Int32)
      · refine ⟨T24, X24, e24, fun target kt => ?_⟩
        refine mifYes 147 G24 at_137 ((if0 _ _).trans (teq hc137_26).1) (by decide) rfl ?_
        refine mlload 149 G24 at_147 rfl rfl ?_
        exact castTop (g' := (mkF m 149 #[iv p0, iv p1, iv p2, dv x2, .second, lv x7, .second, lv x8, .second, dv x10, .second, iv x13, lv x14, .second, iv x17, lv x25, .second, .unset, .unset] [(.long x28)])) (by simp only [hx28, if_pos hc137_26]) kt
      · refine ⟨T24, X24, e24, fun target kt => ?_⟩
        refine mifNo 140 G24 at_137 ((if0 _ _).trans (feq hc137_26).1) rfl ?_
        refine mlload 142 G24 at_140 rfl rfl ?_
        refine mlconst 143 G24 at_142 (v := (1 : Int64)) rfl rfl ?_
        refine mladd 144 G24 at_143 rfl rfl ?_
        refine mgoto 149 G24 at_144 (by decide) rfl ?_
        exact castTop (g' := (mkF m 149 #[iv p0, iv p1, iv p2, dv x2, .second, lv x7, .second, lv x8, .second, dv x10, .second, iv x13, lv x14, .second, iv x17, lv x25, .second, .unset, .unset] [(.long x28)])) (by simp only [hx28, if_neg hc137_26]) kt
    have G27 := gd X27 hx hby
    obtain ⟨x31, hx31⟩ : ∃ z : Int32, z = (if x13 = (0 : Int32) then (0 : Int32) else (if (0 : Int32) < (cmpValue (FP.dcmp (FP.l2d x25) x2) .g) then (0 : Int32) else (if (0 : Int32) < (cmpValue (FP.dcmp x2 (FP.l2d x28)) .g) then (0 : Int32) else (1 : Int32)))) := ⟨_, rfl⟩
    obtain ⟨T30, X30, e30, st30⟩ : ∃ T' : State, Stand p l e room_1 s m #[(.int p0), (.int p1), (.int p2)] below meth c T' [] 0 0 ∧ T'.heap = h0 ∧ ∀ target, Steps p.tables e below (T'.setTop (mkF m 177 #[iv p0, iv p1, iv p2, dv x2, .second, lv x7, .second, lv x8, .second, dv x10, .second, iv x13, lv x14, .second, iv x17, lv x25, .second, lv x28, .second] [(.int x31)])) target → Steps p.tables e below (T27.setTop (mkF m 153 #[iv p0, iv p1, iv p2, dv x2, .second, lv x7, .second, lv x8, .second, dv x10, .second, iv x13, lv x14, .second, iv x17, lv x25, .second, lv x28, .second] [(.int x13)])) target := by
      by_cases hc153_29 : x13 = (0 : Int32)
      · refine ⟨T27, X27, e27, fun target kt => ?_⟩
        refine mifYes 176 G27 at_153 ((if0 _ _).trans (teq hc153_29).1) (by decide) rfl ?_
        refine miconst 177 G27 at_176 (v := (0 : Int32)) rfl rfl ?_
        exact castTop (g' := (mkF m 177 #[iv p0, iv p1, iv p2, dv x2, .second, lv x7, .second, lv x8, .second, dv x10, .second, iv x13, lv x14, .second, iv x17, lv x25, .second, lv x28, .second] [(.int x31)])) (by simp only [hx31, if_pos hc153_29]) kt
      · by_cases hc161_32 : (0 : Int32) < (cmpValue (FP.dcmp (FP.l2d x25) x2) .g)
        · refine ⟨T27, X27, e27, fun target kt => ?_⟩
          refine mifNo 156 G27 at_153 ((if0 _ _).trans (feq hc153_29).1) rfl ?_
          refine mlload 158 G27 at_156 rfl rfl ?_
          refine ml2d 159 G27 at_158 rfl ?_
          refine mdloadN 160 G27 at_159 rfl rfl ?_
          refine mdcmp 161 G27 at_160 rfl ?_
          refine mifYes 176 G27 at_161 ((if0 _ _).trans (tlt hc161_32).2.2.1) (by decide) rfl ?_
          refine miconst 177 G27 at_176 (v := (0 : Int32)) rfl rfl ?_
          exact castTop (g' := (mkF m 177 #[iv p0, iv p1, iv p2, dv x2, .second, lv x7, .second, lv x8, .second, dv x10, .second, iv x13, lv x14, .second, iv x17, lv x25, .second, lv x28, .second] [(.int x31)])) (by simp only [hx31, if_neg hc153_29, if_pos hc161_32]) kt
        · by_cases hc169_33 : (0 : Int32) < (cmpValue (FP.dcmp x2 (FP.l2d x28)) .g)
          · refine ⟨T27, X27, e27, fun target kt => ?_⟩
            refine mifNo 156 G27 at_153 ((if0 _ _).trans (feq hc153_29).1) rfl ?_
            refine mlload 158 G27 at_156 rfl rfl ?_
            refine ml2d 159 G27 at_158 rfl ?_
            refine mdloadN 160 G27 at_159 rfl rfl ?_
            refine mdcmp 161 G27 at_160 rfl ?_
            refine mifNo 164 G27 at_161 ((if0 _ _).trans (flt hc161_32).2.2.1) rfl ?_
            refine mdloadN 165 G27 at_164 rfl rfl ?_
            refine mlload 167 G27 at_165 rfl rfl ?_
            refine ml2d 168 G27 at_167 rfl ?_
            refine mdcmp 169 G27 at_168 rfl ?_
            refine mifYes 176 G27 at_169 ((if0 _ _).trans (tlt hc169_33).2.2.1) (by decide) rfl ?_
            refine miconst 177 G27 at_176 (v := (0 : Int32)) rfl rfl ?_
            exact castTop (g' := (mkF m 177 #[iv p0, iv p1, iv p2, dv x2, .second, lv x7, .second, lv x8, .second, dv x10, .second, iv x13, lv x14, .second, iv x17, lv x25, .second, lv x28, .second] [(.int x31)])) (by simp only [hx31, if_neg hc153_29, if_neg hc161_32, if_pos hc169_33]) kt
          · refine ⟨T27, X27, e27, fun target kt => ?_⟩
            refine mifNo 156 G27 at_153 ((if0 _ _).trans (feq hc153_29).1) rfl ?_
            refine mlload 158 G27 at_156 rfl rfl ?_
            refine ml2d 159 G27 at_158 rfl ?_
            refine mdloadN 160 G27 at_159 rfl rfl ?_
            refine mdcmp 161 G27 at_160 rfl ?_
            refine mifNo 164 G27 at_161 ((if0 _ _).trans (flt hc161_32).2.2.1) rfl ?_
            refine mdloadN 165 G27 at_164 rfl rfl ?_
            refine mlload 167 G27 at_165 rfl rfl ?_
            refine ml2d 168 G27 at_167 rfl ?_
            refine mdcmp 169 G27 at_168 rfl ?_
            refine mifNo 172 G27 at_169 ((if0 _ _).trans (flt hc169_33).2.2.1) rfl ?_
            refine miconst 173 G27 at_172 (v := (1 : Int32)) rfl rfl ?_
            refine mgoto 177 G27 at_173 (by decide) rfl ?_
            exact castTop (g' := (mkF m 177 #[iv p0, iv p1, iv p2, dv x2, .second, lv x7, .second, lv x8, .second, dv x10, .second, iv x13, lv x14, .second, iv x17, lv x25, .second, lv x28, .second] [(.int x31)])) (by simp only [hx31, if_neg hc153_29, if_neg hc161_32, if_neg hc169_33]) kt
    have G30 := gd X30 hx hby
    have hend : x31 = 1 := (own_rm0_end_1 p0 p1 p2 x2 hx2 x7 hx7 x8 hx8 x10 hx10 x13 hx13 x14 hx14 x17 hx17 x25 hx25 x28 hx28 x31 hx31 hc9_3)
    obtain ⟨fs, hr, hrun, hended, hW, hsame⟩ := X30.leave (v := some (.int (1 : Int32))) (fun h => by rw [Bd.returns] at h; cases h)
    refine ⟨_, _, pre0 _ ?_, hrun, hended, _, _, rfl, ?_, ⟨_, rfl⟩, hW, hsame.mono (by decide) (by decide)⟩
    · show Steps p.tables e below (s₁.setTop (mkF m 0 #[iv p0, iv p1, iv p2, .unset, .unset, .unset, .unset, .unset, .unset, .unset, .unset, .unset, .unset, .unset, .unset, .unset, .unset, .unset, .unset] [])) _
      refine miloadN 1 G0 at_0 rfl rfl ?_
      refine mi2d 2 G0 at_1 rfl ?_
      refine miloadN 3 G0 at_2 rfl rfl ?_
      refine mi2d 4 G0 at_3 rfl ?_
      refine st1 _ ?_
      show Steps p.tables e below (T1.setTop (mkF m 7 #[iv p0, iv p1, iv p2, .unset, .unset, .unset, .unset, .unset, .unset, .unset, .unset, .unset, .unset, .unset, .unset, .unset, .unset, .unset, .unset] [(.double (rv1 (FP.i2d p0) (FP.i2d p1)))])) _
      refine castTop (g' := (mkF m 7 #[iv p0, iv p1, iv p2, .unset, .unset, .unset, .unset, .unset, .unset, .unset, .unset, .unset, .unset, .unset, .unset, .unset, .unset, .unset, .unset] [(.double x2)])) (by rw [hx2]) ?_
      refine mdstoreN 8 G1 at_7 #[iv p0, iv p1, iv p2, dv x2, .second, .unset, .unset, .unset, .unset, .unset, .unset, .unset, .unset, .unset, .unset, .unset, .unset, .unset, .unset] rfl rfl ?_
      refine miloadN 9 G1 at_8 rfl rfl ?_
      refine mifYes 24 G1 at_9 ((if0 _ _).trans (feq hc9_3).2) (by decide) rfl ?_
      refine miloadN 25 G1 at_24 rfl rfl ?_
      refine msipush 28 G1 at_25 (v := (1024 : Int32)) rfl rfl ?_
      refine mirem 29 G1 at_28 (by decide) (irem_eq_mod _ _) rfl ?_
      refine mi2l 30 G1 at_29 rfl ?_
      refine castTop (g' := (mkF m 30 #[iv p0, iv p1, iv p2, dv x2, .second, .unset, .unset, .unset, .unset, .unset, .unset, .unset, .unset, .unset, .unset, .unset, .unset, .unset, .unset] [(.long x7)])) (by rw [hx7]) ?_
      refine mlstore 32 G1 at_30 #[iv p0, iv p1, iv p2, dv x2, .second, lv x7, .second, .unset, .unset, .unset, .unset, .unset, .unset, .unset, .unset, .unset, .unset, .unset, .unset] rfl rfl ?_
      refine miloadN 33 G1 at_32 rfl rfl ?_
      refine mi2l 34 G1 at_33 rfl ?_
      refine castTop (g' := (mkF m 34 #[iv p0, iv p1, iv p2, dv x2, .second, lv x7, .second, .unset, .unset, .unset, .unset, .unset, .unset, .unset, .unset, .unset, .unset, .unset, .unset] [(.long x8)])) (by rw [hx8]) ?_
      refine mlstore 36 G1 at_34 #[iv p0, iv p1, iv p2, dv x2, .second, lv x7, .second, lv x8, .second, .unset, .unset, .unset, .unset, .unset, .unset, .unset, .unset, .unset, .unset] rfl rfl ?_
      refine X1.ldc2Long hx hown (mvT hZ (wd hw 4 rfl)) (g := (mkF m 36 #[iv p0, iv p1, iv p2, dv x2, .second, lv x7, .second, lv x8, .second, .unset, .unset, .unset, .unset, .unset, .unset, .unset, .unset, .unset, .unset] [])) rfl (hb hby at_36) _ ?_
      show Steps p.tables e below (T1.setTop (mkF m 39 #[iv p0, iv p1, iv p2, dv x2, .second, lv x7, .second, lv x8, .second, .unset, .unset, .unset, .unset, .unset, .unset, .unset, .unset, .unset, .unset] [(.long (2 : Int64))])) _
      refine mlload 41 G1 at_39 rfl rfl ?_
      refine mlmul 42 G1 at_41 rfl rfl ?_
      refine mlconst 43 G1 at_42 (v := (1 : Int64)) rfl rfl ?_
      refine mladd 44 G1 at_43 rfl rfl ?_
      refine mlload 46 G1 at_44 rfl rfl ?_
      refine mlmul 47 G1 at_46 rfl rfl ?_
      refine ml2d 48 G1 at_47 rfl ?_
      refine X1.ldc2Long hx hown (mvT hZ (wd hw 4 rfl)) (g := (mkF m 48 #[iv p0, iv p1, iv p2, dv x2, .second, lv x7, .second, lv x8, .second, .unset, .unset, .unset, .unset, .unset, .unset, .unset, .unset, .unset, .unset] [(.double (FP.l2d ((((2 : Int64) * x7) + (1 : Int64)) * x8)))])) rfl (hb hby at_48) _ ?_
      show Steps p.tables e below (T1.setTop (mkF m 51 #[iv p0, iv p1, iv p2, dv x2, .second, lv x7, .second, lv x8, .second, .unset, .unset, .unset, .unset, .unset, .unset, .unset, .unset, .unset, .unset] [(.long (2 : Int64)), (.double (FP.l2d ((((2 : Int64) * x7) + (1 : Int64)) * x8)))])) _
      refine mlload 53 G1 at_51 rfl rfl ?_
      refine mlmul 54 G1 at_53 rfl rfl ?_
      refine ml2d 55 G1 at_54 rfl ?_
      refine st9 _ ?_
      show Steps p.tables e below (T9.setTop (mkF m 58 #[iv p0, iv p1, iv p2, dv x2, .second, lv x7, .second, lv x8, .second, .unset, .unset, .unset, .unset, .unset, .unset, .unset, .unset, .unset, .unset] [(.double (rv1 (FP.l2d ((((2 : Int64) * x7) + (1 : Int64)) * x8)) (FP.l2d ((2 : Int64) * x8))))])) _
      refine castTop (g' := (mkF m 58 #[iv p0, iv p1, iv p2, dv x2, .second, lv x7, .second, lv x8, .second, .unset, .unset, .unset, .unset, .unset, .unset, .unset, .unset, .unset, .unset] [(.double x10)])) (by rw [hx10]) ?_
      refine mdstore 60 G9 at_58 #[iv p0, iv p1, iv p2, dv x2, .second, lv x7, .second, lv x8, .second, dv x10, .second, .unset, .unset, .unset, .unset, .unset, .unset, .unset, .unset] rfl rfl ?_
      refine mdload 62 G9 at_60 rfl rfl ?_
      refine mlload 64 G9 at_62 rfl rfl ?_
      refine ml2d 65 G9 at_64 rfl ?_
      refine X9.ldc2DoubleC hx hown (mvT hZ (wd hw 5 rfl)) (g := (mkF m 65 #[iv p0, iv p1, iv p2, dv x2, .second, lv x7, .second, lv x8, .second, dv x10, .second, .unset, .unset, .unset, .unset, .unset, .unset, .unset, .unset] [(.double (FP.l2d x7)), (.double x10)])) rfl (hb hby at_65) _ ?_
      show Steps p.tables e below (T9.setTop (mkF m 68 #[iv p0, iv p1, iv p2, dv x2, .second, lv x7, .second, lv x8, .second, dv x10, .second, .unset, .unset, .unset, .unset, .unset, .unset, .unset, .unset] [(.double (4602678819172646912 : UInt64)), (.double (FP.l2d x7)), (.double x10)])) _
      refine mdadd 69 G9 at_68 (own_rm0_hn68 p0 p1 p2 x2 hx2 x7 hx7 x8 hx8 x10 hx10 hc9_3) rfl ?_
      refine mdcmp 70 G9 at_69 rfl ?_
      refine st12 _ ?_
      refine mistore 80 G12 at_78 #[iv p0, iv p1, iv p2, dv x2, .second, lv x7, .second, lv x8, .second, dv x10, .second, iv x13, .unset, .unset, .unset, .unset, .unset, .unset, .unset] rfl rfl ?_
      refine miloadN 81 G12 at_80 rfl rfl ?_
      refine mi2l 82 G12 at_81 rfl ?_
      refine mlload 84 G12 at_82 rfl rfl ?_
      refine mldiv 85 G12 at_84 (own_rm0_hz84 p0 p1 p2 x2 hx2 x7 hx7 x8 hx8 x10 hx10 x13 hx13 hc9_3) rfl rfl ?_
      refine castTop (g' := (mkF m 85 #[iv p0, iv p1, iv p2, dv x2, .second, lv x7, .second, lv x8, .second, dv x10, .second, iv x13, .unset, .unset, .unset, .unset, .unset, .unset, .unset] [(.long x14)])) (by rw [hx14]) ?_
      refine mlstore 87 G12 at_85 #[iv p0, iv p1, iv p2, dv x2, .second, lv x7, .second, lv x8, .second, dv x10, .second, iv x13, lv x14, .second, .unset, .unset, .unset, .unset, .unset] rfl rfl ?_
      refine miloadN 88 G12 at_87 rfl rfl ?_
      refine st16 _ ?_
      refine mistore 119 G16 at_117 #[iv p0, iv p1, iv p2, dv x2, .second, lv x7, .second, lv x8, .second, dv x10, .second, iv x13, lv x14, .second, iv x17, .unset, .unset, .unset, .unset] rfl rfl ?_
      refine miload 121 G16 at_119 rfl rfl ?_
      refine st24 _ ?_
      refine mlstore 135 G24 at_133 #[iv p0, iv p1, iv p2, dv x2, .second, lv x7, .second, lv x8, .second, dv x10, .second, iv x13, lv x14, .second, iv x17, lv x25, .second, .unset, .unset] rfl rfl ?_
      refine miload 137 G24 at_135 rfl rfl ?_
      refine st27 _ ?_
      refine mlstore 151 G27 at_149 #[iv p0, iv p1, iv p2, dv x2, .second, lv x7, .second, lv x8, .second, dv x10, .second, iv x13, lv x14, .second, iv x17, lv x25, .second, lv x28, .second] rfl rfl ?_
      refine miload 153 G27 at_151 rfl rfl ?_
      refine st30 _ ?_
      refine castTop (g' := (mkF m 177 #[iv p0, iv p1, iv p2, dv x2, .second, lv x7, .second, lv x8, .second, dv x10, .second, iv x13, lv x14, .second, iv x17, lv x25, .second, lv x28, .second] [(.int (1 : Int32))])) (by rw [hend]) ?_
      exact retN X30 hx (t := .boolean) Bd.returns (by simp) (hb hby at_177) hr
    · show Q0 Z p0 p1 p2 h0 n0 _ T30.heap _
      rw [e30]
      exact ⟨rfl, N0⟩
set_option maxRecDepth 65536 in
set_option maxHeartbeats 40000000 in
theorem comes_1 {Post : Tables → Env → Array Value → State → Outcome → State → Prop} (hpost : ∀ tb e args s v u, (limb_1_1.after args s (.returned v) u = true ∧ limb_1_2.after args s (.returned v) u = true ∧ True) → FrameEnd s (.returned v) u (Jvm.fieldLocs frame_1_writes args s ++ Jvm.arrayLocs frame_1_arrays args s ++ Jvm.staticLocs frame_1_statics s) 0 0 → Post tb e args s (.returned v) u) :
    ArmFor flags0 classFile x code maxLocals ret World_1 tables_1 room_1 Calls_1 rest_1 Pre_1 Post := by
  intro l hfl _ _ p e ha hc hk s m args below hf hA hF happ hP
  obtain ⟨hcalls, hrest, hpre⟩ := hP
  obtain ⟨-, -, -, hnamed, -, -, -, hat⟩ := (Spec.applies_iff hf).mp happ
  obtain ⟨hg, hn⟩ := and_e (Cond.before_iff.mp (show (Jvm.Cond.and given_1 narrow_1).before args s = true from hpre))
  obtain ⟨g1, g2⟩ := and_e hg
  obtain ⟨g3, g4⟩ := and_e g2
  obtain ⟨g5, g6⟩ := and_e g4
  obtain ⟨w0, w1, w2, rfl⟩ : ∃ w0 w1 w2 : Value, args = #[w0, w1, w2] := by
    have hs : args.size = 3 := by simpa [Cond.value, given_1] using g1
    obtain ⟨L⟩ := args
    match L, hs with
    | [w0, w1, w2], _ => exact ⟨w0, w1, w2, rfl⟩
  have hw := fun d (hd : d ∈ tables_1) => atoms_spec (ws := Jvm.Cond.code x code maxLocals ret :: tables_1) hat d (List.mem_cons_of_mem _ hd)
  have hfit : Fit s := fun {y c} hc i hi => by
    obtain ⟨ha, rfl⟩ := Array.getElem?_eq_some_iff.mp hc
    have q := List.all_eq_true.mp ((Array.all_eq_true_iff_forall_mem.mp hF) _ (Array.getElem_mem ha)) i (List.mem_range.mpr hi)
    simpa [Array.getElem?_eq_getElem hi] using q
  obtain ⟨i0, ei0⟩ := is_v g3
  obtain rfl : w0 = (.int i0) := Option.some.inj ei0
  obtain ⟨i1, ei1⟩ := is_v g5
  obtain rfl : w1 = (.int i1) := Option.some.inj ei1
  obtain ⟨i2, ei2⟩ := is_v g6
  obtain rfl : w2 = (.int i2) := Option.some.inj ei2
  obtain ⟨n, o, h1, h2, h3, _, L, rfl, ⟨rfl, N⟩, hq⟩ := rm0 l s _ hw tables_1 i0 i1 i2 s.heap s.heap.size (Nat.le_refl _)  p e ha hc hk s m _ below hf ((Spec.applies_iff_loose hf).mp happ).1 ⟨rfl, State.Warmed39.refl s, rfl⟩ trivial
  refine ⟨n, _, h1, h2, h3, hpost _ _ _ _ _ _ ⟨Cond.after_iff.mpr rfl, Cond.after_iff.mpr (eq_i res_at (Term.int_eval (1)) rfl), trivial⟩ ⟨hq.1, hq.2.1, (hq.2.2.sift fun y hy => Or.inr (N y hy)).mono (by decide) (by decide)⟩⟩
theorem main_1_1 : Claimed_1_1 := comes_1 fun _ _ _ _ _ _ h hF => ⟨h.1, hF⟩
theorem main_1_2 : Claimed_1_2 := comes_1 fun _ _ _ _ _ _ h hF => ⟨h.2.1, hF⟩
end Jvm.Pilot.@@N@@
namespace Jvm.Pilot.@@N@@
open Jvm Jvm.ClassFile Sem Op Lib Jvm.Free Jvm.Stand Jvm.Pilot.@@N@@.Jvm.D
/-! MADE BY PROGRAM (witnessworld.py) out of the Statement's table words and the real class files: 10 classes; the members and pool entries that the words name. The judged class is class 1, her method 1. -/
namespace start1
open Jvm.ClassFile
def u (s : String) : CpInfo := .utf8 (stringToUtf16 s)
/-- a pool by its gaps: so many unusable entries, then the entry; so many at the end -/
def gap : Nat → List CpInfo → List CpInfo
  | 0, r => r
  | n + 1, r => .unusable :: gap n r
def poolList (es : List (Nat × CpInfo)) (last : Nat) : List CpInfo := es.foldr (fun e r => gap e.1 (e.2 :: r)) (gap last [])
def pool (es : List (Nat × CpInfo)) (last : Nat) : Array CpInfo := ⟨poolList es last⟩
def fileOf (pool : Array CpInfo) (this : Nat) (attrs : Array Attribute := #[]) (ms : Array MethodInfo := #[]) (fl : Nat := 33) (sup : Nat := 0) (ifs : Array Nat := #[]) (fds : Array FieldInfo := #[]) : ClassFile where
  minorVersion := 0
  majorVersion := 65
  constantPool := pool
  accessFlags := fl
  thisClass := this
  superClass := sup
  interfaces := ifs
  fields := fds
  methods := ms
  attributes := attrs
def plain (name : String) (sup : Option ClassId) : Class where
  name := name
  kind := .ordinary
  loader := none
  accessFlags := 33
  super := sup
  interfaces := #[]
  cf := none
  fields := #[]
  methods := #[]
  instanceTypes := #[]
  staticTypes := #[]
  resolved := #[]
  callSites := []
  init := .initialized
  statics := none
  mirror := none

def pool0 : Array CpInfo := pool [(5, u "<init>"), (0, u "()V"), (1, .class_ 10), (1, u "java/lang/Object")] 113

def k0m0 : Method := { name := "<init>", desc := "()V", sig := { parameters := [], returnType := none }, accessFlags := 1, code := none }
/-- java/lang/Object -/
def k0 : Class := { plain "java/lang/Object" none with
  accessFlags := 33
  interfaces := #[]
  cf := some (fileOf pool0 8 #[] #[{ accessFlags := 1, nameIndex := 5, descriptorIndex := 6, attributes := #[] }] 33 0 #[] #[])
  fields := #[]
  methods := #[k0m0]
  instanceTypes := #[]
  staticTypes := #[]
  resolved := Array.replicate 124 none
  statics := none }

def pool1 : Array CpInfo := pool [(2, .class_ 4), (1, u "java/lang/Object"), (0, u "<init>"), (0, u "()V"), (0, .methodref 8 9), (0, .class_ 10), (0, .nameAndType 11 12), (0, u "com/example/queries_into_facets/queriesintofacets/measures/FacetMeasures"), (0, u "ratio"), (0, u "(DD)D"), (0, .long 2), (1, .double 4602678819172646912), (1, .class_ 18), (0, u "com/example/queries_into_facets/queriesintofacets/measures/FacetMeasuresRatioPinLaw"), (2, u "law"), (0, u "(III)Z")] 3

def k1m0 : Method := { name := "<init>", desc := "()V", sig := { parameters := [], returnType := none }, accessFlags := 1, code := none }
def k1c1 : Code := { maxStack := 6, maxLocals := 19, code := code, exceptionTable := #[], attributes := #[] }
def k1m1 : Method := { name := "law", desc := "(III)Z", sig := { parameters := [.int, .int, .int], returnType := some .boolean }, accessFlags := 9, code := some k1c1 }
/-- com/example/queries_into_facets/queriesintofacets/measures/FacetMeasuresRatioPinLaw -/
def k1 : Class := { plain "com/example/queries_into_facets/queriesintofacets/measures/FacetMeasuresRatioPinLaw" (some 0) with
  accessFlags := 49
  interfaces := #[]
  cf := some (fileOf pool1 17 #[] #[{ accessFlags := 1, nameIndex := 5, descriptorIndex := 6, attributes := #[] }, { accessFlags := 9, nameIndex := 21, descriptorIndex := 22, attributes := #[] }] 49 2 #[] #[])
  fields := #[]
  methods := #[k1m0, k1m1]
  instanceTypes := #[]
  staticTypes := #[]
  resolved := Array.replicate 26 none
  statics := none }

def pool2 : Array CpInfo := pool [(2, .class_ 4), (1, u "java/lang/Object"), (0, u "<init>"), (0, u "()V"), (0, .class_ 8), (0, u "java/lang/Record")] 13

def k2m0 : Method := { name := "<init>", desc := "()V", sig := { parameters := [], returnType := none }, accessFlags := 4, code := none }
/-- java/lang/Record -/
def k2 : Class := { plain "java/lang/Record" (some 0) with
  accessFlags := 1057
  interfaces := #[]
  cf := some (fileOf pool2 7 #[] #[{ accessFlags := 4, nameIndex := 5, descriptorIndex := 6, attributes := #[] }] 1057 2 #[] #[])
  fields := #[]
  methods := #[k2m0]
  instanceTypes := #[]
  staticTypes := #[]
  resolved := Array.replicate 22 none
  statics := none }

def pool3 : Array CpInfo := pool [(2, .class_ 4), (1, u "java/lang/Record"), (3, .class_ 10), (1, u "com/example/queries_into_facets/queriesintofacets/measures/FacetMeasures"), (0, u "termPrecision"), (0, u "D"), (2, u "termRecall"), (2, u "termF1"), (2, u "pairPrecision"), (2, u "pairRecall"), (2, u "pairF1"), (2, u "prf"), (2, u "weightedTermPrecision"), (2, u "weightedTermRecall"), (2, u "weightedTermF1"), (2, u "weightedPairPrecision"), (2, u "weightedPairRecall"), (2, u "weightedPairF1"), (2, u "weightedPrf"), (2, u "purity"), (2, u "nmi"), (2, u "fpNdcg"), (2, u "rpNdcg"), (2, u "f1Ndcg"), (16, u "ratio"), (0, u "(DD)D")] 43

def k3c0 : Code := { maxStack := 4, maxLocals := 4, code := prog_34_method_2_code, exceptionTable := #[], attributes := #[] }
def k3m0 : Method := { name := "ratio", desc := "(DD)D", sig := { parameters := [.double, .double], returnType := some .double }, accessFlags := 8, code := some k3c0 }
/-- com/example/queries_into_facets/queriesintofacets/measures/FacetMeasures -/
def k3 : Class := { plain "com/example/queries_into_facets/queriesintofacets/measures/FacetMeasures" (some 2) with
  accessFlags := 49
  interfaces := #[]
  cf := some (fileOf pool3 8 #[] #[{ accessFlags := 8, nameIndex := 83, descriptorIndex := 84, attributes := #[] }] 49 2 #[] #[{ accessFlags := 18, nameIndex := 11, descriptorIndex := 12, attributes := #[] }, { accessFlags := 18, nameIndex := 15, descriptorIndex := 12, attributes := #[] }, { accessFlags := 18, nameIndex := 18, descriptorIndex := 12, attributes := #[] }, { accessFlags := 18, nameIndex := 21, descriptorIndex := 12, attributes := #[] }, { accessFlags := 18, nameIndex := 24, descriptorIndex := 12, attributes := #[] }, { accessFlags := 18, nameIndex := 27, descriptorIndex := 12, attributes := #[] }, { accessFlags := 18, nameIndex := 30, descriptorIndex := 12, attributes := #[] }, { accessFlags := 18, nameIndex := 33, descriptorIndex := 12, attributes := #[] }, { accessFlags := 18, nameIndex := 36, descriptorIndex := 12, attributes := #[] }, { accessFlags := 18, nameIndex := 39, descriptorIndex := 12, attributes := #[] }, { accessFlags := 18, nameIndex := 42, descriptorIndex := 12, attributes := #[] }, { accessFlags := 18, nameIndex := 45, descriptorIndex := 12, attributes := #[] }, { accessFlags := 18, nameIndex := 48, descriptorIndex := 12, attributes := #[] }, { accessFlags := 18, nameIndex := 51, descriptorIndex := 12, attributes := #[] }, { accessFlags := 18, nameIndex := 54, descriptorIndex := 12, attributes := #[] }, { accessFlags := 18, nameIndex := 57, descriptorIndex := 12, attributes := #[] }, { accessFlags := 18, nameIndex := 60, descriptorIndex := 12, attributes := #[] }, { accessFlags := 18, nameIndex := 63, descriptorIndex := 12, attributes := #[] }, { accessFlags := 18, nameIndex := 66, descriptorIndex := 12, attributes := #[] }])
  fields := #[{ name := "termPrecision", type := .double, accessFlags := 18, slot := 0, constantValue := 0 }, { name := "termRecall", type := .double, accessFlags := 18, slot := 1, constantValue := 0 }, { name := "termF1", type := .double, accessFlags := 18, slot := 2, constantValue := 0 }, { name := "pairPrecision", type := .double, accessFlags := 18, slot := 3, constantValue := 0 }, { name := "pairRecall", type := .double, accessFlags := 18, slot := 4, constantValue := 0 }, { name := "pairF1", type := .double, accessFlags := 18, slot := 5, constantValue := 0 }, { name := "prf", type := .double, accessFlags := 18, slot := 6, constantValue := 0 }, { name := "weightedTermPrecision", type := .double, accessFlags := 18, slot := 7, constantValue := 0 }, { name := "weightedTermRecall", type := .double, accessFlags := 18, slot := 8, constantValue := 0 }, { name := "weightedTermF1", type := .double, accessFlags := 18, slot := 9, constantValue := 0 }, { name := "weightedPairPrecision", type := .double, accessFlags := 18, slot := 10, constantValue := 0 }, { name := "weightedPairRecall", type := .double, accessFlags := 18, slot := 11, constantValue := 0 }, { name := "weightedPairF1", type := .double, accessFlags := 18, slot := 12, constantValue := 0 }, { name := "weightedPrf", type := .double, accessFlags := 18, slot := 13, constantValue := 0 }, { name := "purity", type := .double, accessFlags := 18, slot := 14, constantValue := 0 }, { name := "nmi", type := .double, accessFlags := 18, slot := 15, constantValue := 0 }, { name := "fpNdcg", type := .double, accessFlags := 18, slot := 16, constantValue := 0 }, { name := "rpNdcg", type := .double, accessFlags := 18, slot := 17, constantValue := 0 }, { name := "f1Ndcg", type := .double, accessFlags := 18, slot := 18, constantValue := 0 }]
  methods := #[k3m0]
  instanceTypes := #[.double, .double, .double, .double, .double, .double, .double, .double, .double, .double, .double, .double, .double, .double, .double, .double, .double, .double, .double]
  staticTypes := #[]
  resolved := Array.replicate 128 none
  statics := none }

def pool4 : Array CpInfo := pool [(1, u "java/lang/Cloneable"), (0, .class_ 1), (0, u "java/lang/Object"), (0, .class_ 3)] 3

/-- java/lang/Cloneable -/
def k4 : Class := { plain "java/lang/Cloneable" (some 0) with
  accessFlags := 1537
  interfaces := #[]
  cf := some (fileOf pool4 2 #[] #[] 1537 4 #[] #[])
  fields := #[]
  methods := #[]
  instanceTypes := #[]
  staticTypes := #[]
  resolved := Array.replicate 8 none
  statics := none }

def pool5 : Array CpInfo := pool [(1, u "java/io/Serializable"), (0, .class_ 1), (0, u "java/lang/Object"), (0, .class_ 3)] 3

/-- java/io/Serializable -/
def k5 : Class := { plain "java/io/Serializable" (some 0) with
  accessFlags := 1537
  interfaces := #[]
  cf := some (fileOf pool5 2 #[] #[] 1537 4 #[] #[])
  fields := #[]
  methods := #[]
  instanceTypes := #[]
  staticTypes := #[]
  resolved := Array.replicate 8 none
  statics := none }

/-- the primitive byte -/
def k6 : Class := { plain "byte" none with kind := .primitive 'B', accessFlags := 0x411 }
/-- [B -/
def k7 : Class := { plain "[B" (some 0) with kind := .array 6 .byte, interfaces := #[4, 5], accessFlags := 1041 }

/-- the primitive int -/
def k8 : Class := { plain "int" none with kind := .primitive 'I', accessFlags := 0x411 }
/-- [I -/
def k9 : Class := { plain "[I" (some 0) with kind := .array 8 .int, interfaces := #[4, 5], accessFlags := 1041 }

def heap : Heap := #[]
def classes : Array Class := #[k0, k1, k2, k3, k4, k5, k6, k7, k8, k9]
def interned : List (Array UInt16 × Addr) := []
def slotsUsed : Nat := 0
def theMethod : MethodId := ⟨1, 1⟩
def args0 : Array Value := #[.int 5, .int 5, .int 5]
def aboutOver (below : List Frame) : State where
  vm := { classes := classes, interned := interned.toArray }
  heap := heap
  slotsUsed := slotsUsed
  threads := #[{ frames := .invoking theMethod args0 :: below }]
def below0 : List Frame := [.native { method := ⟨0, 0⟩, args := #[] }]
def about1 : State := aboutOver below0
def p0 : Program := .bare "" "" ""
def e0 : Env := launch0.env 0 0 0
theorem w_frames : about1.frames = Frame.invoking theMethod args0 :: below0 := rfl
set_option maxRecDepth 65536 in
theorem w_args : argsFit about1.vm theMethod args0 = true := by decide +kernel
set_option maxRecDepth 65536 in
theorem w_heap : heapFits about1 = true := by decide +kernel
set_option maxRecDepth 65536 in
theorem w_runnable : about1.curStatus? = some .runnable := by decide +kernel
set_option maxRecDepth 65536 in
theorem w_alone : about1.alone = true := by decide +kernel
set_option maxRecDepth 65536 in
theorem w_named : about1.methodNamed? x = some theMethod := by decide +kernel
set_option maxRecDepth 65536 in
theorem w_hears : about1.hears theMethod below0 = true := by decide +kernel
set_option maxRecDepth 65536 in
theorem w_ripe : about1.ripe theMethod args0 below0 = true := by decide +kernel
theorem w_running : about1.status = .running := rfl
set_option maxRecDepth 65536 in
theorem w_room : about1.hasRoom e0.platform room_1 = true :=
  launch0.hasRoom_least _ room_1 (by decide +kernel) (by decide +kernel) (by decide +kernel) (by decide +kernel) (by decide +kernel) (by decide +kernel)
theorem allAtoms_all (ts : List Jvm.Cond) (a : Array Jvm.Value) (st : Jvm.State) : (allAtoms ts).before a st = ts.all (fun c => c.before a st) := by
  induction ts with
  | nil => rfl
  | cons c t ih =>
    show (Jvm.Cond.and c (allAtoms t)).before a st = _
    rw [Jvm.Cond.before_and, ih, List.all_cons]
def words1 : List Jvm.Cond := Jvm.Cond.code x code maxLocals ret :: tables_1
/-- a 'code' word, met by the world's own term for the bytes: nothing is compared byte by byte -/
theorem code_word {y : MethodName} {bytes : ByteArray} {mx : Nat} {rt : Option FieldType} {a : Array Value} {s : State} {m : MethodId} {meth : Method} {c : Code} (h1 : s.methodNamed? y = some m) (h2 : s.vm.method? m = some meth) (h3 : meth.code = some c) (h4 : c.code = bytes)
    (h5 : (c.maxLocals == mx && c.exceptionTable.isEmpty && decide (c.maxStack ≤ mostOperands) && decide (meth.sig.returnType = rt) && !meth.locks && decide (parseMethodDescriptor y.desc = some meth.sig)) = true) : (Jvm.Cond.code y bytes mx rt).before a s = true := by
  simp only [Bool.and_eq_true, beq_iff_eq, Bool.not_eq_true', decide_eq_true_eq] at h5
  obtain ⟨⟨⟨⟨⟨g1, g2⟩, g3⟩, g4⟩, g5⟩, g6⟩ := h5
  simp [Cond.before, Cond.holds, Cond.value, h1, h2, h3, h4, g1, g2, g3, g4, g5, g6]
def isCode : Jvm.Cond → Bool
  | .code _ _ _ _ => true
  | _ => false
theorem all_split {L : List Jvm.Cond} {P : Jvm.Cond → Bool} (h1 : L.all (fun c => isCode c || P c) = true) (h2 : ∀ c ∈ L.filter isCode, P c = true) : L.all P = true := by
  refine List.all_eq_true.mpr fun c hc => ?_
  have h := List.all_eq_true.mp h1 c hc
  rcases Bool.eq_false_or_eq_true (isCode c) with hi | hi
  · exact h2 c (List.mem_filter.mpr ⟨hc, hi⟩)
  · simpa [hi] using h
set_option maxRecDepth 65536 in
theorem w_c0 : (Jvm.Cond.code x code maxLocals ret).before args0 about1 = true := code_word (m := ⟨1, 1⟩) (meth := k1m1) (c := k1c1) (by decide +kernel) rfl rfl rfl (by decide +kernel)
set_option maxRecDepth 65536 in
theorem w_c1 : (Jvm.Cond.code ({ cls := "com/example/queries_into_facets/queriesintofacets/measures/FacetMeasures", name := "ratio", desc := "(DD)D" } : Jvm.MethodName) prog_34_method_2_code (4 : Nat) (Option.some Jvm.ClassFile.FieldType.double)).before args0 about1 = true := code_word (m := ⟨3, 0⟩) (meth := k3m0) (c := k3c0) (by decide +kernel) rfl rfl rfl (by decide +kernel)
def codes1 : List Jvm.Cond := [Jvm.Cond.code x code maxLocals ret, Jvm.Cond.code ({ cls := "com/example/queries_into_facets/queriesintofacets/measures/FacetMeasures", name := "ratio", desc := "(DD)D" } : Jvm.MethodName) prog_34_method_2_code (4 : Nat) (Option.some Jvm.ClassFile.FieldType.double)]
set_option maxRecDepth 65536 in
theorem codes_eq : words1.filter isCode = codes1 := rfl
theorem w_codes : ∀ c ∈ words1.filter isCode, c.before args0 about1 = true := by
  rw [codes_eq]
  intro c hc
  simp only [codes1, List.mem_cons, List.not_mem_nil, or_false] at hc
  rcases hc with rfl | rfl
  · exact w_c0
  · exact w_c1
set_option maxRecDepth 65536 in
theorem w_t1 : words1.all (fun c => isCode c || c.before args0 about1) = true := by decide +kernel
theorem w_tables : (allAtoms (Jvm.Cond.code x code maxLocals ret :: tables_1)).before args0 about1 = true := by
  rw [allAtoms_all]
  show words1.all (fun c => c.before args0 about1) = true
  refine all_split ?_ w_codes
  rw [w_t1]
set_option maxRecDepth 65536 in
theorem w_case : (Jvm.Cond.and given_1 narrow_1).before args0 about1 = true := by decide +kernel
theorem w_applies : (headSpec (Jvm.Cond.code x code maxLocals ret :: tables_1) room_1).applies x e0.platform about1 = true :=
  (Spec.applies_iff w_frames).mpr ⟨w_running, w_runnable, w_alone, w_named, w_hears, w_ripe, w_room, w_tables⟩
theorem atStart : AtStart classFile x code maxLocals ret World_1 tables_1 room_1 Calls_1 rest_1 Pre_1 launch0 p0 e0 about1 theMethod args0 below0 :=
  ⟨lists_1, trivial, launch0.admits_env _ _ _, launch0.least_env, fairChoices_fair.cas, fairChoices_fair.clock, w_frames, w_args, w_heap, w_applies, trivial, trivial, w_case⟩
end start1
theorem witness_1 : WitnessClaimed_1 := ⟨start1.p0, start1.e0, start1.about1, start1.theMethod, start1.args0, start1.below0, start1.atStart⟩
end Jvm.Pilot.@@N@@
