import JvmDerived
import JvmDerived.Pilot.@@N@@Statement
import JvmDerived.Pilot.@@N@@Code
set_option linter.unusedVariables false
set_option linter.unusedSimpArgs false
namespace Jvm.RoadKit
open Sem ClassFile Op Lib Jvm.Stand Jvm.Free Jvm.LawKit
theorem own_getDI (L : List Int32) (i : Nat) (d : Int32) : (L.map Value.int).getD i (.int d) = .int (L.getD i d) := by simp [List.getD, List.getElem?_map]
theorem own_getDJ (L : List Int64) (i : Nat) (d : Int64) : (L.map Value.long).getD i (.long d) = .long (L.getD i d) := by simp [List.getD, List.getElem?_map]
theorem own_getDD (L : List UInt64) (i : Nat) (d : UInt64) : (L.map Value.double).getD i (.double d) = .double (L.getD i d) := by simp [List.getD, List.getElem?_map]
end Jvm.RoadKit
@@BLOCK:NumsL.lean.txt@@
namespace Jvm.OwnSt
open Sem ClassFile Op Lib Jvm.Free Jvm.Stand Jvm.RoadKit
abbrev lv (x : Int64) : Slot := .val (.long x)
abbrev dv (x : UInt64) : Slot := .val (.double x)
def Gd (tb : Tables) (T : State) (m : MethodId) (c : Code) (below : List Frame) (code : ByteArray) : Prop := At T m c below ∧ tb.exec = Jvm.exec ∧ c.code = code
theorem gd {p : Program} {l : Launch} {e : Env} {R : Room} {s : State} {m : MethodId} {args : Array Value} {below : List Frame} {meth : Method} {c : Code} {T : State} {locs : List Loc} {cells slots : Nat} {code : ByteArray} (X : Stand p l e R s m args below meth c T locs cells slots) (hx : p.tables.exec = Jvm.exec) (hby : c.code = code) : Gd p.tables T m c below code := ⟨X.here, hx, hby⟩
section Steps
variable {tb : Tables} [Ours tb] {e : Env} {below : List Frame} {T target : State} {m : MethodId} {c : Code} {pc : Nat} {L L' : Array Slot} {S : List Value} {code : ByteArray}
theorem miload (pc' : Nat) (G : Gd tb T m c below code) {k : Nat} {v : Int32} (hd : decode code pc = .ok (.iload k, 2)) (hl : L[k]? = some (.val (.int v))) (hp : pc + 2 = pc') (hr : Steps tb e below (T.setTop (mkF m pc' L (.int v :: S))) target) : Steps tb e below (T.setTop (mkF m pc L S)) target := by
  subst hp; exact XS.iload G.1 G.2.1 rfl (hb G.2.2 hd) hl hr
theorem miloadN (pc' : Nat) (G : Gd tb T m c below code) {k : Fin 4} {v : Int32} (hd : decode code pc = .ok (.iload_n k, 1)) (hl : L[k.val]? = some (.val (.int v))) (hp : pc + 1 = pc') (hr : Steps tb e below (T.setTop (mkF m pc' L (.int v :: S))) target) : Steps tb e below (T.setTop (mkF m pc L S)) target := by
  subst hp; exact XS.iloadN G.1 G.2.1 rfl (hb G.2.2 hd) hl hr
theorem mistore (pc' : Nat) (G : Gd tb T m c below code) {k : Nat} {x : Int32} (hd : decode code pc = .ok (.istore k, 2)) (L' : Array Slot) (hl : storeLocals L k (.int x) = some L') (hp : pc + 2 = pc') (hr : Steps tb e below (T.setTop (mkF m pc' L' S)) target) : Steps tb e below (T.setTop (mkF m pc L (.int x :: S))) target := by
  subst hp; exact XS.istore G.1 G.2.1 rfl (hb G.2.2 hd) rfl hl hr
theorem mistoreN (pc' : Nat) (G : Gd tb T m c below code) {k : Fin 4} {x : Int32} (hd : decode code pc = .ok (.istore_n k, 1)) (L' : Array Slot) (hl : storeLocals L k.val (.int x) = some L') (hp : pc + 1 = pc') (hr : Steps tb e below (T.setTop (mkF m pc' L' S)) target) : Steps tb e below (T.setTop (mkF m pc L (.int x :: S))) target := by
  subst hp; exact XS.istoreN G.1 G.2.1 rfl (hb G.2.2 hd) rfl hl hr
theorem mlload (pc' : Nat) (G : Gd tb T m c below code) {k : Nat} {v : Int64} (hd : decode code pc = .ok (.lload k, 2)) (hl : L[k]? = some (.val (.long v))) (hp : pc + 2 = pc') (hr : Steps tb e below (T.setTop (mkF m pc' L (.long v :: S))) target) : Steps tb e below (T.setTop (mkF m pc L S)) target := by
  subst hp; exact XS.lload G.1 G.2.1 rfl (hb G.2.2 hd) hl hr
theorem mlloadN (pc' : Nat) (G : Gd tb T m c below code) {k : Fin 4} {v : Int64} (hd : decode code pc = .ok (.lload_n k, 1)) (hl : L[k.val]? = some (.val (.long v))) (hp : pc + 1 = pc') (hr : Steps tb e below (T.setTop (mkF m pc' L (.long v :: S))) target) : Steps tb e below (T.setTop (mkF m pc L S)) target := by
  subst hp; exact XS.lloadN G.1 G.2.1 rfl (hb G.2.2 hd) hl hr
theorem mlstore (pc' : Nat) (G : Gd tb T m c below code) {k : Nat} {x : Int64} (hd : decode code pc = .ok (.lstore k, 2)) (L' : Array Slot) (hl : storeLocals L k (.long x) = some L') (hp : pc + 2 = pc') (hr : Steps tb e below (T.setTop (mkF m pc' L' S)) target) : Steps tb e below (T.setTop (mkF m pc L (.long x :: S))) target := by
  subst hp; exact XS.lstore G.1 G.2.1 rfl (hb G.2.2 hd) rfl hl hr
theorem mlstoreN (pc' : Nat) (G : Gd tb T m c below code) {k : Fin 4} {x : Int64} (hd : decode code pc = .ok (.lstore_n k, 1)) (L' : Array Slot) (hl : storeLocals L k.val (.long x) = some L') (hp : pc + 1 = pc') (hr : Steps tb e below (T.setTop (mkF m pc' L' S)) target) : Steps tb e below (T.setTop (mkF m pc L (.long x :: S))) target := by
  subst hp; exact XS.lstoreN G.1 G.2.1 rfl (hb G.2.2 hd) rfl hl hr
theorem mdload (pc' : Nat) (G : Gd tb T m c below code) {k : Nat} {v : UInt64} (hd : decode code pc = .ok (.dload k, 2)) (hl : L[k]? = some (.val (.double v))) (hp : pc + 2 = pc') (hr : Steps tb e below (T.setTop (mkF m pc' L (.double v :: S))) target) : Steps tb e below (T.setTop (mkF m pc L S)) target := by
  subst hp; exact XS.dload G.1 G.2.1 rfl (hb G.2.2 hd) hl hr
theorem mdloadN (pc' : Nat) (G : Gd tb T m c below code) {k : Fin 4} {v : UInt64} (hd : decode code pc = .ok (.dload_n k, 1)) (hl : L[k.val]? = some (.val (.double v))) (hp : pc + 1 = pc') (hr : Steps tb e below (T.setTop (mkF m pc' L (.double v :: S))) target) : Steps tb e below (T.setTop (mkF m pc L S)) target := by
  subst hp; exact XS.dloadN G.1 G.2.1 rfl (hb G.2.2 hd) hl hr
theorem mdstore (pc' : Nat) (G : Gd tb T m c below code) {k : Nat} {x : UInt64} (hd : decode code pc = .ok (.dstore k, 2)) (L' : Array Slot) (hl : storeLocals L k (.double x) = some L') (hp : pc + 2 = pc') (hr : Steps tb e below (T.setTop (mkF m pc' L' S)) target) : Steps tb e below (T.setTop (mkF m pc L (.double x :: S))) target := by
  subst hp; exact XS.dstore G.1 G.2.1 rfl (hb G.2.2 hd) rfl hl hr
theorem mdstoreN (pc' : Nat) (G : Gd tb T m c below code) {k : Fin 4} {x : UInt64} (hd : decode code pc = .ok (.dstore_n k, 1)) (L' : Array Slot) (hl : storeLocals L k.val (.double x) = some L') (hp : pc + 1 = pc') (hr : Steps tb e below (T.setTop (mkF m pc' L' S)) target) : Steps tb e below (T.setTop (mkF m pc L (.double x :: S))) target := by
  subst hp; exact XS.dstoreN G.1 G.2.1 rfl (hb G.2.2 hd) rfl hl hr
theorem maload (pc' : Nat) (G : Gd tb T m c below code) {k : Nat} {v : Value} (hd : decode code pc = .ok (.aload k, 2)) (hl : L[k]? = some (.val v)) (hv : v.isRef = true) (hp : pc + 2 = pc') (hr : Steps tb e below (T.setTop (mkF m pc' L (v :: S))) target) : Steps tb e below (T.setTop (mkF m pc L S)) target := by
  subst hp; exact XS.aload G.1 G.2.1 rfl (hb G.2.2 hd) hl hv hr
theorem maloadN (pc' : Nat) (G : Gd tb T m c below code) {k : Fin 4} {v : Value} (hd : decode code pc = .ok (.aload_n k, 1)) (hl : L[k.val]? = some (.val v)) (hv : v.isRef = true) (hp : pc + 1 = pc') (hr : Steps tb e below (T.setTop (mkF m pc' L (v :: S))) target) : Steps tb e below (T.setTop (mkF m pc L S)) target := by
  subst hp; exact XS.aloadN G.1 G.2.1 rfl (hb G.2.2 hd) hl hv hr
theorem mastore (pc' : Nat) (G : Gd tb T m c below code) {k : Nat} {x : Value} (hd : decode code pc = .ok (.astore k, 2)) (hv : x.isRef = true) (L' : Array Slot) (hl : storeLocals L k x = some L') (hp : pc + 2 = pc') (hr : Steps tb e below (T.setTop (mkF m pc' L' S)) target) : Steps tb e below (T.setTop (mkF m pc L (x :: S))) target := by
  subst hp; exact XS.astore G.1 G.2.1 rfl (hb G.2.2 hd) rfl hv hl hr
theorem mastoreN (pc' : Nat) (G : Gd tb T m c below code) {k : Fin 4} {x : Value} (hd : decode code pc = .ok (.astore_n k, 1)) (hv : x.isRef = true) (L' : Array Slot) (hl : storeLocals L k.val x = some L') (hp : pc + 1 = pc') (hr : Steps tb e below (T.setTop (mkF m pc' L' S)) target) : Steps tb e below (T.setTop (mkF m pc L (x :: S))) target := by
  subst hp; exact XS.astoreN G.1 G.2.1 rfl (hb G.2.2 hd) rfl hv hl hr
theorem miconst (pc' : Nat) (G : Gd tb T m c below code) {i : Int} {v : Int32} (hd : decode code pc = .ok (.iconst i, 1)) (hv : Int32.ofInt i = v) (hp : pc + 1 = pc') (hr : Steps tb e below (T.setTop (mkF m pc' L (.int v :: S))) target) : Steps tb e below (T.setTop (mkF m pc L S)) target := by
  subst hp; subst hv; exact XS.iconst G.1 G.2.1 rfl (hb G.2.2 hd) hr
theorem mbipush (pc' : Nat) (G : Gd tb T m c below code) {i : Int} {v : Int32} (hd : decode code pc = .ok (.bipush i, 2)) (hv : (Int8.ofInt i).toInt32 = v) (hp : pc + 2 = pc') (hr : Steps tb e below (T.setTop (mkF m pc' L (.int v :: S))) target) : Steps tb e below (T.setTop (mkF m pc L S)) target := by
  subst hp; subst hv; exact XS.bipush G.1 G.2.1 rfl (hb G.2.2 hd) hr
theorem msipush (pc' : Nat) (G : Gd tb T m c below code) {i : Int} {v : Int32} (hd : decode code pc = .ok (.sipush i, 3)) (hv : (Int16.ofInt i).toInt32 = v) (hp : pc + 3 = pc') (hr : Steps tb e below (T.setTop (mkF m pc' L (.int v :: S))) target) : Steps tb e below (T.setTop (mkF m pc L S)) target := by
  subst hp; subst hv; exact XS.sipush G.1 G.2.1 rfl (hb G.2.2 hd) hr
theorem mlconst (pc' : Nat) (G : Gd tb T m c below code) {k : Fin 2} {v : Int64} (hd : decode code pc = .ok (.lconst k, 1)) (hv : Int64.ofNat k = v) (hp : pc + 1 = pc') (hr : Steps tb e below (T.setTop (mkF m pc' L (.long v :: S))) target) : Steps tb e below (T.setTop (mkF m pc L S)) target := by
  subst hp; subst hv; exact XS.lconst G.1 G.2.1 rfl (hb G.2.2 hd) hr
theorem mdconst0 (pc' : Nat) (G : Gd tb T m c below code) {v : UInt64} (hd : decode code pc = .ok (.dconst 0, 1)) (hv : FP.dconst0 = v) (hp : pc + 1 = pc') (hr : Steps tb e below (T.setTop (mkF m pc' L (.double v :: S))) target) : Steps tb e below (T.setTop (mkF m pc L S)) target := by
  subst hp; exact XS.dconst0 G.1 G.2.1 rfl (hb G.2.2 hd) hv hr
theorem mdconst1 (pc' : Nat) (G : Gd tb T m c below code) {v : UInt64} (hd : decode code pc = .ok (.dconst 1, 1)) (hv : FP.dconst1 = v) (hp : pc + 1 = pc') (hr : Steps tb e below (T.setTop (mkF m pc' L (.double v :: S))) target) : Steps tb e below (T.setTop (mkF m pc L S)) target := by
  subst hp; exact XS.dconst1 G.1 G.2.1 rfl (hb G.2.2 hd) hv hr
theorem maconst_null (pc' : Nat) (G : Gd tb T m c below code)  (hd : decode code pc = .ok (.aconst_null, 1)) (hp : pc + 1 = pc') (hr : Steps tb e below (T.setTop (mkF m pc' L (.null :: S))) target) : Steps tb e below (T.setTop (mkF m pc L S)) target := by
  subst hp; exact XS.aconstNull G.1 G.2.1 rfl (hb G.2.2 hd)  hr
theorem miadd (pc' : Nat) (G : Gd tb T m c below code) {x : Int32} {y : Int32} {v : Int32} (hd : decode code pc = .ok (.iadd, 1)) (hv : x + y = v) (hp : pc + 1 = pc') (hr : Steps tb e below (T.setTop (mkF m pc' L (.int v :: S))) target) : Steps tb e below (T.setTop (mkF m pc L (.int y :: .int x :: S))) target := by
  subst hp; subst hv; exact XS.iadd G.1 G.2.1 rfl (hb G.2.2 hd) rfl  hr
theorem misub (pc' : Nat) (G : Gd tb T m c below code) {x : Int32} {y : Int32} {v : Int32} (hd : decode code pc = .ok (.isub, 1)) (hv : x - y = v) (hp : pc + 1 = pc') (hr : Steps tb e below (T.setTop (mkF m pc' L (.int v :: S))) target) : Steps tb e below (T.setTop (mkF m pc L (.int y :: .int x :: S))) target := by
  subst hp; subst hv; exact XS.isub G.1 G.2.1 rfl (hb G.2.2 hd) rfl  hr
theorem mimul (pc' : Nat) (G : Gd tb T m c below code) {x : Int32} {y : Int32} {v : Int32} (hd : decode code pc = .ok (.imul, 1)) (hv : x * y = v) (hp : pc + 1 = pc') (hr : Steps tb e below (T.setTop (mkF m pc' L (.int v :: S))) target) : Steps tb e below (T.setTop (mkF m pc L (.int y :: .int x :: S))) target := by
  subst hp; subst hv; exact XS.imul G.1 G.2.1 rfl (hb G.2.2 hd) rfl  hr
theorem miand (pc' : Nat) (G : Gd tb T m c below code) {x : Int32} {y : Int32} {v : Int32} (hd : decode code pc = .ok (.iand, 1)) (hv : x &&& y = v) (hp : pc + 1 = pc') (hr : Steps tb e below (T.setTop (mkF m pc' L (.int v :: S))) target) : Steps tb e below (T.setTop (mkF m pc L (.int y :: .int x :: S))) target := by
  subst hp; subst hv; exact XS.iand G.1 G.2.1 rfl (hb G.2.2 hd) rfl  hr
theorem mior (pc' : Nat) (G : Gd tb T m c below code) {x : Int32} {y : Int32} {v : Int32} (hd : decode code pc = .ok (.ior, 1)) (hv : x ||| y = v) (hp : pc + 1 = pc') (hr : Steps tb e below (T.setTop (mkF m pc' L (.int v :: S))) target) : Steps tb e below (T.setTop (mkF m pc L (.int y :: .int x :: S))) target := by
  subst hp; subst hv; exact XS.ior G.1 G.2.1 rfl (hb G.2.2 hd) rfl  hr
theorem mixor (pc' : Nat) (G : Gd tb T m c below code) {x : Int32} {y : Int32} {v : Int32} (hd : decode code pc = .ok (.ixor, 1)) (hv : x ^^^ y = v) (hp : pc + 1 = pc') (hr : Steps tb e below (T.setTop (mkF m pc' L (.int v :: S))) target) : Steps tb e below (T.setTop (mkF m pc L (.int y :: .int x :: S))) target := by
  subst hp; subst hv; exact XS.ixor G.1 G.2.1 rfl (hb G.2.2 hd) rfl  hr
theorem midiv (pc' : Nat) (G : Gd tb T m c below code) {x : Int32} {y : Int32} {v : Int32} (hd : decode code pc = .ok (.idiv, 1)) (hz : y ≠ 0) (hv : x / y = v) (hp : pc + 1 = pc') (hr : Steps tb e below (T.setTop (mkF m pc' L (.int v :: S))) target) : Steps tb e below (T.setTop (mkF m pc L (.int y :: .int x :: S))) target := by
  subst hp; subst hv; exact XS.idiv G.1 G.2.1 rfl (hb G.2.2 hd) rfl hz hr
theorem mladd (pc' : Nat) (G : Gd tb T m c below code) {x : Int64} {y : Int64} {v : Int64} (hd : decode code pc = .ok (.ladd, 1)) (hv : x + y = v) (hp : pc + 1 = pc') (hr : Steps tb e below (T.setTop (mkF m pc' L (.long v :: S))) target) : Steps tb e below (T.setTop (mkF m pc L (.long y :: .long x :: S))) target := by
  subst hp; subst hv; exact XS.ladd G.1 G.2.1 rfl (hb G.2.2 hd) rfl  hr
theorem mlsub (pc' : Nat) (G : Gd tb T m c below code) {x : Int64} {y : Int64} {v : Int64} (hd : decode code pc = .ok (.lsub, 1)) (hv : x - y = v) (hp : pc + 1 = pc') (hr : Steps tb e below (T.setTop (mkF m pc' L (.long v :: S))) target) : Steps tb e below (T.setTop (mkF m pc L (.long y :: .long x :: S))) target := by
  subst hp; subst hv; exact XS.lsub G.1 G.2.1 rfl (hb G.2.2 hd) rfl  hr
theorem mlmul (pc' : Nat) (G : Gd tb T m c below code) {x : Int64} {y : Int64} {v : Int64} (hd : decode code pc = .ok (.lmul, 1)) (hv : x * y = v) (hp : pc + 1 = pc') (hr : Steps tb e below (T.setTop (mkF m pc' L (.long v :: S))) target) : Steps tb e below (T.setTop (mkF m pc L (.long y :: .long x :: S))) target := by
  subst hp; subst hv; exact XS.lmul G.1 G.2.1 rfl (hb G.2.2 hd) rfl  hr
theorem mland (pc' : Nat) (G : Gd tb T m c below code) {x : Int64} {y : Int64} {v : Int64} (hd : decode code pc = .ok (.land, 1)) (hv : x &&& y = v) (hp : pc + 1 = pc') (hr : Steps tb e below (T.setTop (mkF m pc' L (.long v :: S))) target) : Steps tb e below (T.setTop (mkF m pc L (.long y :: .long x :: S))) target := by
  subst hp; subst hv; exact XS.land G.1 G.2.1 rfl (hb G.2.2 hd) rfl  hr
theorem mlor (pc' : Nat) (G : Gd tb T m c below code) {x : Int64} {y : Int64} {v : Int64} (hd : decode code pc = .ok (.lor, 1)) (hv : x ||| y = v) (hp : pc + 1 = pc') (hr : Steps tb e below (T.setTop (mkF m pc' L (.long v :: S))) target) : Steps tb e below (T.setTop (mkF m pc L (.long y :: .long x :: S))) target := by
  subst hp; subst hv; exact XS.lor G.1 G.2.1 rfl (hb G.2.2 hd) rfl  hr
theorem mlxor (pc' : Nat) (G : Gd tb T m c below code) {x : Int64} {y : Int64} {v : Int64} (hd : decode code pc = .ok (.lxor, 1)) (hv : x ^^^ y = v) (hp : pc + 1 = pc') (hr : Steps tb e below (T.setTop (mkF m pc' L (.long v :: S))) target) : Steps tb e below (T.setTop (mkF m pc L (.long y :: .long x :: S))) target := by
  subst hp; subst hv; exact XS.lxor G.1 G.2.1 rfl (hb G.2.2 hd) rfl  hr
theorem mldiv (pc' : Nat) (G : Gd tb T m c below code) {x : Int64} {y : Int64} {v : Int64} (hd : decode code pc = .ok (.ldiv, 1)) (hz : y ≠ 0) (hv : x / y = v) (hp : pc + 1 = pc') (hr : Steps tb e below (T.setTop (mkF m pc' L (.long v :: S))) target) : Steps tb e below (T.setTop (mkF m pc L (.long y :: .long x :: S))) target := by
  subst hp; subst hv; exact XS.ldiv G.1 G.2.1 rfl (hb G.2.2 hd) rfl hz hr
theorem mlrem (pc' : Nat) (G : Gd tb T m c below code) {x : Int64} {y : Int64} {v : Int64} (hd : decode code pc = .ok (.lrem, 1)) (hz : y ≠ 0) (hv : x - (x / y) * y = v) (hp : pc + 1 = pc') (hr : Steps tb e below (T.setTop (mkF m pc' L (.long v :: S))) target) : Steps tb e below (T.setTop (mkF m pc L (.long y :: .long x :: S))) target := by
  subst hp; subst hv; exact XS.lrem G.1 G.2.1 rfl (hb G.2.2 hd) rfl hz hr
theorem mirem (pc' : Nat) (G : Gd tb T m c below code) {x : Int32} {y : Int32} {v : Int32} (hd : decode code pc = .ok (.irem, 1)) (hz : y ≠ 0) (hv : x - (x / y) * y = v) (hp : pc + 1 = pc') (hr : Steps tb e below (T.setTop (mkF m pc' L (.int v :: S))) target) : Steps tb e below (T.setTop (mkF m pc L (.int y :: .int x :: S))) target := by
  subst hp; subst hv; exact XS.irem G.1 G.2.1 rfl (hb G.2.2 hd) rfl hz hr
theorem mishl (pc' : Nat) (G : Gd tb T m c below code) {x : Int32} {y : Int32} {v : Int32} (hd : decode code pc = .ok (.ishl, 1)) (hv : x <<< (y &&& 31) = v) (hp : pc + 1 = pc') (hr : Steps tb e below (T.setTop (mkF m pc' L (.int v :: S))) target) : Steps tb e below (T.setTop (mkF m pc L (.int y :: .int x :: S))) target := by
  subst hp; subst hv; exact XS.ishl G.1 G.2.1 rfl (hb G.2.2 hd) rfl  hr
theorem mishr (pc' : Nat) (G : Gd tb T m c below code) {x : Int32} {y : Int32} {v : Int32} (hd : decode code pc = .ok (.ishr, 1)) (hv : x >>> (y &&& 31) = v) (hp : pc + 1 = pc') (hr : Steps tb e below (T.setTop (mkF m pc' L (.int v :: S))) target) : Steps tb e below (T.setTop (mkF m pc L (.int y :: .int x :: S))) target := by
  subst hp; subst hv; exact XS.ishr G.1 G.2.1 rfl (hb G.2.2 hd) rfl  hr
theorem miushr (pc' : Nat) (G : Gd tb T m c below code) {x : Int32} {y : Int32} {v : Int32} (hd : decode code pc = .ok (.iushr, 1)) (hv : (x.toUInt32 >>> (y &&& 31).toUInt32).toInt32 = v) (hp : pc + 1 = pc') (hr : Steps tb e below (T.setTop (mkF m pc' L (.int v :: S))) target) : Steps tb e below (T.setTop (mkF m pc L (.int y :: .int x :: S))) target := by
  subst hp; subst hv; exact XS.iushr G.1 G.2.1 rfl (hb G.2.2 hd) rfl  hr
theorem mlshl (pc' : Nat) (G : Gd tb T m c below code) {x : Int64} {y : Int32} {v : Int64} (hd : decode code pc = .ok (.lshl, 1)) (hv : x <<< (y &&& 0x3f).toInt64 = v) (hp : pc + 1 = pc') (hr : Steps tb e below (T.setTop (mkF m pc' L (.long v :: S))) target) : Steps tb e below (T.setTop (mkF m pc L (.int y :: .long x :: S))) target := by
  subst hp; subst hv; exact XS.lshl G.1 G.2.1 rfl (hb G.2.2 hd) rfl  hr
theorem mlshr (pc' : Nat) (G : Gd tb T m c below code) {x : Int64} {y : Int32} {v : Int64} (hd : decode code pc = .ok (.lshr, 1)) (hv : x >>> (y &&& 0x3f).toInt64 = v) (hp : pc + 1 = pc') (hr : Steps tb e below (T.setTop (mkF m pc' L (.long v :: S))) target) : Steps tb e below (T.setTop (mkF m pc L (.int y :: .long x :: S))) target := by
  subst hp; subst hv; exact XS.lshr G.1 G.2.1 rfl (hb G.2.2 hd) rfl  hr
theorem mlushr (pc' : Nat) (G : Gd tb T m c below code) {x : Int64} {y : Int32} {v : Int64} (hd : decode code pc = .ok (.lushr, 1)) (hv : (x.toUInt64 >>> (y &&& 0x3f).toInt64.toUInt64).toInt64 = v) (hp : pc + 1 = pc') (hr : Steps tb e below (T.setTop (mkF m pc' L (.long v :: S))) target) : Steps tb e below (T.setTop (mkF m pc L (.int y :: .long x :: S))) target := by
  subst hp; subst hv; exact XS.lushr G.1 G.2.1 rfl (hb G.2.2 hd) rfl  hr
theorem mineg (pc' : Nat) (G : Gd tb T m c below code) {x : Int32} (hd : decode code pc = .ok (.ineg, 1)) (hp : pc + 1 = pc') (hr : Steps tb e below (T.setTop (mkF m pc' L (.int (-x) :: S))) target) : Steps tb e below (T.setTop (mkF m pc L (.int x :: S))) target := by
  subst hp; exact XS.ineg G.1 G.2.1 rfl (hb G.2.2 hd) rfl hr
theorem mlneg (pc' : Nat) (G : Gd tb T m c below code) {x : Int64} (hd : decode code pc = .ok (.lneg, 1)) (hp : pc + 1 = pc') (hr : Steps tb e below (T.setTop (mkF m pc' L (.long (-x) :: S))) target) : Steps tb e below (T.setTop (mkF m pc L (.long x :: S))) target := by
  subst hp; exact XS.lneg G.1 G.2.1 rfl (hb G.2.2 hd) rfl hr
theorem mi2l (pc' : Nat) (G : Gd tb T m c below code) {x : Int32} (hd : decode code pc = .ok (.i2l, 1)) (hp : pc + 1 = pc') (hr : Steps tb e below (T.setTop (mkF m pc' L (.long (x.toInt64) :: S))) target) : Steps tb e below (T.setTop (mkF m pc L (.int x :: S))) target := by
  subst hp; exact XS.i2l G.1 G.2.1 rfl (hb G.2.2 hd) rfl hr
theorem ml2i (pc' : Nat) (G : Gd tb T m c below code) {x : Int64} (hd : decode code pc = .ok (.l2i, 1)) (hp : pc + 1 = pc') (hr : Steps tb e below (T.setTop (mkF m pc' L (.int (x.toInt32) :: S))) target) : Steps tb e below (T.setTop (mkF m pc L (.long x :: S))) target := by
  subst hp; exact XS.l2i G.1 G.2.1 rfl (hb G.2.2 hd) rfl hr
theorem mi2d (pc' : Nat) (G : Gd tb T m c below code) {x : Int32} (hd : decode code pc = .ok (.i2d, 1)) (hp : pc + 1 = pc') (hr : Steps tb e below (T.setTop (mkF m pc' L (.double (FP.i2d x) :: S))) target) : Steps tb e below (T.setTop (mkF m pc L (.int x :: S))) target := by
  subst hp; exact XS.i2dS G.1 G.2.1 rfl (hb G.2.2 hd) rfl rfl hr
theorem ml2d (pc' : Nat) (G : Gd tb T m c below code) {x : Int64} (hd : decode code pc = .ok (.l2d, 1)) (hp : pc + 1 = pc') (hr : Steps tb e below (T.setTop (mkF m pc' L (.double (FP.l2d x) :: S))) target) : Steps tb e below (T.setTop (mkF m pc L (.long x :: S))) target := by
  subst hp; exact XS.l2dS G.1 G.2.1 rfl (hb G.2.2 hd) rfl rfl hr
theorem mdneg (pc' : Nat) (G : Gd tb T m c below code) {x : UInt64} (hd : decode code pc = .ok (.dneg, 1)) (hp : pc + 1 = pc') (hr : Steps tb e below (T.setTop (mkF m pc' L (.double (FP.dneg x) :: S))) target) : Steps tb e below (T.setTop (mkF m pc L (.double x :: S))) target := by
  subst hp; exact XS.dnegS G.1 G.2.1 rfl (hb G.2.2 hd) rfl rfl hr
theorem md2i (pc' : Nat) (G : Gd tb T m c below code) {x : UInt64} (hd : decode code pc = .ok (.d2i, 1)) (hp : pc + 1 = pc') (hr : Steps tb e below (T.setTop (mkF m pc' L (.int (FP.d2i x) :: S))) target) : Steps tb e below (T.setTop (mkF m pc L (.double x :: S))) target := by
  subst hp; exact XS.d2iS G.1 G.2.1 rfl (hb G.2.2 hd) rfl rfl hr
theorem md2l (pc' : Nat) (G : Gd tb T m c below code) {x : UInt64} (hd : decode code pc = .ok (.d2l, 1)) (hp : pc + 1 = pc') (hr : Steps tb e below (T.setTop (mkF m pc' L (.long (FP.d2l x) :: S))) target) : Steps tb e below (T.setTop (mkF m pc L (.double x :: S))) target := by
  subst hp; exact XS.d2lS G.1 G.2.1 rfl (hb G.2.2 hd) rfl rfl hr
theorem mdadd (pc' : Nat) (G : Gd tb T m c below code) {x y : UInt64} (hd : decode code pc = .ok (.dadd, 1)) (hn : Jvm.Free.Fl.NoNaN64 (FP.dadd x y)) (hp : pc + 1 = pc') (hr : Steps tb e below (T.setTop (mkF m pc' L (.double (FP.dadd x y) :: S))) target) : Steps tb e below (T.setTop (mkF m pc L (.double y :: .double x :: S))) target := by
  subst hp; exact XS.daddS G.1 G.2.1 rfl (hb G.2.2 hd) rfl hn rfl hr
theorem mdsub (pc' : Nat) (G : Gd tb T m c below code) {x y : UInt64} (hd : decode code pc = .ok (.dsub, 1)) (hn : Jvm.Free.Fl.NoNaN64 (FP.dsub x y)) (hp : pc + 1 = pc') (hr : Steps tb e below (T.setTop (mkF m pc' L (.double (FP.dsub x y) :: S))) target) : Steps tb e below (T.setTop (mkF m pc L (.double y :: .double x :: S))) target := by
  subst hp; exact XS.dsubS G.1 G.2.1 rfl (hb G.2.2 hd) rfl hn rfl hr
theorem mdmul (pc' : Nat) (G : Gd tb T m c below code) {x y : UInt64} (hd : decode code pc = .ok (.dmul, 1)) (hn : Jvm.Free.Fl.NoNaN64 (FP.dmul x y)) (hp : pc + 1 = pc') (hr : Steps tb e below (T.setTop (mkF m pc' L (.double (FP.dmul x y) :: S))) target) : Steps tb e below (T.setTop (mkF m pc L (.double y :: .double x :: S))) target := by
  subst hp; exact XS.dmulS G.1 G.2.1 rfl (hb G.2.2 hd) rfl hn rfl hr
theorem mddiv (pc' : Nat) (G : Gd tb T m c below code) {x y : UInt64} (hd : decode code pc = .ok (.ddiv, 1)) (hn : Jvm.Free.Fl.NoNaN64 (FP.ddiv x y)) (hp : pc + 1 = pc') (hr : Steps tb e below (T.setTop (mkF m pc' L (.double (FP.ddiv x y) :: S))) target) : Steps tb e below (T.setTop (mkF m pc L (.double y :: .double x :: S))) target := by
  subst hp; exact XS.ddivS G.1 G.2.1 rfl (hb G.2.2 hd) rfl hn rfl hr
theorem mdcmp (pc' : Nat) (G : Gd tb T m c below code) {o : CmpOp} {x y : UInt64} (hd : decode code pc = .ok (.dcmp o, 1)) (hp : pc + 1 = pc') (hr : Steps tb e below (T.setTop (mkF m pc' L (.int (cmpValue (FP.dcmp x y) o) :: S))) target) : Steps tb e below (T.setTop (mkF m pc L (.double y :: .double x :: S))) target := by
  subst hp; exact XS.dcmpS G.1 G.2.1 rfl (hb G.2.2 hd) rfl rfl hr
theorem mlcmp (pc' : Nat) (G : Gd tb T m c below code) {x y : Int64} (hd : decode code pc = .ok (.lcmp, 1)) (hp : pc + 1 = pc') (hr : Steps tb e below (T.setTop (mkF m pc' L (.int (lcmpW x y) :: S))) target) : Steps tb e below (T.setTop (mkF m pc L (.long y :: .long x :: S))) target := by
  subst hp; exact XS.lcmp G.1 G.2.1 rfl (hb G.2.2 hd) rfl hr
theorem mdup (pc' : Nat) (G : Gd tb T m c below code) {x : Value} (hd : decode code pc = .ok (.dup, 1)) (hc : x.category = 1) (hp : pc + 1 = pc') (hr : Steps tb e below (T.setTop (mkF m pc' L (x :: x :: S))) target) : Steps tb e below (T.setTop (mkF m pc L (x :: S))) target := by
  subst hp; exact XS.dup G.1 G.2.1 rfl (hb G.2.2 hd) rfl hc hr
theorem mpop (pc' : Nat) (G : Gd tb T m c below code) {x : Value} (hd : decode code pc = .ok (.pop, 1)) (hc : x.category = 1) (hp : pc + 1 = pc') (hr : Steps tb e below (T.setTop (mkF m pc' L S)) target) : Steps tb e below (T.setTop (mkF m pc L (x :: S))) target := by
  subst hp; exact XS.pop G.1 G.2.1 rfl (hb G.2.2 hd) rfl hc hr
theorem mdup2 (pc' : Nat) (G : Gd tb T m c below code) {x y : Value} (hd : decode code pc = .ok (.dup2, 1)) (hc : x.category = 1) (hc' : y.category = 1) (hp : pc + 1 = pc') (hr : Steps tb e below (T.setTop (mkF m pc' L (x :: y :: x :: y :: S))) target) : Steps tb e below (T.setTop (mkF m pc L (x :: y :: S))) target := by
  subst hp; exact Jvm.Free.XT.dup2 G.1 G.2.1 rfl (hb G.2.2 hd) rfl hc hc' hr
theorem mdup_x1 (pc' : Nat) (G : Gd tb T m c below code) {x y : Value} (hd : decode code pc = .ok (.dup_x1, 1)) (hc : x.category = 1) (hc' : y.category = 1) (hp : pc + 1 = pc') (hr : Steps tb e below (T.setTop (mkF m pc' L (x :: y :: x :: S))) target) : Steps tb e below (T.setTop (mkF m pc L (x :: y :: S))) target := by
  subst hp; exact XS.dupX1 G.1 G.2.1 rfl (hb G.2.2 hd) rfl hc hc' hr
theorem miinc (pc' : Nat) (G : Gd tb T m c below code) {k : Nat} {i : Int} {x : Int32} (hd : decode code pc = .ok (.iinc k i, 3)) (hl : L[k]? = some (.val (.int x))) (L' : Array Slot) (hl' : storeLocals L k (.int (x + Int32.ofInt i)) = some L') (hp : pc + 3 = pc') (hr : Steps tb e below (T.setTop (mkF m pc' L' S)) target) : Steps tb e below (T.setTop (mkF m pc L S)) target := by
  subst hp; exact XS.iinc G.1 G.2.1 rfl (hb G.2.2 hd) hl hl' hr
theorem mgoto (pc' : Nat) (G : Gd tb T m c below code) {o : Int} (hd : decode code pc = .ok (.goto o, 3)) (ho : 0 ≤ (pc : Int) + o) (hp : ((pc : Int) + o).toNat = pc') (hr : Steps tb e below (T.setTop (mkF m pc' L S)) target) : Steps tb e below (T.setTop (mkF m pc L S)) target := XS.goto G.1 G.2.1 rfl rfl (hb G.2.2 hd) ho hp hr
theorem mifYes (pc' : Nat) (G : Gd tb T m c below code) {cd : ClassFile.Cond} {o : Int} {x : Int32} (hd : decode code pc = .ok (.ifCond cd o, 3)) (hc : ifCond.holds cd x = true) (ho : 0 ≤ (pc : Int) + o) (hp : ((pc : Int) + o).toNat = pc') (hr : Steps tb e below (T.setTop (mkF m pc' L S)) target) : Steps tb e below (T.setTop (mkF m pc L (.int x :: S))) target := XS.ifYes G.1 G.2.1 rfl rfl (hb G.2.2 hd) rfl hc ho hp hr
theorem mifNo (pc' : Nat) (G : Gd tb T m c below code) {cd : ClassFile.Cond} {o : Int} {x : Int32} (hd : decode code pc = .ok (.ifCond cd o, 3)) (hc : ifCond.holds cd x = false) (hp : pc + 3 = pc') (hr : Steps tb e below (T.setTop (mkF m pc' L S)) target) : Steps tb e below (T.setTop (mkF m pc L (.int x :: S))) target := by
  subst hp; exact XS.ifNo G.1 G.2.1 rfl (hb G.2.2 hd) rfl hc hr
theorem micmpYes (pc' : Nat) (G : Gd tb T m c below code) {cd : ClassFile.Cond} {o : Int} {x y : Int32} (hd : decode code pc = .ok (.if_icmp cd o, 3)) (hc : if_icmp.holds cd x y = true) (ho : 0 ≤ (pc : Int) + o) (hp : ((pc : Int) + o).toNat = pc') (hr : Steps tb e below (T.setTop (mkF m pc' L S)) target) : Steps tb e below (T.setTop (mkF m pc L (.int y :: .int x :: S))) target := XS.icmpYes G.1 G.2.1 rfl rfl (hb G.2.2 hd) rfl hc ho hp hr
theorem micmpNo (pc' : Nat) (G : Gd tb T m c below code) {cd : ClassFile.Cond} {o : Int} {x y : Int32} (hd : decode code pc = .ok (.if_icmp cd o, 3)) (hc : if_icmp.holds cd x y = false) (hp : pc + 3 = pc') (hr : Steps tb e below (T.setTop (mkF m pc' L S)) target) : Steps tb e below (T.setTop (mkF m pc L (.int y :: .int x :: S))) target := by
  subst hp; exact XS.icmpNo G.1 G.2.1 rfl (hb G.2.2 hd) rfl hc hr
end Steps
section Arrays
variable {p : Program} {l : Launch} {e : Env} {R : Room} {s : State} {m : MethodId} {args : Array Value} {below : List Frame} {meth : Method} {c : Code} {T : State} {locs : List Loc} {cells slots : Nat} {Z : State} {h : Heap} {a : Addr} {k : ClassId} {z j : Int32} {vs : List Value} {dv : Value} {pc : Nat} {L : Array Slot} {S : List Value} {code : ByteArray} {target : State}
theorem wd {ws : List Cond} {a0 : Array Value} (hw : ∀ d ∈ ws, d.before a0 Z = true) (i : Nat) {d : Cond} (q : ws[i]? = some d) : d.before a0 Z = true := hw d (List.mem_of_getElem? q)
theorem miaload (pc' : Nat) (X : Stand p l e R s m args below meth c T locs cells slots) (hx : p.tables.exec = Jvm.exec) (hby : c.code = code) (hZ : Z.Warmed39 s.vm) (eT : T.heap = h) (F : Arv Z h a k .int z vs dv) {v : Int32} (hd : decode code pc = .ok (.iaload, 1)) (hin : ¬ j < 0 ∧ j < z) (hv : vs.getD j.toNatClampNeg dv = .int v) (hp : pc + 1 = pc') (hr : Steps p.tables e below (T.setTop (mkF m pc' L (.int v :: S))) target) : Steps p.tables e below (T.setTop (mkF m pc L (.int j :: .ref a :: S))) target := by
  subst hp
  obtain ⟨cl, A, -, q2, q3, H, -⟩ := F
  have hb' := inb_of q2 hin
  exact X.iaload hx (j := j) (v := .int v) (by rw [eT]; exact A.1) (State.isArrayOf_alike hZ.alike A.2.1) A.2.2 hb' (H.at hb' hv) (g := mkF m pc L (.int j :: .ref a :: S)) rfl rfl (hb hby hd) _ hr
theorem own_stI (X : Stand p l e R s m args below meth c T locs cells slots) (hx : p.tables.exec = Jvm.exec) (hby : c.code = code) (hZ : Z.Warmed39 s.vm) (eT : T.heap = h) (F : Arv Z h a k .int z vs dv) {v : Int32} (hd : decode code pc = .ok (.iastore, 1)) (hin : ¬ j < 0 ∧ j < z) (i : Nat) (hj : j.toNatClampNeg = i) (hi : i < vs.length) (L : Array Slot) (S : List Value) (pc' : Nat) (hp : pc + 1 = pc') :
    ∃ T' h', Stand p l e R s m args below meth c T' (locs ++ [⟨a, j.toNatClampNeg⟩]) cells slots ∧ T'.heap = h' ∧ Wr h h' a j.toNatClampNeg (.int v) ∧ Arv Z h' a k .int z (vs.set i (.int v)) dv ∧ ∀ target, Steps p.tables e below (T'.setTop (mkF m pc' L S)) target → Steps p.tables e below (T.setTop (mkF m pc L (.int v :: .int j :: .ref a :: S))) target := by
  subst hp
  obtain ⟨cl, A, q1, q2, q3, H, G⟩ := F
  obtain ⟨T', h', X', e', W, st⟩ := Jvm.RoadKit.stI X hx hZ eT A (j := j) (inb_of q2 hin) (g := mkF m pc L (.int v :: .int j :: .ref a :: S)) rfl rfl (hb hby hd)
  exact ⟨T', h', X', e', W, Arv.set A q1 q2 q3 H G rfl W i hj hi, st⟩
theorem mlaload (pc' : Nat) (X : Stand p l e R s m args below meth c T locs cells slots) (hx : p.tables.exec = Jvm.exec) (hby : c.code = code) (hZ : Z.Warmed39 s.vm) (eT : T.heap = h) (F : Arv Z h a k .long z vs dv) {v : Int64} (hd : decode code pc = .ok (.laload, 1)) (hin : ¬ j < 0 ∧ j < z) (hv : vs.getD j.toNatClampNeg dv = .long v) (hp : pc + 1 = pc') (hr : Steps p.tables e below (T.setTop (mkF m pc' L (.long v :: S))) target) : Steps p.tables e below (T.setTop (mkF m pc L (.int j :: .ref a :: S))) target := by
  subst hp
  obtain ⟨cl, A, -, q2, q3, H, -⟩ := F
  have hb' := inb_of q2 hin
  exact X.laload hx (j := j) (v := .long v) (by rw [eT]; exact A.1) (State.isArrayOf_alike hZ.alike A.2.1) A.2.2 hb' (H.at hb' hv) (g := mkF m pc L (.int j :: .ref a :: S)) rfl rfl (hb hby hd) _ hr
theorem own_stJ (X : Stand p l e R s m args below meth c T locs cells slots) (hx : p.tables.exec = Jvm.exec) (hby : c.code = code) (hZ : Z.Warmed39 s.vm) (eT : T.heap = h) (F : Arv Z h a k .long z vs dv) {v : Int64} (hd : decode code pc = .ok (.lastore, 1)) (hin : ¬ j < 0 ∧ j < z) (i : Nat) (hj : j.toNatClampNeg = i) (hi : i < vs.length) (L : Array Slot) (S : List Value) (pc' : Nat) (hp : pc + 1 = pc') :
    ∃ T' h', Stand p l e R s m args below meth c T' (locs ++ [⟨a, j.toNatClampNeg⟩]) cells slots ∧ T'.heap = h' ∧ Wr h h' a j.toNatClampNeg (.long v) ∧ Arv Z h' a k .long z (vs.set i (.long v)) dv ∧ ∀ target, Steps p.tables e below (T'.setTop (mkF m pc' L S)) target → Steps p.tables e below (T.setTop (mkF m pc L (.long v :: .int j :: .ref a :: S))) target := by
  subst hp
  obtain ⟨cl, A, q1, q2, q3, H, G⟩ := F
  obtain ⟨T', h', X', e', W, st⟩ := Jvm.RoadKit.stJ X hx hZ eT A (j := j) (inb_of q2 hin) (g := mkF m pc L (.long v :: .int j :: .ref a :: S)) rfl rfl (hb hby hd)
  exact ⟨T', h', X', e', W, Arv.set A q1 q2 q3 H G rfl W i hj hi, st⟩
theorem mdaload (pc' : Nat) (X : Stand p l e R s m args below meth c T locs cells slots) (hx : p.tables.exec = Jvm.exec) (hby : c.code = code) (hZ : Z.Warmed39 s.vm) (eT : T.heap = h) (F : Arv Z h a k .double z vs dv) {v : UInt64} (hd : decode code pc = .ok (.daload, 1)) (hin : ¬ j < 0 ∧ j < z) (hv : vs.getD j.toNatClampNeg dv = .double v) (hp : pc + 1 = pc') (hr : Steps p.tables e below (T.setTop (mkF m pc' L (.double v :: S))) target) : Steps p.tables e below (T.setTop (mkF m pc L (.int j :: .ref a :: S))) target := by
  subst hp
  obtain ⟨cl, A, -, q2, q3, H, -⟩ := F
  have hb' := inb_of q2 hin
  exact X.daload hx (j := j) (v := .double v) (by rw [eT]; exact A.1) (State.isArrayOf_alike hZ.alike A.2.1) A.2.2 hb' (H.at hb' hv) (g := mkF m pc L (.int j :: .ref a :: S)) rfl rfl (hb hby hd) _ hr
theorem own_stD (X : Stand p l e R s m args below meth c T locs cells slots) (hx : p.tables.exec = Jvm.exec) (hby : c.code = code) (hZ : Z.Warmed39 s.vm) (eT : T.heap = h) (F : Arv Z h a k .double z vs dv) {v : UInt64} (hd : decode code pc = .ok (.dastore, 1)) (hin : ¬ j < 0 ∧ j < z) (i : Nat) (hj : j.toNatClampNeg = i) (hi : i < vs.length) (L : Array Slot) (S : List Value) (pc' : Nat) (hp : pc + 1 = pc') :
    ∃ T' h', Stand p l e R s m args below meth c T' (locs ++ [⟨a, j.toNatClampNeg⟩]) cells slots ∧ T'.heap = h' ∧ Wr h h' a j.toNatClampNeg (.double v) ∧ Arv Z h' a k .double z (vs.set i (.double v)) dv ∧ ∀ target, Steps p.tables e below (T'.setTop (mkF m pc' L S)) target → Steps p.tables e below (T.setTop (mkF m pc L (.double v :: .int j :: .ref a :: S))) target := by
  subst hp
  obtain ⟨cl, A, q1, q2, q3, H, G⟩ := F
  obtain ⟨T', h', X', e', W, st⟩ := Jvm.RoadKit.stD X hx hZ eT A (j := j) (inb_of q2 hin) (g := mkF m pc L (.double v :: .int j :: .ref a :: S)) rfl rfl (hb hby hd)
  exact ⟨T', h', X', e', W, Arv.set A q1 q2 q3 H G rfl W i hj hi, st⟩
theorem mlen {ty : FieldType} (pc' : Nat) (X : Stand p l e R s m args below meth c T locs cells slots) (hx : p.tables.exec = Jvm.exec) (hby : c.code = code) (hZ : Z.Warmed39 s.vm) (eT : T.heap = h) (F : Arv Z h a k ty z vs dv) (hd : decode code pc = .ok (.arraylength, 1)) (hp : pc + 1 = pc') (hr : Steps p.tables e below (T.setTop (mkF m pc' L (.int z :: S))) target) : Steps p.tables e below (T.setTop (mkF m pc L (.ref a :: S))) target := by
  subst hp
  obtain ⟨cl, A, -, q2, q3, -, -⟩ := F
  refine X.arraylength hx (by rw [eT]; exact A.1) (State.isArrayOf_alike hZ.alike A.2.1) (g := mkF m pc L (.ref a :: S)) rfl rfl (hb hby hd) _ ?_
  rw [len_of q2 q3]
  exact hr
end Arrays
end Jvm.OwnSt
namespace Jvm.OwnFl
open Jvm.FP Jvm.FP.Core Jvm.Free.Fl Jvm.Op
/-- a double's value, in units of 2^-1074 -/
def zv (a : UInt64) : Int := zval b64 (val64 a)
theorem vv_ddiv (a b : UInt64) : val64 (FP.ddiv a b) = quotient b64 (val64 a) (val64 b) := val64_ddiv a b
theorem vv_dmul (a b : UInt64) : val64 (FP.dmul a b) = round b64 (exactProduct (val64 a) (val64 b)) := val64_dmul a b
theorem vv_dadd (a b : UInt64) : val64 (FP.dadd a b) = round b64 (exactSum (val64 a) (val64 b)) := val64_dadd a b
theorem vv_dsub (a b : UInt64) : val64 (FP.dsub a b) = round b64 (exactSum (val64 a) (negate (val64 b))) := val64_dsub a b
/-- one, in these units -/
def ONE : Int := (one64 : Int)
theorem one_pos : 0 < ONE := Int.natCast_pos.mpr one64_pos
theorem qm : b64.qmin = -1074 := qmin_b64
theorem one_qm : (2 : Nat) ^ (-b64.qmin).toNat = one64 := pow_qmin64
theorem own_quot (f : Fmt) (s t : Bool) (c d : Nat) (q r : Int) : quotient f (.fin s c q) (.fin t d r) = if d = 0 then (if c = 0 then .nan else .inf (s != t)) else roundRatio f (s != t) c d (q - r) := rfl
theorem own_inU (c : Nat) (q e : Int) : inUnits c q e = c * 2 ^ (q - e).toNat := rfl
theorem pow3 {a b c d : Nat} (x : Nat) (h : a + b = c + d) : x * 2 ^ a * 2 ^ b = x * 2 ^ c * 2 ^ d := by
  rw [Nat.mul_assoc, ← Nat.pow_add, h, Nat.pow_add, ← Nat.mul_assoc]
section Mag
variable {s t : Bool} {c d : Nat} {q r : Int} {V : Datum}
theorem scale_quot (h1 : b64.qmin ≤ q) (h2 : b64.qmin ≤ r) :
    c * 2 ^ (q - r - min b64.qmin (q - r)).toNat * 2 ^ (r - b64.qmin).toNat = c * 2 ^ (q - b64.qmin).toNat * one64 * 2 ^ (b64.qmin - min b64.qmin (q - r)).toNat := by
  rw [← one_qm]
  have e : (q - r - min b64.qmin (q - r)).toNat + (r - b64.qmin).toNat = ((q - b64.qmin).toNat + (-b64.qmin).toNat) + (b64.qmin - min b64.qmin (q - r)).toNat := by
    have := qm; omega
  rw [Nat.mul_assoc, ← Nat.pow_add, e, Nat.pow_add, Nat.pow_add]
  simp only [Nat.mul_assoc]
theorem quot_mag_le (hx : FP.Core.fits b64 (.fin s c q)) (hy : FP.Core.fits b64 (.fin t d r)) (hd : d ≠ 0) (hV : FP.Core.fits b64 V) (hn : V ≠ .nan)
    (h : inUnits c q b64.qmin * one64 ≤ zmag b64 V * inUnits d r b64.qmin) : zmag b64 (roundRatio b64 (s != t) c d (q - r)) ≤ zmag b64 V := by
  refine zmag_roundRatio_le good_b64 (e0 := min b64.qmin (q - r)) (Nat.pos_of_ne_zero hd) hV hn (by omega) (by omega) ?_
  have h1 := hx.2.1
  have h2 := hy.2.1
  have hP := Nat.two_pow_pos (r - b64.qmin).toNat
  refine Nat.le_of_mul_le_mul_right (c := 2 ^ (r - b64.qmin).toNat) ?_ hP
  rw [own_inU] at h ⊢
  rw [own_inU] at h
  rw [scale_quot h1 h2]
  have := Nat.mul_le_mul_right (2 ^ (b64.qmin - min b64.qmin (q - r)).toNat) h
  refine Nat.le_trans this (Nat.le_of_eq ?_)
  simp only [Nat.mul_assoc, Nat.mul_left_comm, Nat.mul_comm]
theorem quot_mag_ge (hx : FP.Core.fits b64 (.fin s c q)) (hy : FP.Core.fits b64 (.fin t d r)) (hd : d ≠ 0) (hV : FP.Core.fits b64 V)
    (h : zmag b64 V * inUnits d r b64.qmin ≤ inUnits c q b64.qmin * one64) : zmag b64 V ≤ zmag b64 (roundRatio b64 (s != t) c d (q - r)) := by
  refine zmag_roundRatio_ge good_b64 (e0 := min b64.qmin (q - r)) (Nat.pos_of_ne_zero hd) hV (by omega) (by omega) ?_
  have h1 := hx.2.1
  have h2 := hy.2.1
  have hP := Nat.two_pow_pos (r - b64.qmin).toNat
  refine Nat.le_of_mul_le_mul_right (c := 2 ^ (r - b64.qmin).toNat) ?_ hP
  rw [own_inU] at h ⊢
  rw [own_inU] at h
  rw [scale_quot h1 h2]
  have := Nat.mul_le_mul_right (2 ^ (b64.qmin - min b64.qmin (q - r)).toNat) h
  refine Nat.le_trans (Nat.le_of_eq ?_) this
  simp only [Nat.mul_assoc, Nat.mul_left_comm, Nat.mul_comm]
end Mag
theorem fin_at {a : UInt64} (h : DFin a) : ∃ s c q, val64 a = .fin s c q ∧ FP.Core.fits b64 (.fin s c q) ∧ zv a = signed s (inUnits c q b64.qmin) := by
  obtain ⟨s, c, q, e⟩ := h
  have f := val64_fits a
  rw [e] at f
  exact ⟨s, c, q, e, f, by unfold zv; rw [e]; rfl⟩
theorem units_zero {d : Nat} {r : Int} : inUnits d r b64.qmin = 0 ↔ d = 0 := by
  rw [own_inU]
  have hP := Nat.two_pow_pos (r - b64.qmin).toNat
  constructor
  · intro h
    rcases Nat.mul_eq_zero.mp h with h | h
    · exact h
    · omega
  · rintro rfl; simp
theorem div_core {a b V : UInt64} (ha : DFin a) (hb : DFin b) (hz : zv b ≠ 0) (hV : val64 V ≠ .nan) :
    ∃ (U A D W : Nat) (s t w : Bool) (M : Nat), ONE = (U : Int) ∧ zv a = signed s A ∧ zv b = signed t D ∧ 0 < D ∧ zv V = signed w W ∧ val64 (FP.ddiv a b) ≠ .nan ∧ zv (FP.ddiv a b) = signed (s != t) M ∧ (A * U ≤ W * D → M ≤ W) ∧ (W * D ≤ A * U → W ≤ M) := by
  obtain ⟨s, c, q, e1, f1, z1⟩ := fin_at ha
  obtain ⟨t, d, r, e2, f2, z2⟩ := fin_at hb
  have hd : d ≠ 0 := by
    rintro rfl
    apply hz; rw [z2, units_zero.mpr rfl]; exact signed_zero t
  have e3 : val64 (FP.ddiv a b) = roundRatio b64 (s != t) c d (q - r) := by
    rw [vv_ddiv, e1, e2, own_quot, if_neg hd]
  have fV := val64_fits V
  refine ⟨one64, _, _, zmag b64 (val64 V), s, t, sgn (val64 V), zmag b64 (roundRatio b64 (s != t) c d (q - r)), rfl, z1, z2, ?_, rfl, ?_, ?_, quot_mag_le f1 f2 hd fV hV, quot_mag_ge f1 f2 hd fV⟩
  · exact Nat.pos_of_ne_zero fun h => hd (units_zero.mp h)
  · rw [e3]; exact roundRatio_ne_nan _ _ _ _ _
  · unfold zv; rw [e3]; unfold zval; rw [sgn_roundRatio]
theorem sg_t (n : Nat) : signed true n = -(n : Int) := rfl
theorem sg_f (n : Nat) : signed false n = (n : Int) := rfl
theorem div_le_pos {a b V : UInt64} (ha : DFin a) (hb : DFin b) (hz : 0 < zv b) (hV : val64 V ≠ .nan) (h : zv a * ONE ≤ zv V * zv b) : zv (FP.ddiv a b) ≤ zv V := by
  obtain ⟨U, A, D, W, s, t, w, M, e0, e1, e2, hD, e3, -, e4, l1, l2⟩ := div_core ha hb (by omega) hV
  rw [e1, e2, e3] at h
  rw [e2] at hz
  rw [e3, e4]
  obtain rfl : t = false := by cases t <;> simp only [sg_t, sg_f] at hz <;> first | rfl | omega
  rw [sg_f, e0, ← signed_mul, ← signed_mul] at h
  have hz2 : W * D = 0 → W = 0 := fun x => (Nat.mul_eq_zero.mp x).elim id (fun y => by omega)
  generalize A * U = P at *
  generalize W * D = R at *
  cases s <;> cases w <;> simp only [sg_t, sg_f, Bool.bne_false, bne_self_eq_false] at h ⊢
  · have := l1 (by omega); omega
  · have := l1 (by omega); have := hz2 (by omega); omega
  · omega
  · have := l2 (by omega); omega
theorem div_ge_pos {a b V : UInt64} (ha : DFin a) (hb : DFin b) (hz : 0 < zv b) (hV : val64 V ≠ .nan) (h : zv V * zv b ≤ zv a * ONE) : zv V ≤ zv (FP.ddiv a b) := by
  obtain ⟨U, A, D, W, s, t, w, M, e0, e1, e2, hD, e3, -, e4, l1, l2⟩ := div_core ha hb (by omega) hV
  rw [e1, e2, e3] at h
  rw [e2] at hz
  rw [e3, e4]
  obtain rfl : t = false := by cases t <;> simp only [sg_t, sg_f] at hz <;> first | rfl | omega
  rw [sg_f, e0, ← signed_mul, ← signed_mul] at h
  have hz2 : W * D = 0 → W = 0 := fun x => (Nat.mul_eq_zero.mp x).elim id (fun y => by omega)
  generalize A * U = P at *
  generalize W * D = R at *
  cases s <;> cases w <;> simp only [sg_t, sg_f, Bool.bne_false, bne_self_eq_false] at h ⊢
  · have := l2 (by omega); omega
  · omega
  · have := l1 (by omega); have := hz2 (by omega); omega
  · have := l1 (by omega); omega
theorem div_le_neg {a b V : UInt64} (ha : DFin a) (hb : DFin b) (hz : zv b < 0) (hV : val64 V ≠ .nan) (h : zv V * zv b ≤ zv a * ONE) : zv (FP.ddiv a b) ≤ zv V := by
  obtain ⟨U, A, D, W, s, t, w, M, e0, e1, e2, hD, e3, -, e4, l1, l2⟩ := div_core ha hb (by omega) hV
  rw [e1, e2, e3] at h
  rw [e2] at hz
  rw [e3, e4]
  obtain rfl : t = true := by cases t <;> simp only [sg_t, sg_f] at hz <;> first | rfl | omega
  rw [sg_t, Int.mul_neg, e0, ← signed_mul, ← signed_mul] at h
  have hz2 : W * D = 0 → W = 0 := fun x => (Nat.mul_eq_zero.mp x).elim id (fun y => by omega)
  generalize A * U = P at *
  generalize W * D = R at *
  cases s <;> cases w <;> simp only [sg_t, sg_f, Bool.bne_true, Bool.not_true, Bool.not_false] at h ⊢
  · omega
  · have := l2 (by omega); omega
  · have := l1 (by omega); omega
  · have := l1 (by omega); have := hz2 (by omega); omega
theorem div_ge_neg {a b V : UInt64} (ha : DFin a) (hb : DFin b) (hz : zv b < 0) (hV : val64 V ≠ .nan) (h : zv a * ONE ≤ zv V * zv b) : zv V ≤ zv (FP.ddiv a b) := by
  obtain ⟨U, A, D, W, s, t, w, M, e0, e1, e2, hD, e3, -, e4, l1, l2⟩ := div_core ha hb (by omega) hV
  rw [e1, e2, e3] at h
  rw [e2] at hz
  rw [e3, e4]
  obtain rfl : t = true := by cases t <;> simp only [sg_t, sg_f] at hz <;> first | rfl | omega
  rw [sg_t, Int.mul_neg, e0, ← signed_mul, ← signed_mul] at h
  have hz2 : W * D = 0 → W = 0 := fun x => (Nat.mul_eq_zero.mp x).elim id (fun y => by omega)
  generalize A * U = P at *
  generalize W * D = R at *
  cases s <;> cases w <;> simp only [sg_t, sg_f, Bool.bne_true, Bool.not_true, Bool.not_false] at h ⊢
  · have := l1 (by omega); have := hz2 (by omega); omega
  · have := l1 (by omega); omega
  · have := l2 (by omega); omega
  · omega
theorem div_nan {a b : UInt64} (ha : DFin a) (hb : DFin b) (hz : zv b ≠ 0) : val64 (FP.ddiv a b) ≠ .nan := by
  obtain ⟨U, A, D, W, s, t, w, M, -, -, -, -, -, h, -⟩ := div_core (V := a) ha hb hz ha.ne_nan
  exact h
theorem no_of {x : UInt64} (h : val64 x ≠ .nan) : NoNaN64 x := noNaN64_no.mpr ((notNaN_iff x).mpr h)
theorem of_no {x : UInt64} (h : NoNaN64 x) : val64 x ≠ .nan := (notNaN_iff x).mp (noNaN64_no.mp h)
theorem fin_no {x : UInt64} (h : DFin x) : NoNaN64 x := no_of h.ne_nan
/-- as great as a finite one: finite -/
theorem fin_of_eq {a V : UInt64} (hn : val64 a ≠ .nan) (hV : DFin V) (h : zv a = zv V) : DFin a := by
  cases e : val64 a with
  | nan => exact absurd e hn
  | fin s c q => exact ⟨s, c, q, e⟩
  | inf s =>
    exfalso
    have h1 := hV.zval_lt
    have h2 : (zv a).natAbs = b64.tails * 2 ^ (b64.exps - 2) := by unfold zv; rw [e]; exact natAbs_signed _ _
    have h3 : (zv V).natAbs = zmag b64 (val64 V) := natAbs_signed _ _
    rw [h] at h2
    omega
theorem fin_of_le {a V W : UInt64} (hn : val64 a ≠ .nan) (hV : DFin V) (hW : DFin W) (h : zv V ≤ zv a) (h' : zv a ≤ zv W) : DFin a := by
  cases e : val64 a with
  | nan => exact absurd e hn
  | fin s c q => exact ⟨s, c, q, e⟩
  | inf s =>
    exfalso
    have h1 := hV.zval_lt
    have h1' := hW.zval_lt
    have h2 : (zv a).natAbs = b64.tails * 2 ^ (b64.exps - 2) := by unfold zv; rw [e]; exact natAbs_signed _ _
    have h3 : (zv V).natAbs = zmag b64 (val64 V) := natAbs_signed _ _
    have h3' : (zv W).natAbs = zmag b64 (val64 W) := natAbs_signed _ _
    omega
/-! a finite double of a known value -/
def Dy (a : UInt64) (x : Int) : Prop := DFin a ∧ zv a = x
def Rep (x : Int) : Prop := ∃ V, Dy V x
theorem Dy.rep {a : UInt64} {x : Int} (h : Dy a x) : Rep x := ⟨a, h⟩
theorem Dy.no {a : UInt64} {x : Int} (h : Dy a x) : NoNaN64 a := fin_no h.1
theorem Dy.nn {a : UInt64} {x : Int} (h : Dy a x) : val64 a ≠ .nan := h.1.ne_nan
theorem dy_div {a b : UInt64} {x y z : Int} (ha : Dy a x) (hb : Dy b y) (hy : y ≠ 0) (hz : Rep z) (h : z * y = x * ONE) : Dy (FP.ddiv a b) z := by
  obtain ⟨V, fV, rfl⟩ := hz
  obtain ⟨fa, rfl⟩ := ha
  obtain ⟨fb, rfl⟩ := hb
  have hn := div_nan fa fb hy
  have e : zv (FP.ddiv a b) = zv V := by
    rcases Int.lt_or_gt_of_ne hy with q | q
    · exact Int.le_antisymm (div_le_neg fa fb q fV.ne_nan (Int.le_of_eq h)) (div_ge_neg fa fb q fV.ne_nan (Int.le_of_eq h.symm))
    · exact Int.le_antisymm (div_le_pos fa fb q fV.ne_nan (Int.le_of_eq h.symm)) (div_ge_pos fa fb q fV.ne_nan (Int.le_of_eq h))
  exact ⟨fin_of_eq hn fV e, e⟩
theorem mul_le {a b V : UInt64} (ha : DFin a) (hb : DFin b) (hV : val64 V ≠ .nan) (h : zv a * zv b ≤ zv V * ONE) : zv (FP.dmul a b) ≤ zv V := by
  obtain ⟨s, c, q, e1, f1, z1⟩ := fin_at ha
  obtain ⟨t, d, r, e2, f2, z2⟩ := fin_at hb
  obtain ⟨p1, p2, p3⟩ := product_units f1 f2
  unfold zv
  rw [vv_dmul, e1, e2, p1]
  refine zval_round_le good_b64 (val64_fits V) hV (e0 := 2 * b64.qmin) (by have := qm; omega) p2 ?_
  rw [p3, signed_xor, show (b64.qmin - 2 * b64.qmin).toNat = (-b64.qmin).toNat by omega, one_qm]
  rw [z1, z2] at h
  exact h
theorem mul_ge {a b V : UInt64} (ha : DFin a) (hb : DFin b) (hV : val64 V ≠ .nan) (h : zv V * ONE ≤ zv a * zv b) : zv V ≤ zv (FP.dmul a b) := by
  obtain ⟨s, c, q, e1, f1, z1⟩ := fin_at ha
  obtain ⟨t, d, r, e2, f2, z2⟩ := fin_at hb
  obtain ⟨p1, p2, p3⟩ := product_units f1 f2
  unfold zv
  rw [vv_dmul, e1, e2, p1]
  refine zval_round_ge good_b64 (val64_fits V) hV (e0 := 2 * b64.qmin) (by have := qm; omega) p2 ?_
  rw [p3, signed_xor, show (b64.qmin - 2 * b64.qmin).toNat = (-b64.qmin).toNat by omega, one_qm]
  rw [z1, z2] at h
  exact h
theorem mul_nan {a b : UInt64} (ha : DFin a) (hb : DFin b) : val64 (FP.dmul a b) ≠ .nan := (notNaN_iff _).mp (dmul_out ha hb)
theorem dy_mul {a b : UInt64} {x y z : Int} (ha : Dy a x) (hb : Dy b y) (hz : Rep z) (h : z * ONE = x * y) : Dy (FP.dmul a b) z := by
  obtain ⟨V, fV, rfl⟩ := hz
  obtain ⟨fa, rfl⟩ := ha
  obtain ⟨fb, rfl⟩ := hb
  have e : zv (FP.dmul a b) = zv V := Int.le_antisymm (mul_le fa fb fV.ne_nan (Int.le_of_eq h.symm)) (mul_ge fa fb fV.ne_nan (Int.le_of_eq h))
  exact ⟨fin_of_eq (mul_nan fa fb) fV e, e⟩
theorem add_le {a b V : UInt64} (ha : DFin a) (hb : DFin b) (hV : val64 V ≠ .nan) (h : zv a + zv b ≤ zv V) : zv (FP.dadd a b) ≤ zv V := by
  unfold zv
  rw [vv_dadd]
  exact sum_le good_b64 ha hb (val64_fits a) (val64_fits b) (val64_fits V) hV h
theorem add_ge {a b V : UInt64} (ha : DFin a) (hb : DFin b) (hV : val64 V ≠ .nan) (h : zv V ≤ zv a + zv b) : zv V ≤ zv (FP.dadd a b) := by
  unfold zv
  rw [vv_dadd]
  exact sum_ge good_b64 ha hb (val64_fits a) (val64_fits b) (val64_fits V) hV h
theorem add_nan {a b : UInt64} (ha : DFin a) (hb : DFin b) : val64 (FP.dadd a b) ≠ .nan := (notNaN_iff _).mp (dadd_out ha.notNaN hb)
theorem dy_add {a b : UInt64} {x y : Int} (ha : Dy a x) (hb : Dy b y) (hz : Rep (x + y)) : Dy (FP.dadd a b) (x + y) := by
  obtain ⟨V, fV, e0⟩ := hz
  obtain ⟨fa, rfl⟩ := ha
  obtain ⟨fb, rfl⟩ := hb
  have e : zv (FP.dadd a b) = zv V := Int.le_antisymm (add_le fa fb fV.ne_nan (Int.le_of_eq e0.symm)) (add_ge fa fb fV.ne_nan (Int.le_of_eq e0))
  exact ⟨fin_of_eq (add_nan fa fb) fV e, e.trans e0⟩
theorem neg_fin {b : UInt64} (hb : DFin b) : ∃ s c q, negate (val64 b) = .fin s c q := by
  obtain ⟨s, c, q, e⟩ := hb
  exact ⟨!s, c, q, by rw [e]; rfl⟩
theorem sub_le {a b V : UInt64} (ha : DFin a) (hb : DFin b) (hV : val64 V ≠ .nan) (h : zv a - zv b ≤ zv V) : zv (FP.dsub a b) ≤ zv V := by
  unfold zv
  rw [vv_dsub]
  refine sum_le good_b64 ha (neg_fin hb) (val64_fits a) (negate_fits (val64_fits b)) (val64_fits V) hV ?_
  rw [zval_negate]; unfold zv at h; omega
theorem sub_ge {a b V : UInt64} (ha : DFin a) (hb : DFin b) (hV : val64 V ≠ .nan) (h : zv V ≤ zv a - zv b) : zv V ≤ zv (FP.dsub a b) := by
  unfold zv
  rw [vv_dsub]
  refine sum_ge good_b64 ha (neg_fin hb) (val64_fits a) (negate_fits (val64_fits b)) (val64_fits V) hV ?_
  rw [zval_negate]; unfold zv at h; omega
theorem sub_nan {a b : UInt64} (ha : DFin a) (hb : DFin b) : val64 (FP.dsub a b) ≠ .nan := (notNaN_iff _).mp (dsub_out ha.notNaN hb)
theorem dy_sub {a b : UInt64} {x y : Int} (ha : Dy a x) (hb : Dy b y) (hz : Rep (x - y)) : Dy (FP.dsub a b) (x - y) := by
  obtain ⟨V, fV, e0⟩ := hz
  obtain ⟨fa, rfl⟩ := ha
  obtain ⟨fb, rfl⟩ := hb
  have e : zv (FP.dsub a b) = zv V := Int.le_antisymm (sub_le fa fb fV.ne_nan (Int.le_of_eq e0.symm)) (sub_ge fa fb fV.ne_nan (Int.le_of_eq e0))
  exact ⟨fin_of_eq (sub_nan fa fb) fV e, e.trans e0⟩
theorem dy_i2d (n : Int32) : Dy (FP.i2d n) (n.toInt * ONE) := ⟨Core.i2d_fin n, DInt_zval (i2d_int n)⟩
theorem dy_l2d {n : Int64} (h : n.toInt.natAbs ≤ 2 ^ 53) : Dy (FP.l2d n) (n.toInt * ONE) := ⟨Core.l2d_fin n, DInt_zval (l2d_int h)⟩
theorem rep_nat (s : Bool) (n j : Nat) (hn : n < 2 ^ 53) (hj : j ≤ 1074) : Rep (signed s (n * 2 ^ (1074 - j))) := by
  obtain ⟨c, q, h1, h2⟩ := round_exact good_b64 s (c := n) (q := -(j : Int)) hn (by rw [qm]; omega) (by rw [show b64.qmax = 971 by decide +kernel]; omega)
  have e : val64 (of64 (round b64 (.fin s n (-(j : Int))))) = .fin s c q := by rw [val64_of64 (round_fits good_b64 _), h1]
  refine ⟨of64 (round b64 (.fin s n (-(j : Int)))), ⟨s, c, q, e⟩, ?_⟩
  unfold zv; rw [e]
  show signed s (inUnits c q b64.qmin) = _
  rw [h2, own_inU, qm, show (-(j : Int) - -1074).toNat = 1074 - j by omega]
/-- n / 2^j is a double -/
theorem rep_int (n : Int) (j : Nat) (hn : n.natAbs < 2 ^ 53) (hj : j ≤ 1074) : Rep (n * ((2 ^ (1074 - j) : Nat) : Int)) := by
  have h := rep_nat (decide (n < 0)) n.natAbs j hn hj
  rw [signed_mul] at h
  have e : signed (decide (n < 0)) n.natAbs = n := by
    by_cases q : n < 0
    · simp only [q, decide_true, sg_t]; omega
    · simp only [q, decide_false, sg_f]; omega
  rwa [e] at h
theorem rep_whole (n : Int) (hn : n.natAbs < 2 ^ 53) : Rep (n * ONE) := rep_int n 0 hn (by decide)
theorem cv {a b : UInt64} (ha : val64 a ≠ .nan) (hb : val64 b ≠ .nan) (o : ClassFile.CmpOp) : cmpValue (FP.dcmp a b) o = if zv a < zv b then -1 else if zv a = zv b then 0 else 1 := by
  rw [show FP.dcmp a b = some (compare (zv a) (zv b)) from dcmp_zval ha hb, compare_ite]
  by_cases h1 : zv a < zv b
  · rw [if_pos h1, if_pos h1]; rfl
  · rw [if_neg h1, if_neg h1]
    by_cases h2 : zv a = zv b
    · rw [if_pos h2, if_pos h2]; rfl
    · rw [if_neg h2, if_neg h2]; rfl
theorem cv_lt {a b : UInt64} (ha : val64 a ≠ .nan) (hb : val64 b ≠ .nan) (o : ClassFile.CmpOp) : cmpValue (FP.dcmp a b) o < 0 ↔ zv a < zv b := by
  rw [cv ha hb]
  by_cases h1 : zv a < zv b
  · rw [if_pos h1]; exact ⟨fun _ => h1, fun _ => by decide⟩
  · by_cases h2 : zv a = zv b
    · rw [if_neg h1, if_pos h2]; exact ⟨fun h => absurd h (by decide), fun h => absurd h h1⟩
    · rw [if_neg h1, if_neg h2]; exact ⟨fun h => absurd h (by decide), fun h => absurd h h1⟩
theorem cv_gt {a b : UInt64} (ha : val64 a ≠ .nan) (hb : val64 b ≠ .nan) (o : ClassFile.CmpOp) : 0 < cmpValue (FP.dcmp a b) o ↔ zv b < zv a := by
  rw [cv ha hb]
  by_cases h1 : zv a < zv b
  · rw [if_pos h1]; exact ⟨fun h => absurd h (by decide), fun h => by omega⟩
  · by_cases h2 : zv a = zv b
    · rw [if_neg h1, if_pos h2]; exact ⟨fun h => absurd h (by decide), fun h => by omega⟩
    · rw [if_neg h1, if_neg h2]; exact ⟨fun _ => by omega, fun _ => by decide⟩
theorem cv_eq {a b : UInt64} (ha : val64 a ≠ .nan) (hb : val64 b ≠ .nan) (o : ClassFile.CmpOp) : cmpValue (FP.dcmp a b) o = 0 ↔ zv a = zv b := by
  rw [cv ha hb]
  by_cases h1 : zv a < zv b
  · rw [if_pos h1]; exact ⟨fun h => absurd h (by decide), fun h => by omega⟩
  · by_cases h2 : zv a = zv b
    · rw [if_neg h1, if_pos h2]; exact ⟨fun _ => h2, fun _ => rfl⟩
    · rw [if_neg h1, if_neg h2]; exact ⟨fun h => absurd h (by decide), fun h => absurd h h2⟩
theorem dy_zero : Dy 0 0 := ⟨⟨_, _, _, val64_zero⟩, zval64_zero⟩
theorem dy_lit (a : UInt64) (x : Int) (h1 : a.toNat % 2 ^ 63 < 9218868437227405312) (h2 : zval b64 (val64 a) = x) : Dy a x := ⟨(fin_bits a).mpr h1, h2⟩
theorem dy_one : Dy 4607182418800017408 ONE := dy_lit _ _ (by decide) (by have := DInt_zval dint_one; rw [Int.one_mul] at this; exact this)
/-- two quotients of one ratio are one double -/
theorem div_congr {a b a' b' : UInt64} (ha : DFin a) (hb : DFin b) (ha' : DFin a') (hb' : DFin b') (h0 : 0 ≤ zv a) (h0' : 0 ≤ zv a') (hz : 0 < zv b) (hz' : 0 < zv b') (h : zv a * zv b' = zv a' * zv b) : zv (FP.ddiv a b) = zv (FP.ddiv a' b') := by
  obtain ⟨s, c, q, e1, f1, z1⟩ := fin_at ha
  obtain ⟨t, d, r, e2, f2, z2⟩ := fin_at hb
  obtain ⟨s', c', q', e1', f1', z1'⟩ := fin_at ha'
  obtain ⟨t', d', r', e2', f2', z2'⟩ := fin_at hb'
  rw [z1] at h0; rw [z1'] at h0'; rw [z2] at hz; rw [z2'] at hz'
  rw [z1, z1', z2, z2'] at h
  obtain rfl : t = false := by cases t <;> simp only [sg_t, sg_f] at hz <;> first | rfl | omega
  obtain rfl : t' = false := by cases t' <;> simp only [sg_t, sg_f] at hz' <;> first | rfl | omega
  have k1 : signed s (inUnits c q b64.qmin) = (inUnits c q b64.qmin : Int) := by cases s <;> simp only [sg_t, sg_f] at h0 ⊢; omega
  have k2 : signed s' (inUnits c' q' b64.qmin) = (inUnits c' q' b64.qmin : Int) := by cases s' <;> simp only [sg_t, sg_f] at h0' ⊢; omega
  rw [k1, k2, sg_f, sg_f] at h
  have hN : inUnits c q b64.qmin * inUnits d' r' b64.qmin = inUnits c' q' b64.qmin * inUnits d r b64.qmin := by exact_mod_cast h
  have hd : d ≠ 0 := fun x => by rw [x, units_zero.mpr rfl] at hz; simp [sg_f] at hz
  have hd' : d' ≠ 0 := fun x => by rw [x, units_zero.mpr rfl] at hz'; simp [sg_f] at hz'
  have g1 := f1.2.1; have g2 := f2.2.1; have g3 := f1'.2.1; have g4 := f2'.2.1
  have key : zmag b64 (roundRatio b64 (s != false) c d (q - r)) = zmag b64 (roundRatio b64 (s' != false) c' d' (q' - r')) := by
    have E : roundRatio b64 false c d (q - r) = roundRatio b64 false c' d' (q' - r') := by
      refine roundRatio_congr (Nat.pos_of_ne_zero hd) (Nat.pos_of_ne_zero hd') ?_
      simp only [own_inU] at hN
      generalize b64.qmin = Q at *
      have a1 : c * 2 ^ (q - Q).toNat * (d' * 2 ^ (r' - Q).toNat) = c * d' * 2 ^ ((q - Q).toNat + (r' - Q).toNat) := by rw [Nat.pow_add]; simp only [Nat.mul_assoc, Nat.mul_left_comm, Nat.mul_comm]
      have a2 : c' * 2 ^ (q' - Q).toNat * (d * 2 ^ (r - Q).toNat) = c' * d * 2 ^ ((q' - Q).toNat + (r - Q).toNat) := by rw [Nat.pow_add]; simp only [Nat.mul_assoc, Nat.mul_left_comm, Nat.mul_comm]
      rw [a1, a2] at hN
      by_cases hle : (q - r) ≤ (q' - r')
      · have x1 : (q - r - (q' - r')).toNat = 0 := by omega
        rw [x1, Nat.pow_zero, Nat.mul_one]
        have x2 : (q' - Q).toNat + (r - Q).toNat = (q' - r' - (q - r)).toNat + ((q - Q).toNat + (r' - Q).toNat) := by omega
        rw [x2, Nat.pow_add 2 (q' - r' - (q - r)).toNat, ← Nat.mul_assoc] at hN
        exact Nat.eq_of_mul_eq_mul_right (Nat.two_pow_pos _) hN
      · have x1 : (q' - r' - (q - r)).toNat = 0 := by omega
        rw [x1, Nat.pow_zero, Nat.mul_one]
        have x2 : (q - Q).toNat + (r' - Q).toNat = (q - r - (q' - r')).toNat + ((q' - Q).toNat + (r - Q).toNat) := by omega
        rw [x2, Nat.pow_add 2 (q - r - (q' - r')).toNat, ← Nat.mul_assoc] at hN
        exact Nat.eq_of_mul_eq_mul_right (Nat.two_pow_pos _) hN
    have neg : ∀ (u : Bool) (A B : Nat) (x : Int), zmag b64 (roundRatio b64 u A B x) = zmag b64 (roundRatio b64 false A B x) := fun u A B x => by
      cases u
      · rfl
      · have := negate_roundRatio b64 false A B x
        rw [Bool.not_false] at this
        rw [← this]
        cases roundRatio b64 false A B x <;> rfl
    rw [neg, E, ← neg (s' != false)]
  have zd : zv (FP.ddiv a b) = signed (s != false) (zmag b64 (roundRatio b64 (s != false) c d (q - r))) := by
    unfold zv; rw [vv_ddiv, e1, e2, own_quot, if_neg hd]; unfold zval; rw [sgn_roundRatio]
  have zd' : zv (FP.ddiv a' b') = signed (s' != false) (zmag b64 (roundRatio b64 (s' != false) c' d' (q' - r'))) := by
    unfold zv; rw [vv_ddiv, e1', e2', own_quot, if_neg hd']; unfold zval; rw [sgn_roundRatio]
  have ge1 : 0 ≤ zv (FP.ddiv a b) := by
    have := div_ge_pos ha hb (by rw [z2, sg_f]; rw [sg_f] at hz; exact hz) (V := 0) dy_zero.nn (by rw [dy_zero.2, Int.zero_mul, z1, k1]; exact Int.mul_nonneg (by omega) (by have := one_pos; omega))
    rw [dy_zero.2] at this; exact this
  have ge2 : 0 ≤ zv (FP.ddiv a' b') := by
    have := div_ge_pos ha' hb' (by rw [z2', sg_f]; rw [sg_f] at hz'; exact hz') (V := 0) dy_zero.nn (by rw [dy_zero.2, Int.zero_mul, z1', k2]; exact Int.mul_nonneg (by omega) (by have := one_pos; omega))
    rw [dy_zero.2] at this; exact this
  rw [zd] at ge1 ⊢; rw [zd'] at ge2 ⊢
  rw [key] at ge1 ⊢
  generalize zmag b64 (roundRatio b64 (s' != false) c' d' (q' - r')) = M at *
  cases s <;> cases s' <;> simp only [sg_t, sg_f, Bool.bne_false, bne_self_eq_false] at ge1 ge2 ⊢ <;> omega
theorem one_le {x y : Int} : x * ONE ≤ y * ONE ↔ x ≤ y := ⟨fun h => Int.le_of_mul_le_mul_right h one_pos, fun h => Int.mul_le_mul_of_nonneg_right h (Int.le_of_lt one_pos)⟩
theorem one_lt {x y : Int} : x * ONE < y * ONE ↔ x < y := ⟨fun h => Int.lt_of_mul_lt_mul_right h (Int.le_of_lt one_pos), fun h => Int.mul_lt_mul_of_pos_right h one_pos⟩
theorem one_eq {x y : Int} : x * ONE = y * ONE ↔ x = y := ⟨fun h => Int.le_antisymm (one_le.mp (Int.le_of_eq h)) (one_le.mp (Int.le_of_eq h.symm)), fun h => h ▸ rfl⟩
theorem mul_bd {a b : Int} {A B : Nat} (ha : a.natAbs ≤ A) (hb : b.natAbs ≤ B) : (a * b).natAbs ≤ A * B := by rw [Int.natAbs_mul]; exact Nat.mul_le_mul ha hb
/-- comparison of two doubles that are whole numbers -/
theorem cw_lt {a b : UInt64} {x y : Int} (ha : Dy a (x * ONE)) (hb : Dy b (y * ONE)) (o : ClassFile.CmpOp) : cmpValue (FP.dcmp a b) o < 0 ↔ x < y := by rw [cv_lt ha.nn hb.nn, ha.2, hb.2, one_lt]
theorem cw_gt {a b : UInt64} {x y : Int} (ha : Dy a (x * ONE)) (hb : Dy b (y * ONE)) (o : ClassFile.CmpOp) : 0 < cmpValue (FP.dcmp a b) o ↔ y < x := by rw [cv_gt ha.nn hb.nn, ha.2, hb.2, one_lt]
theorem cw_eq {a b : UInt64} {x y : Int} (ha : Dy a (x * ONE)) (hb : Dy b (y * ONE)) (o : ClassFile.CmpOp) : cmpValue (FP.dcmp a b) o = 0 ↔ x = y := by rw [cv_eq ha.nn hb.nn, ha.2, hb.2, one_eq]
theorem dy_zero' : Dy 0 (0 * ONE) := by rw [Int.zero_mul]; exact dy_zero
theorem dw_add {a b : UInt64} {x y : Int} (ha : Dy a (x * ONE)) (hb : Dy b (y * ONE)) (h : (x + y).natAbs < 2 ^ 53) : Dy (FP.dadd a b) ((x + y) * ONE) := by
  have := dy_add ha hb (by rw [← Int.add_mul]; exact rep_whole _ h)
  rwa [← Int.add_mul] at this
theorem dw_sub {a b : UInt64} {x y : Int} (ha : Dy a (x * ONE)) (hb : Dy b (y * ONE)) (h : (x - y).natAbs < 2 ^ 53) : Dy (FP.dsub a b) ((x - y) * ONE) := by
  have := dy_sub ha hb (by rw [← Int.sub_mul]; exact rep_whole _ h)
  rwa [← Int.sub_mul] at this
theorem dw_mul {a b : UInt64} {x y : Int} (ha : Dy a (x * ONE)) (hb : Dy b (y * ONE)) (h : (x * y).natAbs < 2 ^ 53) : Dy (FP.dmul a b) ((x * y) * ONE) :=
  dy_mul ha hb (rep_whole _ h) (by simp only [Int.mul_assoc, Int.mul_left_comm, Int.mul_comm])
/-- twice a double that isn't too great is a double -/
theorem rep_dbl {a : UInt64} (h : DFin a) (hs : zmag b64 (val64 a) < 2 ^ 2000) : Rep (zv a + zv a) := by
  obtain ⟨s, c, q, e, f, z⟩ := fin_at h
  have hz : zmag b64 (val64 a) = inUnits c q b64.qmin := by rw [e]; rfl
  rw [hz, own_inU] at hs
  by_cases hc : c = 0
  · subst hc
    refine ⟨0, ⟨_, _, _, val64_zero⟩, ?_⟩
    rw [z, own_inU, Nat.zero_mul, signed_zero]; exact zval64_zero
  have hq : q + 1 ≤ b64.qmax := by
    rw [show b64.qmax = 971 by decide +kernel]
    refine Int.not_lt.mp fun r => ?_
    have k : 2 ^ 2000 ≤ 2 ^ (q - b64.qmin).toNat := Nat.pow_le_pow_right (by decide) (by rw [qm]; omega)
    have : 2 ^ (q - b64.qmin).toNat ≤ c * 2 ^ (q - b64.qmin).toNat := Nat.le_mul_of_pos_left _ (Nat.pos_of_ne_zero hc)
    omega
  have f2 := f.2.1
  obtain ⟨c', q', h1, h2⟩ := round_exact good_b64 s (c := c) (q := q + 1) f.1 (by omega) hq
  have e' : val64 (of64 (round b64 (.fin s c (q + 1)))) = .fin s c' q' := by rw [val64_of64 (round_fits good_b64 _), h1]
  refine ⟨of64 (round b64 (.fin s c (q + 1))), ⟨s, c', q', e'⟩, ?_⟩
  unfold zv; rw [e', e]
  show signed s (inUnits c' q' b64.qmin) = signed s (inUnits c q b64.qmin) + signed s (inUnits c q b64.qmin)
  rw [h2, own_inU, own_inU, show (q + 1 - b64.qmin).toNat = (q - b64.qmin).toNat + 1 by omega, Nat.pow_succ]
  generalize 2 ^ (q - b64.qmin).toNat = P
  have : c * (P * 2) = c * P + c * P := by rw [← Nat.mul_assoc, Nat.mul_two]
  rw [this]
  cases s
  · simp only [sg_f]; omega
  · simp only [sg_t]; omega
theorem l2d_small (n : Int64) : zmag b64 (val64 (FP.l2d n)) < 2 ^ 2000 := by
  have h := Core.l2d_mag n
  obtain ⟨s, c, q, e, k⟩ := mag_bits h (by decide)
  rw [e]
  show inUnits c q b64.qmin < _
  rw [own_inU]
  refine Nat.lt_of_lt_of_le k ?_
  rw [← Nat.pow_add]
  exact Nat.pow_le_pow_right (by decide) (by decide)
/-- a finite double's test of being finite -/
theorem mask_fin {a : UInt64} (h : DFin a) (o : ClassFile.CmpOp) : ¬ (0 < cmpValue (FP.dcmp (a &&& 0x7fffffffffffffff) 9218868437227405311) o) := by
  have q := (le_max h.notNaN).mpr h
  intro r
  rcases q with q | q
  · rw [show FP.dcmp (a &&& 0x7fffffffffffffff) 9218868437227405311 = some .lt from q] at r; cases o <;> exact absurd r (by decide)
  · rw [show FP.dcmp (a &&& 0x7fffffffffffffff) 9218868437227405311 = some .eq from q] at r; cases o <;> exact absurd r (by decide)
end Jvm.OwnFl
namespace Jvm.Pilot.@@N@@
open Jvm Jvm.ClassFile Sem Op Lib Jvm.Free Jvm.Stand Jvm.LawKit Jvm.RoadKit Jvm.OwnSt Bundle Jvm.Pilot.@@N@@.Jvm.D
theorem own_eight : OwnFl.Dy 4620693217682128896 (8 * OwnFl.ONE) := OwnFl.dy_lit _ _ (by decide) (by decide +kernel)
theorem own_two : OwnFl.Dy 4611686018427387904 (2 * OwnFl.ONE) := OwnFl.dy_lit _ _ (by decide) (by decide +kernel)
def own_H : Int := ((2 ^ (1074 - 3) : Nat) : Int)
theorem own_8H : OwnFl.ONE = 8 * own_H := by decide +kernel
theorem own_Hpos : 0 < own_H := Int.natCast_pos.mpr (Nat.two_pow_pos _)
def own_K : Int := ((2 ^ (1074 - 18) : Nat) : Int)
theorem own_Kpos : 0 < own_K := Int.natCast_pos.mpr (Nat.two_pow_pos _)
theorem own_eighth (n : Int32) : OwnFl.Dy (FP.ddiv (FP.i2d n) 4620693217682128896) (n.toInt * own_H) := by
  have hb := OwnFl.one_pos
  refine OwnFl.dy_div (OwnFl.dy_i2d n) own_eight (by omega) (OwnFl.rep_int _ 3 (by have := Int32.toInt_lt n; have := Int32.le_toInt n; omega) (by decide)) ?_
  rw [own_8H]
  generalize own_H = H
  grind
theorem own_ints (p0 p1 p2 : Int32) (x1 : Int32) (hx1 : x1 = (p0 &&& (65535 : Int32))) (x2 : Int32) (hx2 : x2 = (x1 + (p1 &&& (65535 : Int32)))) (x3 : Int32) (hx3 : x3 = (x1 + (p2 &&& (65535 : Int32)))) : 0 ≤ x1.toInt ∧ x1.toInt ≤ x2.toInt ∧ x1.toInt ≤ x3.toInt ∧ x2.toInt + x3.toInt < 262144 ∧ (x2 + x3).toInt = x2.toInt + x3.toInt := by
  have k : ∀ y : Int32, (y &&& (65535 : Int32)).toInt = y.toInt % 65536 := fun y => Jvm.Kit.i32_mask y _ (k := 16) (by decide) (by decide)
  have e1 : x1.toInt = p0.toInt % 65536 := by rw [hx1, k]
  have e2 : x2.toInt = x1.toInt + p1.toInt % 65536 := by rw [hx2, Jvm.Kit.i32_add, k] <;> rw [k] <;> omega
  have e3 : x3.toInt = x1.toInt + p2.toInt % 65536 := by rw [hx3, Jvm.Kit.i32_add, k] <;> rw [k] <;> omega
  refine ⟨by omega, by omega, by omega, by omega, Jvm.Kit.i32_add (by omega) (by omega)⟩
theorem d2_0 : decode jdk_30_method_1_code 0 = .ok (.aload_n 0, 1) := by decide +kernel
theorem d2_1 : decode jdk_30_method_1_code 1 = .ok (.invokespecial 1, 3) := by decide +kernel
theorem d2_4 : decode jdk_30_method_1_code 4 = .ok (.return_, 1) := by decide +kernel
theorem pn_2 : plainName "java/lang/Record" = true := by first | (simp [plainName, overriddenIn]; done) | decide +kernel
theorem ef2 (m : MethodId) (o0 : Addr) : entryFrame m #[(.ref o0)] 1 = mkF m 0 #[rv o0] [] := by first | (simp [entryFrame, mkF, argsToLocals, Value.category]; done) | rfl
abbrev room_of_2 : Room := { frames := 1, cells := 0, slots := 0, locals := 12 }
def Q2 (Z : State) (o0 : Addr) (h0 : Heap) (n0 : Nat) (v : Option Value) (h : Heap) (L : List Loc) : Prop := v = none ∧ L = [] ∧ h = h0
set_option maxRecDepth 65536 in
set_option maxHeartbeats 40000000 in
theorem rm2 (l : Launch) (Z : State) (a0 : Array Value) (hw : ∀ d ∈ tables_1, d.before a0 Z = true) (ws : List Jvm.Cond) (o0 : Addr)  (h0 : Heap) (n0 : Nat) (Z0 : n0 ≤ h0.size) :
    MetFree l (⟨"java/lang/Record", "<init>", "()V"⟩ : MethodName) (head1 (Jvm.Cond.code (⟨"java/lang/Record", "<init>", "()V"⟩ : MethodName) jdk_30_method_1_code 1 none :: ws) (room_of_2)) (fun a U => a = #[(.ref o0)] ∧ Z.Warmed39 U.vm ∧ U.heap = h0) (fun _ _ _ _ _ => True) (fun _ U o U' => ∃ v L, o = .returned v ∧ Q2 Z o0 h0 n0 v U'.heap L ∧ FrameEnd U o U' L (room_of_2).cells (room_of_2).slots) := by
  refine MetFree.of_bodySF (plainFor_of_name pn_2) hisR ?_
  intro p e s m args below meth c s₁ Bd hml0 hP hK
  obtain ⟨rfl, hZ, hh⟩ := hP
  have hx := Bd.exec
  have hby := Bd.bytes
  have hml : c.maxLocals = 1 := hml0
  have hown : s.vm.findClass "java/lang/Record" = some m.cls := findClass_of_methodNamed Bd.named
  have hnm := (name_of_methodNamed Bd.named Bd.method).1
  have X0 : Stand p l e (room_of_2) s m #[(.ref o0)] below meth c s₁ [] 0 0 := Stand.of_body Bd
  have e0 : s₁.heap = h0 := by rw [← hh, Bd.state]; rfl
  have N0 := Fr.nil n0
  have G0 := gd X0 hx hby
  have pre0 : ∀ t, Steps p.tables e below (s₁.setTop (mkF m 0 #[rv o0] [])) t → Steps p.tables e below (s₁.setTop (entryFrame m #[(.ref o0)] 1)) t := fun t k => castTop (ef2 m o0) k
  obtain ⟨T1, X1, e1, st1⟩ := initO X0 hx hZ hown (wd hw 13 rfl) (wd hw 14 rfl) (wd hw 15 rfl) e0 (g := (mkF m 1 #[rv o0] [(.ref o0)])) rfl (by rw [hml]; rfl) rfl (hb hby d2_1) (by decide) (W := 0) (by show 2 * 0 + _ ≤ _; exact Nat.le_of_eq rfl) (by decide)
  have G1 := gd X1 hx hby
  obtain ⟨fs, hr, hrun, hended, hW, hsame⟩ := X1.leave (v := none) (fun _ => rfl)
  refine ⟨_, _, pre0 _ ?_, hrun, hended, _, _, rfl, ?_, ⟨_, rfl⟩, hW, hsame.mono (by decide) (by decide)⟩
  · show Steps p.tables e below (s₁.setTop (mkF m 0 #[rv o0] [])) _
    refine maloadN 1 G0 d2_0 rfl rfl rfl ?_
    refine st1 _ ?_
    show Steps p.tables e below (T1.setTop (mkF m 4 #[rv o0] [])) _
    exact X1.returnOut hx Bd.returns (hb hby d2_4) hr
  · show Q2 Z o0 h0 n0 _ T1.heap _
    rw [e1]
    exact ⟨rfl, rfl, rfl⟩
theorem pd_0 : parseMethodDescriptor "()V" = some ⟨[], none⟩ := by decide +kernel
theorem d1_0 : decode prog_31_method_1_code 0 = .ok (.aload_n 0, 1) := by decide +kernel
theorem d1_1 : decode prog_31_method_1_code 1 = .ok (.invokespecial 1, 3) := by decide +kernel
theorem d1_4 : decode prog_31_method_1_code 4 = .ok (.aload_n 0, 1) := by decide +kernel
theorem d1_5 : decode prog_31_method_1_code 5 = .ok (.dload_n 1, 1) := by decide +kernel
theorem d1_6 : decode prog_31_method_1_code 6 = .ok (.putfield 7, 3) := by decide +kernel
theorem d1_9 : decode prog_31_method_1_code 9 = .ok (.aload_n 0, 1) := by decide +kernel
theorem d1_10 : decode prog_31_method_1_code 10 = .ok (.dload_n 3, 1) := by decide +kernel
theorem d1_11 : decode prog_31_method_1_code 11 = .ok (.putfield 13, 3) := by decide +kernel
theorem d1_14 : decode prog_31_method_1_code 14 = .ok (.aload_n 0, 1) := by decide +kernel
theorem d1_15 : decode prog_31_method_1_code 15 = .ok (.dload 5, 2) := by decide +kernel
theorem d1_17 : decode prog_31_method_1_code 17 = .ok (.putfield 16, 3) := by decide +kernel
theorem d1_20 : decode prog_31_method_1_code 20 = .ok (.return_, 1) := by decide +kernel
theorem pn_1 : plainName "com/example/queries_into_facets/queriesintofacets/measures/Agreement" = true := by first | (simp [plainName, overriddenIn]; done) | decide +kernel
theorem ef1 (m : MethodId) (o0 : Addr) (d1 : UInt64) (d2 : UInt64) (d3 : UInt64) : entryFrame m #[(.ref o0), (.double d1), (.double d2), (.double d3)] 7 = mkF m 0 #[rv o0, dv d1, .second, dv d2, .second, dv d3, .second] [] := by first | (simp [entryFrame, mkF, argsToLocals, Value.category]; done) | rfl
abbrev room_of_1 : Room := { frames := 2, cells := 0, slots := 0, locals := 24 }
def Q1 (Z : State) (o0 : Addr) (d1 : UInt64) (d2 : UInt64) (d3 : UInt64) (h0 : Heap) (n0 : Nat) (v : Option Value) (h : Heap) (L : List Loc) : Prop := v = none ∧ Fr n0 L ∧ Keep h0 h [o0] ∧ Exa Z h o0 "com/example/queries_into_facets/queriesintofacets/measures/Agreement" ∧ Fld Z h o0 "com/example/queries_into_facets/queriesintofacets/measures/Agreement" "common" "D" (.double d1) ∧ Fld Z h o0 "com/example/queries_into_facets/queriesintofacets/measures/Agreement" "system" "D" (.double d2) ∧ Fld Z h o0 "com/example/queries_into_facets/queriesintofacets/measures/Agreement" "truth" "D" (.double d3)
set_option maxRecDepth 65536 in
set_option maxHeartbeats 40000000 in
theorem rm1 (l : Launch) (Z : State) (a0 : Array Value) (hw : ∀ d ∈ tables_1, d.before a0 Z = true) (ws : List Jvm.Cond) (o0 : Addr) (d1 : UInt64) (d2 : UInt64) (d3 : UInt64)  (h0 : Heap) (n0 : Nat) (Z0 : n0 ≤ h0.size) (E_o0 : Exa Z h0 o0 "com/example/queries_into_facets/queriesintofacets/measures/Agreement") (g_o0 : n0 ≤ o0) (F_common_o0 : Fld Z h0 o0 "com/example/queries_into_facets/queriesintofacets/measures/Agreement" "common" "D" (.double (0 : UInt64))) (F_system_o0 : Fld Z h0 o0 "com/example/queries_into_facets/queriesintofacets/measures/Agreement" "system" "D" (.double (0 : UInt64))) (F_truth_o0 : Fld Z h0 o0 "com/example/queries_into_facets/queriesintofacets/measures/Agreement" "truth" "D" (.double (0 : UInt64))) :
    MetFree l (⟨"com/example/queries_into_facets/queriesintofacets/measures/Agreement", "<init>", "(DDD)V"⟩ : MethodName) (head1 (Jvm.Cond.code (⟨"com/example/queries_into_facets/queriesintofacets/measures/Agreement", "<init>", "(DDD)V"⟩ : MethodName) prog_31_method_1_code 7 none :: ws) (room_of_1)) (fun a U => a = #[(.ref o0), (.double d1), (.double d2), (.double d3)] ∧ Z.Warmed39 U.vm ∧ U.heap = h0) (fun _ _ _ _ _ => True) (fun _ U o U' => ∃ v L, o = .returned v ∧ Q1 Z o0 d1 d2 d3 h0 n0 v U'.heap L ∧ FrameEnd U o U' L (room_of_1).cells (room_of_1).slots) := by
  refine MetFree.of_bodySF (plainFor_of_name pn_1) hisR ?_
  intro p e s m args below meth c s₁ Bd hml0 hP hK
  obtain ⟨rfl, hZ, hh⟩ := hP
  have hx := Bd.exec
  have hby := Bd.bytes
  have hml : c.maxLocals = 7 := hml0
  have hown : s.vm.findClass "com/example/queries_into_facets/queriesintofacets/measures/Agreement" = some m.cls := findClass_of_methodNamed Bd.named
  have hnm := (name_of_methodNamed Bd.named Bd.method).1
  have X0 : Stand p l e (room_of_1) s m #[(.ref o0), (.double d1), (.double d2), (.double d3)] below meth c s₁ [] 0 0 := Stand.of_body Bd
  have e0 : s₁.heap = h0 := by rw [← hh, Bd.state]; rfl
  have N0 := Fr.nil n0
  have G0 := gd X0 hx hby
  have pre0 : ∀ t, Steps p.tables e below (s₁.setTop (mkF m 0 #[rv o0, dv d1, .second, dv d2, .second, dv d3, .second] [])) t → Steps p.tables e below (s₁.setTop (entryFrame m #[(.ref o0), (.double d1), (.double d2), (.double d3)] 7)) t := fun t k => castTop (ef1 m o0 d1 d2 d3) k
  obtain ⟨_, _, ⟨T1, L1, k1, n1⟩, -, X1, ⟨Lc1, hQ1, l1, y1, z1⟩, st1⟩ := X0.specialBack hx (y := (⟨"java/lang/Record", "<init>", "()V"⟩ : MethodName)) rfl hown (mvT hZ (wd hw 8 rfl)) (mvT hZ (wd hw 9 rfl)) (mvT hZ (wd hw 12 rfl)) (by decide) (backOf (W := 0) (rm2 l Z a0 hw [] o0 h0 n0 Z0 ) hZ (wd hw 12 rfl) (wd hw 11 rfl) (by decide) (by decide)) (g := (mkF m 1 #[rv o0, dv d1, .second, dv d2, .second, dv d3, .second] [(.ref o0)])) rfl (by rw [hml]; rfl) (Steps.refl _) (a := o0) (argsL := []) (rest := []) (lenOf pd_0 rfl) rfl (by show 2 * 0 + _ ≤ _; exact Nat.le_of_eq rfl) (hb hby d1_1) (fun _ _ => ⟨rfl, e0, (by decide : 0 + 0 ≤ _), (by decide : 0 + 0 ≤ _)⟩)
  dsimp only [Pt.U, Pt.locs, Pt.cells, Pt.slots] at X1 l1 y1 z1 st1 hQ1
  replace l1 : ([] ++ Lc1) = L1 := l1.symm
  subst l1 y1 z1
  obtain ⟨rfl, rfl, e1⟩ := hQ1
  simp only [List.append_nil, Nat.add_zero] at X1
  have G1 := gd X1 hx hby
  obtain ⟨T2, h2, X2, e2, W2, st2⟩ := putF X1 hx hZ hown (host := "") (Or.inl (wd hw 16 rfl)) Via.refl e1 F_common_o0 E_o0 (Or.inr ⟨(wd hw 17 rfl), rfl, hnm⟩) (wd hw 2 rfl) (ty := .double) (by decide) rfl rfl (g := (mkF m 6 #[rv o0, dv d1, .second, dv d2, .second, dv d3, .second] [(.double d1), (.ref o0)])) rfl rfl (hb hby d1_6)
  have G2 := gd X2 hx hby
  have N2 := Fr.snoc X2 N0 g_o0
  have f3 := E_o0.wr W2
  have f6 := F_system_o0.other W2 (Or.inr (slot_ne (Or.inr (wd hw 19 rfl)) (Or.inr (wd hw 17 rfl)) (by decide) (t := .double) (t' := .double) (by decide) (by decide)))
  have f7 := F_truth_o0.other W2 (Or.inr (slot_ne (Or.inr (wd hw 21 rfl)) (Or.inr (wd hw 17 rfl)) (by decide) (t := .double) (t' := .double) (by decide) (by decide)))
  have Z2 := Nat.le_trans Z0 (Keep.of_wr W2).1
  have K2 : Keep h0 h2 [o0] := (Keep.refl h0 [o0]).wr W2 (Or.inl (List.mem_of_getElem? (i := 0) rfl))
  have Fw2 := F_common_o0.same W2
  obtain ⟨T8, h8, X8, e8, W8, st8⟩ := putF X2 hx hZ hown (host := "") (Or.inl (wd hw 18 rfl)) Via.refl e2 f6 f3 (Or.inr ⟨(wd hw 19 rfl), rfl, hnm⟩) (wd hw 2 rfl) (ty := .double) (by decide) rfl rfl (g := (mkF m 11 #[rv o0, dv d1, .second, dv d2, .second, dv d3, .second] [(.double d2), (.ref o0)])) rfl rfl (hb hby d1_11)
  have G8 := gd X8 hx hby
  have N8 := Fr.snoc X8 N2 g_o0
  have f9 := f3.wr W8
  have f11 := Fw2.other W8 (Or.inr (slot_ne (Or.inr (wd hw 17 rfl)) (Or.inr (wd hw 19 rfl)) (by decide) (t := .double) (t' := .double) (by decide) (by decide)))
  have f13 := f7.other W8 (Or.inr (slot_ne (Or.inr (wd hw 21 rfl)) (Or.inr (wd hw 19 rfl)) (by decide) (t := .double) (t' := .double) (by decide) (by decide)))
  have Z8 := Nat.le_trans Z2 (Keep.of_wr W8).1
  have K8 : Keep h0 h8 [o0] := K2.wr W8 (Or.inl (List.mem_of_getElem? (i := 0) rfl))
  have Fw8 := f6.same W8
  obtain ⟨T14, h14, X14, e14, W14, st14⟩ := putF X8 hx hZ hown (host := "") (Or.inl (wd hw 20 rfl)) Via.refl e8 f13 f9 (Or.inr ⟨(wd hw 21 rfl), rfl, hnm⟩) (wd hw 2 rfl) (ty := .double) (by decide) rfl rfl (g := (mkF m 17 #[rv o0, dv d1, .second, dv d2, .second, dv d3, .second] [(.double d3), (.ref o0)])) rfl rfl (hb hby d1_17)
  have G14 := gd X14 hx hby
  have N14 := Fr.snoc X14 N8 g_o0
  have f15 := f9.wr W14
  have f17 := f11.other W14 (Or.inr (slot_ne (Or.inr (wd hw 17 rfl)) (Or.inr (wd hw 21 rfl)) (by decide) (t := .double) (t' := .double) (by decide) (by decide)))
  have f18 := Fw8.other W14 (Or.inr (slot_ne (Or.inr (wd hw 19 rfl)) (Or.inr (wd hw 21 rfl)) (by decide) (t := .double) (t' := .double) (by decide) (by decide)))
  have Z14 := Nat.le_trans Z8 (Keep.of_wr W14).1
  have K14 : Keep h0 h14 [o0] := K8.wr W14 (Or.inl (List.mem_of_getElem? (i := 0) rfl))
  have Fw14 := f13.same W14
  obtain ⟨fs, hr, hrun, hended, hW, hsame⟩ := X14.leave (v := none) (fun _ => rfl)
  refine ⟨_, _, pre0 _ ?_, hrun, hended, _, _, rfl, ?_, ⟨_, rfl⟩, hW, hsame.mono (by decide) (by decide)⟩
  · show Steps p.tables e below (s₁.setTop (mkF m 0 #[rv o0, dv d1, .second, dv d2, .second, dv d3, .second] [])) _
    refine maloadN 1 G0 d1_0 rfl rfl rfl ?_
    refine st1.trans ?_
    show Steps p.tables e below (T1.setTop (mkF m 4 #[rv o0, dv d1, .second, dv d2, .second, dv d3, .second] [])) _
    refine maloadN 5 G1 d1_4 rfl rfl rfl ?_
    refine mdloadN 6 G1 d1_5 rfl rfl ?_
    refine st2 _ ?_
    show Steps p.tables e below (T2.setTop (mkF m 9 #[rv o0, dv d1, .second, dv d2, .second, dv d3, .second] [])) _
    refine maloadN 10 G2 d1_9 rfl rfl rfl ?_
    refine mdloadN 11 G2 d1_10 rfl rfl ?_
    refine st8 _ ?_
    show Steps p.tables e below (T8.setTop (mkF m 14 #[rv o0, dv d1, .second, dv d2, .second, dv d3, .second] [])) _
    refine maloadN 15 G8 d1_14 rfl rfl rfl ?_
    refine mdload 17 G8 d1_15 rfl rfl ?_
    refine st14 _ ?_
    show Steps p.tables e below (T14.setTop (mkF m 20 #[rv o0, dv d1, .second, dv d2, .second, dv d3, .second] [])) _
    exact X14.returnOut hx Bd.returns (hb hby d1_20) hr
  · show Q1 Z o0 d1 d2 d3 h0 n0 _ T14.heap _
    rw [e14]
    exact ⟨rfl, N14, K14, f15, f17, f18, Fw14⟩
theorem d5_0 : decode prog_35_method_2_code 0 = .ok (.dload_n 2, 1) := by decide +kernel
theorem d5_1 : decode prog_35_method_2_code 1 = .ok (.dconst 0, 1) := by decide +kernel
theorem d5_2 : decode prog_35_method_2_code 2 = .ok (.dcmp .l, 1) := by decide +kernel
theorem d5_3 : decode prog_35_method_2_code 3 = .ok (.ifCond .ne 7, 3) := by decide +kernel
theorem d5_6 : decode prog_35_method_2_code 6 = .ok (.dconst 0, 1) := by decide +kernel
theorem d5_7 : decode prog_35_method_2_code 7 = .ok (.goto 6, 3) := by decide +kernel
theorem d5_10 : decode prog_35_method_2_code 10 = .ok (.dload_n 0, 1) := by decide +kernel
theorem d5_11 : decode prog_35_method_2_code 11 = .ok (.dload_n 2, 1) := by decide +kernel
theorem d5_12 : decode prog_35_method_2_code 12 = .ok (.ddiv, 1) := by decide +kernel
theorem d5_13 : decode prog_35_method_2_code 13 = .ok (.dreturn, 1) := by decide +kernel
theorem pn_5 : plainName "com/example/queries_into_facets/queriesintofacets/measures/FacetMeasures" = true := by first | (simp [plainName, overriddenIn]; done) | decide +kernel
theorem ef5 (m : MethodId) (d0 : UInt64) (d1 : UInt64) : entryFrame m #[(.double d0), (.double d1)] 4 = mkF m 0 #[dv d0, .second, dv d1, .second] [] := by first | (simp [entryFrame, mkF, argsToLocals, Value.category]; done) | rfl
abbrev room_of_5 : Room := { frames := 0, cells := 0, slots := 0, locals := 0 }
def rv5 (d0 : UInt64) (d1 : UInt64) : UInt64 := (if (cmpValue (FP.dcmp d1 (0 : UInt64)) .l) = (0 : Int32) then (0 : UInt64) else (FP.ddiv d0 d1))
def Q5 (Z : State) (d0 : UInt64) (d1 : UInt64) (h0 : Heap) (n0 : Nat) (v : Option Value) (h : Heap) (L : List Loc) : Prop := v = some (.double (rv5 d0 d1)) ∧ L = [] ∧ h = h0
set_option maxRecDepth 65536 in
set_option maxHeartbeats 40000000 in
theorem rm5 (l : Launch) (Z : State) (a0 : Array Value) (hw : ∀ d ∈ tables_1, d.before a0 Z = true) (ws : List Jvm.Cond) (d0 : UInt64) (d1 : UInt64)  (h0 : Heap) (n0 : Nat) (Z0 : n0 ≤ h0.size) (hn12 : (¬ ((cmpValue (FP.dcmp d1 (0 : UInt64)) .l) = (0 : Int32))) → Jvm.Free.Fl.NoNaN64 (FP.ddiv d0 d1)) :
    MetFree l (⟨"com/example/queries_into_facets/queriesintofacets/measures/FacetMeasures", "ratio", "(DD)D"⟩ : MethodName) (head1 (Jvm.Cond.code (⟨"com/example/queries_into_facets/queriesintofacets/measures/FacetMeasures", "ratio", "(DD)D"⟩ : MethodName) prog_35_method_2_code 4 (some .double) :: ws) (room_of_5)) (fun a U => a = #[(.double d0), (.double d1)] ∧ Z.Warmed39 U.vm ∧ U.heap = h0) (fun _ _ _ _ _ => True) (fun _ U o U' => ∃ v L, o = .returned v ∧ Q5 Z d0 d1 h0 n0 v U'.heap L ∧ FrameEnd U o U' L (room_of_5).cells (room_of_5).slots) := by
  refine MetFree.of_bodySF (plainFor_of_name pn_5) hisR ?_
  intro p e s m args below meth c s₁ Bd hml0 hP hK
  obtain ⟨rfl, hZ, hh⟩ := hP
  have hx := Bd.exec
  have hby := Bd.bytes
  have hml : c.maxLocals = 4 := hml0
  have hown : s.vm.findClass "com/example/queries_into_facets/queriesintofacets/measures/FacetMeasures" = some m.cls := findClass_of_methodNamed Bd.named
  have hnm := (name_of_methodNamed Bd.named Bd.method).1
  have X0 : Stand p l e (room_of_5) s m #[(.double d0), (.double d1)] below meth c s₁ [] 0 0 := Stand.of_body Bd
  have e0 : s₁.heap = h0 := by rw [← hh, Bd.state]; rfl
  have N0 := Fr.nil n0
  have G0 := gd X0 hx hby
  have pre0 : ∀ t, Steps p.tables e below (s₁.setTop (mkF m 0 #[dv d0, .second, dv d1, .second] [])) t → Steps p.tables e below (s₁.setTop (entryFrame m #[(.double d0), (.double d1)] 4)) t := fun t k => castTop (ef5 m d0 d1) k
  obtain ⟨T2, X2, e2, st2⟩ : ∃ T' : State, Stand p l e (room_of_5) s m #[(.double d0), (.double d1)] below meth c T' [] 0 0 ∧ T'.heap = h0 ∧ ∀ target, Steps p.tables e below (T'.setTop (mkF m 13 #[dv d0, .second, dv d1, .second] [(.double (if (cmpValue (FP.dcmp d1 (0 : UInt64)) .l) = (0 : Int32) then (0 : UInt64) else (FP.ddiv d0 d1)))])) target → Steps p.tables e below (s₁.setTop (mkF m 3 #[dv d0, .second, dv d1, .second] [(.int (cmpValue (FP.dcmp d1 (0 : UInt64)) .l))])) target := by
    by_cases hc3_1 : (cmpValue (FP.dcmp d1 (0 : UInt64)) .l) = (0 : Int32)
    · refine ⟨s₁, X0, e0, fun target kt => ?_⟩
      refine mifNo 6 G0 d5_3 ((if0 _ _).trans (teq hc3_1).2) rfl ?_
      refine mdconst0 7 G0 d5_6 (v := (0 : UInt64)) rfl rfl ?_
      refine mgoto 13 G0 d5_7 (by decide) rfl ?_
      exact castTop (g' := (mkF m 13 #[dv d0, .second, dv d1, .second] [(.double (if (cmpValue (FP.dcmp d1 (0 : UInt64)) .l) = (0 : Int32) then (0 : UInt64) else (FP.ddiv d0 d1)))])) (by simp only [if_pos hc3_1]) kt
    · refine ⟨s₁, X0, e0, fun target kt => ?_⟩
      refine mifYes 10 G0 d5_3 ((if0 _ _).trans (feq hc3_1).2) (by decide) rfl ?_
      refine mdloadN 11 G0 d5_10 rfl rfl ?_
      refine mdloadN 12 G0 d5_11 rfl rfl ?_
      refine mddiv 13 G0 d5_12 (hn12 hc3_1) rfl ?_
      exact castTop (g' := (mkF m 13 #[dv d0, .second, dv d1, .second] [(.double (if (cmpValue (FP.dcmp d1 (0 : UInt64)) .l) = (0 : Int32) then (0 : UInt64) else (FP.ddiv d0 d1)))])) (by simp only [if_neg hc3_1]) kt
  have G2 := gd X2 hx hby
  obtain ⟨fs, hr, hrun, hended, hW, hsame⟩ := X2.leave (v := some (.double (if (cmpValue (FP.dcmp d1 (0 : UInt64)) .l) = (0 : Int32) then (0 : UInt64) else (FP.ddiv d0 d1)))) (fun h => by rw [Bd.returns] at h; cases h)
  refine ⟨_, _, pre0 _ ?_, hrun, hended, _, _, rfl, ?_, ⟨_, rfl⟩, hW, hsame.mono (by decide) (by decide)⟩
  · show Steps p.tables e below (s₁.setTop (mkF m 0 #[dv d0, .second, dv d1, .second] [])) _
    refine mdloadN 1 G0 d5_0 rfl rfl ?_
    refine mdconst0 2 G0 d5_1 (v := (0 : UInt64)) rfl rfl ?_
    refine mdcmp 3 G0 d5_2 rfl ?_
    refine st2 _ ?_
    exact retOut X2 hx Bd.returns rfl (Or.inr (Or.inr (Or.inl ⟨rfl, rfl, _, rfl⟩))) (hb hby d5_13) hr
  · show Q5 Z d0 d1 h0 n0 _ T2.heap _
    rw [e2]
    exact ⟨by simp only [rv5], rfl, rfl⟩
theorem pd_1 : parseMethodDescriptor "(DD)D" = some ⟨[.double, .double], some .double⟩ := by decide +kernel
theorem d4_0 : decode prog_31_method_5_code 0 = .ok (.ldc2_w 60, 3) := by decide +kernel
theorem d4_3 : decode prog_31_method_5_code 3 = .ok (.aload_n 0, 1) := by decide +kernel
theorem d4_4 : decode prog_31_method_5_code 4 = .ok (.getfield 7, 3) := by decide +kernel
theorem d4_7 : decode prog_31_method_5_code 7 = .ok (.dmul, 1) := by decide +kernel
theorem d4_8 : decode prog_31_method_5_code 8 = .ok (.aload_n 0, 1) := by decide +kernel
theorem d4_9 : decode prog_31_method_5_code 9 = .ok (.getfield 13, 3) := by decide +kernel
theorem d4_12 : decode prog_31_method_5_code 12 = .ok (.aload_n 0, 1) := by decide +kernel
theorem d4_13 : decode prog_31_method_5_code 13 = .ok (.getfield 16, 3) := by decide +kernel
theorem d4_16 : decode prog_31_method_5_code 16 = .ok (.dadd, 1) := by decide +kernel
theorem d4_17 : decode prog_31_method_5_code 17 = .ok (.invokestatic 54, 3) := by decide +kernel
theorem d4_20 : decode prog_31_method_5_code 20 = .ok (.dreturn, 1) := by decide +kernel
theorem pn_4 : plainName "com/example/queries_into_facets/queriesintofacets/measures/Agreement" = true := by first | (simp [plainName, overriddenIn]; done) | decide +kernel
theorem ef4 (m : MethodId) (o0 : Addr) : entryFrame m #[(.ref o0)] 1 = mkF m 0 #[rv o0] [] := by first | (simp [entryFrame, mkF, argsToLocals, Value.category]; done) | rfl
abbrev room_of_4 : Room := { frames := 1, cells := 0, slots := 0, locals := 15 }
def rv4 (w1 : UInt64) (w2 : UInt64) (w3 : UInt64) : UInt64 := (rv5 (FP.dmul (4611686018427387904 : UInt64) w1) (FP.dadd w2 w3))
def Q4 (Z : State) (o0 : Addr) (w1 : UInt64) (w2 : UInt64) (w3 : UInt64) (h0 : Heap) (n0 : Nat) (v : Option Value) (h : Heap) (L : List Loc) : Prop := v = some (.double (rv4 w1 w2 w3)) ∧ L = [] ∧ h = h0
set_option maxRecDepth 65536 in
set_option maxHeartbeats 40000000 in
theorem rm4 (l : Launch) (Z : State) (a0 : Array Value) (hw : ∀ d ∈ tables_1, d.before a0 Z = true) (ws : List Jvm.Cond) (o0 : Addr) {w1 : UInt64} {w2 : UInt64} {w3 : UInt64} (h0 : Heap) (n0 : Nat) (Z0 : n0 ≤ h0.size) (F_common_o0 : Fld Z h0 o0 "com/example/queries_into_facets/queriesintofacets/measures/Agreement" "common" "D" (.double w1)) (F_system_o0 : Fld Z h0 o0 "com/example/queries_into_facets/queriesintofacets/measures/Agreement" "system" "D" (.double w2)) (F_truth_o0 : Fld Z h0 o0 "com/example/queries_into_facets/queriesintofacets/measures/Agreement" "truth" "D" (.double w3)) (hn7 : Jvm.Free.Fl.NoNaN64 (FP.dmul (4611686018427387904 : UInt64) w1)) (hn16 : Jvm.Free.Fl.NoNaN64 (FP.dadd w2 w3)) (hp_hn12_17 : (¬ ((cmpValue (FP.dcmp (FP.dadd w2 w3) (0 : UInt64)) .l) = (0 : Int32))) → Jvm.Free.Fl.NoNaN64 (FP.ddiv (FP.dmul (4611686018427387904 : UInt64) w1) (FP.dadd w2 w3))) :
    MetFree l (⟨"com/example/queries_into_facets/queriesintofacets/measures/Agreement", "f1", "()D"⟩ : MethodName) (head1 (Jvm.Cond.code (⟨"com/example/queries_into_facets/queriesintofacets/measures/Agreement", "f1", "()D"⟩ : MethodName) prog_31_method_5_code 1 (some .double) :: ws) (room_of_4)) (fun a U => a = #[(.ref o0)] ∧ Z.Warmed39 U.vm ∧ U.heap = h0) (fun _ _ _ _ _ => True) (fun _ U o U' => ∃ v L, o = .returned v ∧ Q4 Z o0 w1 w2 w3 h0 n0 v U'.heap L ∧ FrameEnd U o U' L (room_of_4).cells (room_of_4).slots) := by
  refine MetFree.of_bodySF (plainFor_of_name pn_4) hisR ?_
  intro p e s m args below meth c s₁ Bd hml0 hP hK
  obtain ⟨rfl, hZ, hh⟩ := hP
  have hx := Bd.exec
  have hby := Bd.bytes
  have hml : c.maxLocals = 1 := hml0
  have hown : s.vm.findClass "com/example/queries_into_facets/queriesintofacets/measures/Agreement" = some m.cls := findClass_of_methodNamed Bd.named
  have hnm := (name_of_methodNamed Bd.named Bd.method).1
  have X0 : Stand p l e (room_of_4) s m #[(.ref o0)] below meth c s₁ [] 0 0 := Stand.of_body Bd
  have e0 : s₁.heap = h0 := by rw [← hh, Bd.state]; rfl
  have N0 := Fr.nil n0
  have G0 := gd X0 hx hby
  have pre0 : ∀ t, Steps p.tables e below (s₁.setTop (mkF m 0 #[rv o0] [])) t → Steps p.tables e below (s₁.setTop (entryFrame m #[(.ref o0)] 1)) t := fun t k => castTop (ef4 m o0) k
  obtain ⟨T1, X1, e1, st1⟩ := getF X0 hx hZ hown (host := "") (Or.inl (wd hw 16 rfl)) Via.refl e0 F_common_o0 (g := (mkF m 4 #[rv o0] [(.ref o0), (.double (4611686018427387904 : UInt64))])) rfl rfl (hb hby d4_4)
  have G1 := gd X1 hx hby
  obtain ⟨T2, X2, e2, st2⟩ := getF X1 hx hZ hown (host := "") (Or.inl (wd hw 18 rfl)) Via.refl e1 F_system_o0 (g := (mkF m 9 #[rv o0] [(.ref o0), (.double (FP.dmul (4611686018427387904 : UInt64) w1))])) rfl rfl (hb hby d4_9)
  have G2 := gd X2 hx hby
  obtain ⟨T3, X3, e3, st3⟩ := getF X2 hx hZ hown (host := "") (Or.inl (wd hw 20 rfl)) Via.refl e2 F_truth_o0 (g := (mkF m 13 #[rv o0] [(.ref o0), (.double w2), (.double (FP.dmul (4611686018427387904 : UInt64) w1))])) rfl rfl (hb hby d4_13)
  have G3 := gd X3 hx hby
  obtain ⟨_, _, ⟨T4, L4, k4, n4⟩, -, X4, ⟨Lc4, hQ4, l4, y4, z4⟩, st4⟩ := Jvm.LawKit.callS X3 hx (y := (⟨"com/example/queries_into_facets/queriesintofacets/measures/FacetMeasures", "ratio", "(DD)D"⟩ : MethodName)) hown (mvT hZ (wd hw 28 rfl)) (mvT hZ (wd hw 29 rfl)) (mvT hZ (wd hw 30 rfl)) (mvT hZ (wd hw 31 rfl)) (by decide) (backOf (W := 0) (rm5 l Z a0 hw [] ((FP.dmul (4611686018427387904 : UInt64) w1)) ((FP.dadd w2 w3)) h0 n0 Z0 (hp_hn12_17)) hZ (wd hw 31 rfl) (wd hw 30 rfl) (by decide) (by decide)) (g := (mkF m 17 #[rv o0] [(.double (FP.dadd w2 w3)), (.double (FP.dmul (4611686018427387904 : UInt64) w1))])) rfl (by rw [hml]; rfl) (argsL := [(.double (FP.dmul (4611686018427387904 : UInt64) w1)), (.double (FP.dadd w2 w3))]) (rest := []) (lenOf pd_1 rfl) rfl (by show 2 * 0 + _ ≤ _; exact Nat.le_of_eq rfl) (hb hby d4_17) (fun _ _ => ⟨rfl, e3, (by decide : 0 + 0 ≤ _), (by decide : 0 + 0 ≤ _)⟩)
  dsimp only [Pt.U, Pt.locs, Pt.cells, Pt.slots] at X4 l4 y4 z4 st4 hQ4
  replace l4 : ([] ++ Lc4) = L4 := l4.symm
  subst l4 y4 z4
  obtain ⟨rfl, rfl, e4⟩ := hQ4
  simp only [List.append_nil, Nat.add_zero] at X4
  have G4 := gd X4 hx hby
  obtain ⟨fs, hr, hrun, hended, hW, hsame⟩ := X4.leave (v := some (.double (rv5 (FP.dmul (4611686018427387904 : UInt64) w1) (FP.dadd w2 w3)))) (fun h => by rw [Bd.returns] at h; cases h)
  refine ⟨_, _, pre0 _ ?_, hrun, hended, _, _, rfl, ?_, ⟨_, rfl⟩, hW, hsame.mono (by decide) (by decide)⟩
  · show Steps p.tables e below (s₁.setTop (mkF m 0 #[rv o0] [])) _
    refine X0.ldc2DoubleC hx hown (mvT hZ (wd hw 27 rfl)) (g := (mkF m 0 #[rv o0] [])) rfl (hb hby d4_0) _ ?_
    show Steps p.tables e below (s₁.setTop (mkF m 3 #[rv o0] [(.double (4611686018427387904 : UInt64))])) _
    refine maloadN 4 G0 d4_3 rfl rfl rfl ?_
    refine st1 _ ?_
    show Steps p.tables e below (T1.setTop (mkF m 7 #[rv o0] [(.double w1), (.double (4611686018427387904 : UInt64))])) _
    refine mdmul 8 G1 d4_7 (hn7) rfl ?_
    refine maloadN 9 G1 d4_8 rfl rfl rfl ?_
    refine st2 _ ?_
    show Steps p.tables e below (T2.setTop (mkF m 12 #[rv o0] [(.double w2), (.double (FP.dmul (4611686018427387904 : UInt64) w1))])) _
    refine maloadN 13 G2 d4_12 rfl rfl rfl ?_
    refine st3 _ ?_
    show Steps p.tables e below (T3.setTop (mkF m 16 #[rv o0] [(.double w3), (.double w2), (.double (FP.dmul (4611686018427387904 : UInt64) w1))])) _
    refine mdadd 17 G3 d4_16 (hn16) rfl ?_
    refine st4 _ ?_
    show Steps p.tables e below (T4.setTop (mkF m 20 #[rv o0] [(.double (rv5 (FP.dmul (4611686018427387904 : UInt64) w1) (FP.dadd w2 w3)))])) _
    exact retOut X4 hx Bd.returns rfl (Or.inr (Or.inr (Or.inl ⟨rfl, rfl, _, rfl⟩))) (hb hby d4_20) hr
  · show Q4 Z o0 w1 w2 w3 h0 n0 _ T4.heap _
    rw [e4]
    exact ⟨by simp only [rv4], rfl, rfl⟩
theorem own_nn {a b : UInt64} (ha : Jvm.FP.Core.DFin a) (hb : Jvm.FP.Core.DFin b) : (¬ ((cmpValue (FP.dcmp b (0 : UInt64)) .l) = (0 : Int32))) → Jvm.Free.Fl.NoNaN64 (FP.ddiv a b) := fun h =>
  OwnFl.no_of (OwnFl.div_nan ha hb (fun q => h ((OwnFl.cv_eq hb.ne_nan OwnFl.dy_zero.nn _).mpr (q.trans OwnFl.dy_zero.2.symm))))
/-- f = 2c / (s + t), the quotient of two sums of eighths -/
theorem own_f {c s t : Int} {a b d : UInt64} (ha : OwnFl.Dy a (c * own_H)) (hb : OwnFl.Dy b (s * own_H)) (hd : OwnFl.Dy d (t * own_H)) (h0 : 0 ≤ c) (h1 : c ≤ s) (h2 : c ≤ t) (h3 : s + t < 262144) :
    (s + t = 0 → rv4 a b d = 0) ∧ (s + t ≠ 0 → rv4 a b d = FP.ddiv (FP.dmul 4611686018427387904 a) (FP.dadd b d)) ∧ OwnFl.Dy (FP.dmul 4611686018427387904 a) (2 * c * own_H) ∧ OwnFl.Dy (FP.dadd b d) ((s + t) * own_H) := by
  have e := own_8H
  have hH := own_Hpos
  have m : OwnFl.Dy (FP.dmul 4611686018427387904 a) (2 * c * own_H) := by
    refine OwnFl.dy_mul own_two ha (OwnFl.rep_int _ 3 (by omega) (by decide)) ?_
    rw [e]; generalize own_H = H; grind
  have p : OwnFl.Dy (FP.dadd b d) ((s + t) * own_H) := by
    have := OwnFl.dy_add hb hd (by rw [← Int.add_mul]; exact OwnFl.rep_int _ 3 (by omega) (by decide))
    rwa [← Int.add_mul] at this
  refine ⟨fun z => ?_, fun z => ?_, m, p⟩
  · unfold rv4 rv5
    rw [if_pos ((OwnFl.cv_eq p.nn OwnFl.dy_zero.nn _).mpr (by rw [p.2, OwnFl.dy_zero.2, z, Int.zero_mul]))]
  · unfold rv4 rv5
    rw [if_neg (fun q => z (by
      have := (OwnFl.cv_eq p.nn OwnFl.dy_zero.nn _).mp q
      rw [p.2, OwnFl.dy_zero.2] at this
      rcases Int.mul_eq_zero.mp this with y | y
      · exact y
      · omega))]
theorem pd_2 : parseMethodDescriptor "(DDD)V" = some ⟨[.double, .double, .double], none⟩ := by decide +kernel
theorem pd_3 : parseMethodDescriptor "()D" = some ⟨[], some .double⟩ := by decide +kernel
theorem pn_0 : plainName "com/example/queries_into_facets/queriesintofacets/measures/AgreementF1PinLaw" = true := by first | (simp [plainName, overriddenIn]; done) | decide +kernel
theorem ef0 (m : MethodId) (p0 : Int32) (p1 : Int32) (p2 : Int32) : entryFrame m #[(.int p0), (.int p1), (.int p2)] maxLocals = mkF m 0 #[iv p0, iv p1, iv p2, .unset, .unset, .unset, .unset, .unset, .unset, .unset, .unset, .unset, .unset, .unset, .unset] [] := by first | (simp [entryFrame, mkF, argsToLocals, Value.category, maxLocals]; done) | rfl
def Q0 (Z : State) (p0 : Int32) (p1 : Int32) (p2 : Int32) (h0 : Heap) (n0 : Nat) (v : Option Value) (h : Heap) (L : List Loc) : Prop := v = some (.int 1) ∧ Fr n0 L
theorem own_rm0_hn30 (p0 : Int32) (p1 : Int32) (p2 : Int32) (x1 : Int32) (hx1 : x1 = (p0 &&& (65535 : Int32))) (x2 : Int32) (hx2 : x2 = (x1 + (p1 &&& (65535 : Int32)))) (x3 : Int32) (hx3 : x3 = (x1 + (p2 &&& (65535 : Int32)))) : Jvm.Free.Fl.NoNaN64 (FP.ddiv (FP.i2d x1) (4620693217682128896 : UInt64)) := (own_eighth x1).no
theorem own_rm0_hn37 (p0 : Int32) (p1 : Int32) (p2 : Int32) (x1 : Int32) (hx1 : x1 = (p0 &&& (65535 : Int32))) (x2 : Int32) (hx2 : x2 = (x1 + (p1 &&& (65535 : Int32)))) (x3 : Int32) (hx3 : x3 = (x1 + (p2 &&& (65535 : Int32)))) : Jvm.Free.Fl.NoNaN64 (FP.ddiv (FP.i2d x2) (4620693217682128896 : UInt64)) := (own_eighth x2).no
theorem own_rm0_hn44 (p0 : Int32) (p1 : Int32) (p2 : Int32) (x1 : Int32) (hx1 : x1 = (p0 &&& (65535 : Int32))) (x2 : Int32) (hx2 : x2 = (x1 + (p1 &&& (65535 : Int32)))) (x3 : Int32) (hx3 : x3 = (x1 + (p2 &&& (65535 : Int32)))) : Jvm.Free.Fl.NoNaN64 (FP.ddiv (FP.i2d x3) (4620693217682128896 : UInt64)) := (own_eighth x3).no
theorem own_rm0_hp_hn7_52 (p0 : Int32) (p1 : Int32) (p2 : Int32) (x1 : Int32) (hx1 : x1 = (p0 &&& (65535 : Int32))) (x2 : Int32) (hx2 : x2 = (x1 + (p1 &&& (65535 : Int32)))) (x3 : Int32) (hx3 : x3 = (x1 + (p2 &&& (65535 : Int32)))) : Jvm.Free.Fl.NoNaN64 (FP.dmul (4611686018427387904 : UInt64) (FP.ddiv (FP.i2d x1) (4620693217682128896 : UInt64))) := OwnFl.no_of (OwnFl.mul_nan own_two.1 (own_eighth x1).1)
theorem own_rm0_hp_hn16_52 (p0 : Int32) (p1 : Int32) (p2 : Int32) (x1 : Int32) (hx1 : x1 = (p0 &&& (65535 : Int32))) (x2 : Int32) (hx2 : x2 = (x1 + (p1 &&& (65535 : Int32)))) (x3 : Int32) (hx3 : x3 = (x1 + (p2 &&& (65535 : Int32)))) : Jvm.Free.Fl.NoNaN64 (FP.dadd (FP.ddiv (FP.i2d x2) (4620693217682128896 : UInt64)) (FP.ddiv (FP.i2d x3) (4620693217682128896 : UInt64))) := OwnFl.no_of (OwnFl.add_nan (own_eighth x2).1 (own_eighth x3).1)
theorem own_rm0_hp_hp_hn12_17_52 (p0 : Int32) (p1 : Int32) (p2 : Int32) (x1 : Int32) (hx1 : x1 = (p0 &&& (65535 : Int32))) (x2 : Int32) (hx2 : x2 = (x1 + (p1 &&& (65535 : Int32)))) (x3 : Int32) (hx3 : x3 = (x1 + (p2 &&& (65535 : Int32)))) : (¬ ((cmpValue (FP.dcmp (FP.dadd (FP.ddiv (FP.i2d x2) (4620693217682128896 : UInt64)) (FP.ddiv (FP.i2d x3) (4620693217682128896 : UInt64))) (0 : UInt64)) .l) = (0 : Int32))) → Jvm.Free.Fl.NoNaN64 (FP.ddiv (FP.dmul (4611686018427387904 : UInt64) (FP.ddiv (FP.i2d x1) (4620693217682128896 : UInt64))) (FP.dadd (FP.ddiv (FP.i2d x2) (4620693217682128896 : UInt64)) (FP.ddiv (FP.i2d x3) (4620693217682128896 : UInt64)))) := by
  obtain ⟨i0, i1, i2, i3, i4⟩ := (own_ints p0 p1 p2 x1 hx1 x2 hx2 x3 hx3)
  have f := own_f (own_eighth x1) (own_eighth x2) (own_eighth x3) i0 i1 i2 i3
  exact own_nn f.2.2.1.1 f.2.2.2.1
theorem own_rm0_end (p0 : Int32) (p1 : Int32) (p2 : Int32) (x1 : Int32) (hx1 : x1 = (p0 &&& (65535 : Int32))) (x2 : Int32) (hx2 : x2 = (x1 + (p1 &&& (65535 : Int32)))) (x3 : Int32) (hx3 : x3 = (x1 + (p2 &&& (65535 : Int32)))) (x12 : UInt64) (hx12 : x12 = (rv4 (FP.ddiv (FP.i2d x1) (4620693217682128896 : UInt64)) (FP.ddiv (FP.i2d x2) (4620693217682128896 : UInt64)) (FP.ddiv (FP.i2d x3) (4620693217682128896 : UInt64)))) (x13 : Int32) (hx13 : x13 = ((2 : Int32) * x1)) (x14 : Int32) (hx14 : x14 = (x2 + x3)) (x18 : Int32) (hx18 : x18 = (if (cmpValue (FP.dcmp x12 (0 : UInt64)) .l) = (0 : Int32) then (1 : Int32) else (0 : Int32))) (hc71_15 : (x14 = (0 : Int32))) : x18 = 1 := by
  obtain ⟨i0, i1, i2, i3, i4⟩ := (own_ints p0 p1 p2 x1 hx1 x2 hx2 x3 hx3)
  have f := own_f (own_eighth x1) (own_eighth x2) (own_eighth x3) i0 i1 i2 i3
  have z : x2.toInt + x3.toInt = 0 := by rw [← i4, ← hx14, hc71_15]; rfl
  have : x12 = 0 := by rw [hx12]; exact f.1 z
  rw [hx18, this, if_pos ((OwnFl.cv_eq OwnFl.dy_zero.nn OwnFl.dy_zero.nn _).mpr rfl)]
theorem own_rm0_hn95 (p0 : Int32) (p1 : Int32) (p2 : Int32) (x1 : Int32) (hx1 : x1 = (p0 &&& (65535 : Int32))) (x2 : Int32) (hx2 : x2 = (x1 + (p1 &&& (65535 : Int32)))) (x3 : Int32) (hx3 : x3 = (x1 + (p2 &&& (65535 : Int32)))) (x12 : UInt64) (hx12 : x12 = (rv4 (FP.ddiv (FP.i2d x1) (4620693217682128896 : UInt64)) (FP.ddiv (FP.i2d x2) (4620693217682128896 : UInt64)) (FP.ddiv (FP.i2d x3) (4620693217682128896 : UInt64)))) (x13 : Int32) (hx13 : x13 = ((2 : Int32) * x1)) (x14 : Int32) (hx14 : x14 = (x2 + x3)) (hc71_15 : (¬ (x14 = (0 : Int32)))) : Jvm.Free.Fl.NoNaN64 (FP.ddiv (FP.i2d x13) (FP.i2d x14)) := OwnFl.no_of (OwnFl.div_nan (OwnFl.dy_i2d x13).1 (OwnFl.dy_i2d x14).1 (fun q => hc71_15 (by
  rw [(OwnFl.dy_i2d x14).2] at q
  rcases Int.mul_eq_zero.mp q with y | y
  · exact Int32.toInt_inj.mp y
  · have := OwnFl.one_pos; omega)))
theorem own_rm0_end_1 (p0 : Int32) (p1 : Int32) (p2 : Int32) (x1 : Int32) (hx1 : x1 = (p0 &&& (65535 : Int32))) (x2 : Int32) (hx2 : x2 = (x1 + (p1 &&& (65535 : Int32)))) (x3 : Int32) (hx3 : x3 = (x1 + (p2 &&& (65535 : Int32)))) (x12 : UInt64) (hx12 : x12 = (rv4 (FP.ddiv (FP.i2d x1) (4620693217682128896 : UInt64)) (FP.ddiv (FP.i2d x2) (4620693217682128896 : UInt64)) (FP.ddiv (FP.i2d x3) (4620693217682128896 : UInt64)))) (x13 : Int32) (hx13 : x13 = ((2 : Int32) * x1)) (x14 : Int32) (hx14 : x14 = (x2 + x3)) (x21 : Int32) (hx21 : x21 = (if (cmpValue (FP.dcmp x12 (FP.ddiv (FP.i2d x13) (FP.i2d x14))) .l) = (0 : Int32) then (1 : Int32) else (0 : Int32))) (x24 : Int32) (hx24 : x24 = (if (0 : Int32) < (cmpValue (FP.dcmp (0 : UInt64) x12) .g) then (0 : Int32) else (if (0 : Int32) < (cmpValue (FP.dcmp x12 (4607182418800017408 : UInt64)) .g) then (0 : Int32) else (1 : Int32)))) (x28 : Int32) (hx28 : x28 = (if (cmpValue (FP.dcmp x12 (4607182418800017408 : UInt64)) .l) = (0 : Int32) then (1 : Int32) else (0 : Int32))) (x31 : Int32) (hx31 : x31 = (if x1 = x2 then (if x1 = x3 then (1 : Int32) else (0 : Int32)) else (0 : Int32))) (x35 : Int32) (hx35 : x35 = (if x28 = x31 then (1 : Int32) else (0 : Int32))) (x38 : Int32) (hx38 : x38 = (if (cmpValue (FP.dcmp x12 (0 : UInt64)) .l) = (0 : Int32) then (1 : Int32) else (0 : Int32))) (x41 : Int32) (hx41 : x41 = (if x1 = (0 : Int32) then (1 : Int32) else (0 : Int32))) (x44 : Int32) (hx44 : x44 = (if x38 = x41 then (1 : Int32) else (0 : Int32))) (x47 : Int32) (hx47 : x47 = (if x21 = (0 : Int32) then (0 : Int32) else (if x24 = (0 : Int32) then (0 : Int32) else (if x35 = (0 : Int32) then (0 : Int32) else (if x44 = (0 : Int32) then (0 : Int32) else (1 : Int32)))))) (hc71_15 : (¬ (x14 = (0 : Int32)))) : x47 = 1 := by
  obtain ⟨i0, i1, i2, i3, i4⟩ := (own_ints p0 p1 p2 x1 hx1 x2 hx2 x3 hx3)
  have f := own_f (own_eighth x1) (own_eighth x2) (own_eighth x3) i0 i1 i2 i3
  have z : x2.toInt + x3.toInt ≠ 0 := fun q => hc71_15 (by rw [hx14]; exact Int32.toInt_inj.mp (by rw [i4, q]; rfl))
  have r : x12 = FP.ddiv (FP.dmul 4611686018427387904 (FP.ddiv (FP.i2d x1) 4620693217682128896)) (FP.dadd (FP.ddiv (FP.i2d x2) 4620693217682128896) (FP.ddiv (FP.i2d x3) 4620693217682128896)) := by rw [hx12]; exact f.2.1 z
  have m := f.2.2.1
  have p := f.2.2.2
  have e := own_8H
  have hH := own_Hpos
  have w := OwnFl.one_pos
  generalize hD : x2.toInt + x3.toInt = D at *
  generalize hc : x1.toInt = c at *
  have pz : OwnFl.zv (FP.dadd (FP.ddiv (FP.i2d x2) 4620693217682128896) (FP.ddiv (FP.i2d x3) 4620693217682128896)) = D * own_H := p.2
  have hp : 0 < D * own_H := Int.mul_pos (by omega) hH
  have nn : Jvm.FP.Core.val64 x12 ≠ .nan := by rw [r]; exact OwnFl.div_nan m.1 p.1 (by rw [pz]; omega)
  have j13 : x13.toInt = 2 * c := by rw [hx13, Jvm.Kit.i32_mul] <;> rw [hc] <;> first | rfl | (show _ ≤ (2 : Int) * _; omega) | (show (2 : Int) * _ < _; omega)
  have j14 : x14.toInt = D := by rw [hx14]; exact i4
  have g13 := OwnFl.dy_i2d x13
  have g14 := OwnFl.dy_i2d x14
  rw [j13] at g13
  rw [j14] at g14
  have ex : OwnFl.zv x12 = OwnFl.zv (FP.ddiv (FP.i2d x13) (FP.i2d x14)) := by
    rw [r]
    refine OwnFl.div_congr m.1 p.1 g13.1 g14.1 (by rw [m.2]; exact Int.mul_nonneg (by omega) (by omega)) (by rw [g13.2]; exact Int.mul_nonneg (by omega) (by omega)) (by rw [p.2]; exact hp) (by rw [g14.2]; exact Int.mul_pos (by omega) w) ?_
    rw [m.2, p.2, g13.2, g14.2]
    generalize own_H = H
    generalize OwnFl.ONE = O
    grind
  have ge0 : 0 ≤ OwnFl.zv x12 := by
    have := OwnFl.div_ge_pos m.1 p.1 (by rw [p.2]; exact hp) OwnFl.dy_zero.nn (by rw [OwnFl.dy_zero.2, Int.zero_mul, m.2]; exact Int.mul_nonneg (Int.mul_nonneg (by omega) (by omega)) (by omega))
    rw [OwnFl.dy_zero.2, ← r] at this; exact this
  have le1 : OwnFl.zv x12 ≤ OwnFl.ONE := by
    have := OwnFl.div_le_pos m.1 p.1 (by rw [p.2]; exact hp) OwnFl.dy_one.nn (by
      rw [OwnFl.dy_one.2, m.2, p.2, Int.mul_comm OwnFl.ONE]
      exact OwnFl.one_le.mpr (Int.mul_le_mul_of_nonneg_right (by omega) (by omega)))
    rw [OwnFl.dy_one.2, ← r] at this; exact this
  have eq1 : OwnFl.zv x12 = OwnFl.ONE ↔ 2 * c = D := by
    constructor
    · intro q
      refine Decidable.byContradiction fun ne => ?_
      obtain ⟨V, fV, eV⟩ := OwnFl.rep_int 262143 18 (by decide) (by decide)
      have e18 : OwnFl.ONE = 262144 * own_K := by decide +kernel
      have hK := own_Kpos
      have := OwnFl.div_le_pos m.1 p.1 (by rw [p.2]; exact hp) (V := V) fV.ne_nan (by
        rw [m.2, p.2, eV, e18]
        show _ ≤ 262143 * own_K * _
        have : 2 * c * 262144 ≤ 262143 * D := by omega
        have k := Int.mul_le_mul_of_nonneg_right this (Int.le_of_lt (Int.mul_pos hH hK))
        generalize own_H = H at *
        generalize own_K = K at *
        grind)
      rw [eV, ← r, q, e18] at this
      have : 262144 * own_K ≤ 262143 * own_K := this
      omega
    · intro q
      have := OwnFl.dy_div (z := OwnFl.ONE) m p (by omega) OwnFl.dy_one.rep (by rw [q, Int.mul_comm])
      rw [← r] at this; exact this.2
  have eq0 : OwnFl.zv x12 = 0 ↔ c = 0 := by
    constructor
    · intro q
      refine Decidable.byContradiction fun ne => ?_
      obtain ⟨V, fV, eV⟩ := OwnFl.rep_int 1 18 (by decide) (by decide)
      have e18 : OwnFl.ONE = 262144 * own_K := by decide +kernel
      have hK := own_Kpos
      have := OwnFl.div_ge_pos m.1 p.1 (by rw [p.2]; exact hp) (V := V) fV.ne_nan (by
        rw [m.2, p.2, eV, e18]
        show 1 * own_K * _ ≤ _
        have : D ≤ 2 * c * 262144 := by omega
        have k := Int.mul_le_mul_of_nonneg_right this (Int.le_of_lt (Int.mul_pos hH hK))
        generalize own_H = H at *
        generalize own_K = K at *
        grind)
      rw [eV, ← r, q] at this
      have : 1 * own_K ≤ 0 := this
      omega
    · intro q
      have := OwnFl.dy_div (z := 0) m p (by omega) OwnFl.dy_zero.rep (by rw [q]; simp)
      rw [← r] at this; exact this.2
  have qn : Jvm.FP.Core.val64 (FP.ddiv (FP.i2d x13) (FP.i2d x14)) ≠ .nan := OwnFl.div_nan g13.1 g14.1 (by rw [g14.2]; exact Int.ne_of_gt (Int.mul_pos (by omega) w))
  have v21 : x21 = 1 := by rw [hx21, if_pos ((OwnFl.cv_eq nn qn _).mpr ex)]
  have v24 : x24 = 1 := by rw [hx24, if_neg (fun q => by rw [OwnFl.cv_gt OwnFl.dy_zero.nn nn, OwnFl.dy_zero.2] at q; omega), if_neg (fun q => by rw [OwnFl.cv_gt nn OwnFl.dy_one.nn, OwnFl.dy_one.2] at q; omega)]
  have c28 : cmpValue (FP.dcmp x12 (4607182418800017408 : UInt64)) .l = 0 ↔ 2 * c = D := by rw [OwnFl.cv_eq nn OwnFl.dy_one.nn, OwnFl.dy_one.2, eq1]
  have c38 : cmpValue (FP.dcmp x12 (0 : UInt64)) .l = 0 ↔ c = 0 := by rw [OwnFl.cv_eq nn OwnFl.dy_zero.nn, OwnFl.dy_zero.2, eq0]
  have q12 : x1 = x2 ↔ c = x2.toInt := by rw [← hc, Int32.toInt_inj]
  have q13 : x1 = x3 ↔ c = x3.toInt := by rw [← hc, Int32.toInt_inj]
  have q10 : x1 = 0 ↔ c = 0 := by rw [← hc]; exact ⟨fun h => by rw [h]; rfl, fun h => Int32.toInt_inj.mp h⟩
  have v35 : x35 = 1 := by
    have : x28 = x31 := by
      rw [hx28, hx31]
      simp only [c28, q12, q13]
      by_cases g1 : c = x2.toInt
      · by_cases g2 : c = x3.toInt
        · rw [if_pos (show 2 * c = D by omega), if_pos g1, if_pos g2]
        · rw [if_neg (show ¬ 2 * c = D by omega), if_pos g1, if_neg g2]
      · rw [if_neg (show ¬ 2 * c = D by omega), if_neg g1]
    rw [hx35, if_pos this]
  have v44 : x44 = 1 := by
    have : x38 = x41 := by
      rw [hx38, hx41]
      simp only [c38, q10]
    rw [hx44, if_pos this]
  rw [hx47, v21, v24, v35, v44, if_neg (by decide), if_neg (by decide), if_neg (by decide), if_neg (by decide)]
set_option maxRecDepth 65536 in
set_option maxHeartbeats 40000000 in
theorem rm0 (l : Launch) (Z : State) (a0 : Array Value) (hw : ∀ d ∈ tables_1, d.before a0 Z = true) (ws : List Jvm.Cond) (p0 : Int32) (p1 : Int32) (p2 : Int32)  (h0 : Heap) (n0 : Nat) (Z0 : n0 ≤ h0.size) :
    MetFree l x (head1 (Jvm.Cond.code x code maxLocals ret :: ws) room_1) (fun a U => a = #[(.int p0), (.int p1), (.int p2)] ∧ Z.Warmed39 U.vm ∧ U.heap = h0) (fun _ _ _ _ _ => True) (fun _ U o U' => ∃ v L, o = .returned v ∧ Q0 Z p0 p1 p2 h0 n0 v U'.heap L ∧ FrameEnd U o U' L room_1.cells room_1.slots) := by
  refine MetFree.of_bodySF (plainFor_of_name pn_0) hisR ?_
  intro p e s m args below meth c s₁ Bd hml0 hP hK
  obtain ⟨rfl, hZ, hh⟩ := hP
  have hx := Bd.exec
  have hby := Bd.bytes
  have hml : c.maxLocals = 15 := hml0
  have hown : s.vm.findClass "com/example/queries_into_facets/queriesintofacets/measures/AgreementF1PinLaw" = some m.cls := findClass_of_methodNamed Bd.named
  have hnm := (name_of_methodNamed Bd.named Bd.method).1
  have X0 : Stand p l e room_1 s m #[(.int p0), (.int p1), (.int p2)] below meth c s₁ [] 0 0 := Stand.of_body Bd
  have e0 : s₁.heap = h0 := by rw [← hh, Bd.state]; rfl
  have N0 := Fr.nil n0
  have G0 := gd X0 hx hby
  have pre0 : ∀ t, Steps p.tables e below (s₁.setTop (mkF m 0 #[iv p0, iv p1, iv p2, .unset, .unset, .unset, .unset, .unset, .unset, .unset, .unset, .unset, .unset, .unset, .unset] [])) t → Steps p.tables e below (s₁.setTop (entryFrame m #[(.int p0), (.int p1), (.int p2)] maxLocals)) t := fun t k => castTop (ef0 m p0 p1 p2) k
  obtain ⟨x1, hx1⟩ : ∃ z : Int32, z = (p0 &&& (65535 : Int32)) := ⟨_, rfl⟩
  obtain ⟨x2, hx2⟩ : ∃ z : Int32, z = (x1 + (p1 &&& (65535 : Int32))) := ⟨_, rfl⟩
  obtain ⟨x3, hx3⟩ : ∃ z : Int32, z = (x1 + (p2 &&& (65535 : Int32))) := ⟨_, rfl⟩
  obtain ⟨T4, h4, X4, e4, E4, A4, D4, -, st4⟩ := newO X0 hx hZ hown (wd hw 1 rfl) (wd hw 2 rfl) (wd hw 3 rfl) e0 (g := (mkF m 21 #[iv p0, iv p1, iv p2, iv x1, iv x2, iv x3, .unset, .unset, .unset, .unset, .unset, .unset, .unset, .unset, .unset] [])) rfl (hb hby at_21) (by decide) (by decide)
  have G4 := gd X4 hx hby
  obtain ⟨b4, g4⟩ : ∃ z, z = h0.size := ⟨_, rfl⟩
  rw [← g4] at A4 D4 st4
  have g_b4 : n0 ≤ b4 := Nat.le_trans Z0 (Nat.le_of_eq g4.symm)
  have Z4 := Nat.le_trans Z0 E4.1
  have F_common_b4 : Fld Z h4 b4 "com/example/queries_into_facets/queriesintofacets/measures/Agreement" "common" "D" (.double (0 : UInt64)) := D4 (Or.inr (wd hw 17 rfl)) (ty := .double) (by decide)
  have F_system_b4 : Fld Z h4 b4 "com/example/queries_into_facets/queriesintofacets/measures/Agreement" "system" "D" (.double (0 : UInt64)) := D4 (Or.inr (wd hw 19 rfl)) (ty := .double) (by decide)
  have F_truth_b4 : Fld Z h4 b4 "com/example/queries_into_facets/queriesintofacets/measures/Agreement" "truth" "D" (.double (0 : UInt64)) := D4 (Or.inr (wd hw 21 rfl)) (ty := .double) (by decide)
  obtain ⟨_, _, ⟨T5, L5, k5, n5⟩, -, X5, ⟨Lc5, hQ5, l5, y5, z5⟩, st5⟩ := X4.specialBack hx (y := (⟨"com/example/queries_into_facets/queriesintofacets/measures/Agreement", "<init>", "(DDD)V"⟩ : MethodName)) rfl hown (mvT hZ (wd hw 5 rfl)) (mvT hZ (wd hw 6 rfl)) (mvT hZ (wd hw 7 rfl)) (by decide) (backOf (W := 1) (rm1 l Z a0 hw [] b4 ((FP.ddiv (FP.i2d x1) (4620693217682128896 : UInt64))) ((FP.ddiv (FP.i2d x2) (4620693217682128896 : UInt64))) ((FP.ddiv (FP.i2d x3) (4620693217682128896 : UInt64))) h4 n0 Z4 A4 g_b4 F_common_b4 F_system_b4 F_truth_b4) hZ (wd hw 7 rfl) (wd hw 3 rfl) (by decide) (by decide)) (g := (mkF m 45 #[iv p0, iv p1, iv p2, iv x1, iv x2, iv x3, .unset, .unset, .unset, .unset, .unset, .unset, .unset, .unset, .unset] [(.double (FP.ddiv (FP.i2d x3) (4620693217682128896 : UInt64))), (.double (FP.ddiv (FP.i2d x2) (4620693217682128896 : UInt64))), (.double (FP.ddiv (FP.i2d x1) (4620693217682128896 : UInt64))), (.ref b4), (.ref b4)])) rfl (by rw [hml]; rfl) (Steps.refl _) (a := b4) (argsL := [(.double (FP.ddiv (FP.i2d x1) (4620693217682128896 : UInt64))), (.double (FP.ddiv (FP.i2d x2) (4620693217682128896 : UInt64))), (.double (FP.ddiv (FP.i2d x3) (4620693217682128896 : UInt64)))]) (rest := [(.ref b4)]) (lenOf pd_2 rfl) rfl (by show 2 * 0 + _ ≤ _; exact Nat.le_of_eq rfl) (hb hby at_45) (fun _ _ => ⟨rfl, e4, (by decide : 1 + 0 ≤ _), (by decide : 3 + 0 ≤ _)⟩)
  dsimp only [Pt.U, Pt.locs, Pt.cells, Pt.slots] at X5 l5 y5 z5 st5 hQ5
  replace l5 : ([] ++ Lc5) = L5 := l5.symm
  subst l5 y5 z5
  obtain ⟨rfl, Nq5, K5, Eq5, Fq5_0, Fq5_1, Fq5_2⟩ := hQ5
  have N5 := Fr.app N0 Nq5
  have f10 := A4.keep K5
  have Z5k := Nat.le_trans Z4 K5.1
  have G5 := gd X5 hx hby
  obtain ⟨cq11, kq11, q11a, q11b, q11c⟩ := isOf hZ rfl Eq5
  obtain ⟨_, _, ⟨T11, L11, k11, n11⟩, -, X11, ⟨Lc11, hQ11, l11, y11, z11⟩, st11⟩ := X5.virtualBack hx (y := (⟨"com/example/queries_into_facets/queriesintofacets/measures/Agreement", "f1", "()D"⟩ : MethodName)) (z := (⟨"com/example/queries_into_facets/queriesintofacets/measures/Agreement", "f1", "()D"⟩ : MethodName)) hown (mvT hZ (wd hw 22 rfl)) (mvT hZ (wd hw 23 rfl)) (notFace_of_selects (args := #[]) (mvT hZ (wd hw 25 rfl))) (mvT hZ (wd hw 25 rfl)) (mvT hZ (wd hw 24 rfl)) (by decide) (backOf (W := 0) (rm4 l Z a0 hw [] b4 T5.heap n0 Z5k Fq5_0 Fq5_1 Fq5_2 (own_rm0_hp_hn7_52 p0 p1 p2 x1 hx1 x2 hx2 x3 hx3) (own_rm0_hp_hn16_52 p0 p1 p2 x1 hx1 x2 hx2 x3 hx3) (own_rm0_hp_hp_hn12_17_52 p0 p1 p2 x1 hx1 x2 hx2 x3 hx3)) hZ (wd hw 26 rfl) (wd hw 3 rfl) (by decide) (by decide)) q11a q11c (g := (mkF m 52 #[iv p0, iv p1, iv p2, iv x1, iv x2, iv x3, rv b4, .unset, .unset, .unset, .unset, .unset, .unset, .unset, .unset] [(.ref b4)])) rfl (by rw [hml]; rfl) (Steps.refl _) (argsL := []) (rest := []) (lenOf pd_3 rfl) rfl (by show 2 * 0 + _ ≤ _; exact Nat.le_of_eq rfl) (hb hby at_52) (fun _ _ => ⟨rfl, rfl, (by decide : 1 + 0 ≤ _), (by decide : 3 + 0 ≤ _)⟩)
  dsimp only [Pt.U, Pt.locs, Pt.cells, Pt.slots] at X11 l11 y11 z11 st11 hQ11
  replace l11 : (([] ++ Lc5) ++ Lc11) = L11 := l11.symm
  subst l11 y11 z11
  obtain ⟨rfl, rfl, e11⟩ := hQ11
  simp only [List.append_nil, Nat.add_zero] at X11
  have G11 := gd X11 hx hby
  obtain ⟨x12, hx12⟩ : ∃ z : UInt64, z = (rv4 (FP.ddiv (FP.i2d x1) (4620693217682128896 : UInt64)) (FP.ddiv (FP.i2d x2) (4620693217682128896 : UInt64)) (FP.ddiv (FP.i2d x3) (4620693217682128896 : UInt64))) := ⟨_, rfl⟩
  obtain ⟨x13, hx13⟩ : ∃ z : Int32, z = ((2 : Int32) * x1) := ⟨_, rfl⟩
  obtain ⟨x14, hx14⟩ : ∃ z : Int32, z = (x2 + x3) := ⟨_, rfl⟩
  by_cases hc71_15 : x14 = (0 : Int32)
  · obtain ⟨x18, hx18⟩ : ∃ z : Int32, z = (if (cmpValue (FP.dcmp x12 (0 : UInt64)) .l) = (0 : Int32) then (1 : Int32) else (0 : Int32)) := ⟨_, rfl⟩
    obtain ⟨T17, X17, e17, st17⟩ : ∃ T' : State, Stand p l e room_1 s m #[(.int p0), (.int p1), (.int p2)] below meth c T' ([] ++ Lc5) 1 3 ∧ T'.heap = T5.heap ∧ ∀ target, Steps p.tables e below (T'.setTop (mkF m 86 #[iv p0, iv p1, iv p2, iv x1, iv x2, iv x3, rv b4, dv x12, .second, iv x13, iv x14, .unset, .unset, .unset, .unset] [(.int x18)])) target → Steps p.tables e below (T11.setTop (mkF m 78 #[iv p0, iv p1, iv p2, iv x1, iv x2, iv x3, rv b4, dv x12, .second, iv x13, iv x14, .unset, .unset, .unset, .unset] [(.int (cmpValue (FP.dcmp x12 (0 : UInt64)) .l))])) target := by
      by_cases hc78_16 : (cmpValue (FP.dcmp x12 (0 : UInt64)) .l) = (0 : Int32)
      · refine ⟨T11, X11, e11, fun target kt => ?_⟩
        refine mifNo 81 G11 at_78 ((if0 _ _).trans (teq hc78_16).2) rfl ?_
        refine miconst 82 G11 at_81 (v := (1 : Int32)) rfl rfl ?_
        refine mgoto 86 G11 at_82 (by decide) rfl ?_
        exact castTop (g' := (mkF m 86 #[iv p0, iv p1, iv p2, iv x1, iv x2, iv x3, rv b4, dv x12, .second, iv x13, iv x14, .unset, .unset, .unset, .unset] [(.int x18)])) (by simp only [hx18, if_pos hc78_16]) kt
      · refine ⟨T11, X11, e11, fun target kt => ?_⟩
        refine mifYes 85 G11 at_78 ((if0 _ _).trans (feq hc78_16).2) (by decide) rfl ?_
        refine miconst 86 G11 at_85 (v := (0 : Int32)) rfl rfl ?_
        exact castTop (g' := (mkF m 86 #[iv p0, iv p1, iv p2, iv x1, iv x2, iv x3, rv b4, dv x12, .second, iv x13, iv x14, .unset, .unset, .unset, .unset] [(.int x18)])) (by simp only [hx18, if_neg hc78_16]) kt
    have G17 := gd X17 hx hby
    have hend : x18 = 1 := (own_rm0_end p0 p1 p2 x1 hx1 x2 hx2 x3 hx3 x12 hx12 x13 hx13 x14 hx14 x18 hx18 hc71_15)
    obtain ⟨fs, hr, hrun, hended, hW, hsame⟩ := X17.leave (v := some (.int (1 : Int32))) (fun h => by rw [Bd.returns] at h; cases h)
    refine ⟨_, _, pre0 _ ?_, hrun, hended, _, _, rfl, ?_, ⟨_, rfl⟩, hW, hsame.mono (by decide) (by decide)⟩
    · show Steps p.tables e below (s₁.setTop (mkF m 0 #[iv p0, iv p1, iv p2, .unset, .unset, .unset, .unset, .unset, .unset, .unset, .unset, .unset, .unset, .unset, .unset] [])) _
      refine miloadN 1 G0 at_0 rfl rfl ?_
      refine X0.ldcInt hx hown (mvT hZ (wd hw 0 rfl)) (g := (mkF m 1 #[iv p0, iv p1, iv p2, .unset, .unset, .unset, .unset, .unset, .unset, .unset, .unset, .unset, .unset, .unset, .unset] [(.int p0)])) rfl (hb hby at_1) _ ?_
      show Steps p.tables e below (s₁.setTop (mkF m 3 #[iv p0, iv p1, iv p2, .unset, .unset, .unset, .unset, .unset, .unset, .unset, .unset, .unset, .unset, .unset, .unset] [(.int (65535 : Int32)), (.int p0)])) _
      refine miand 4 G0 at_3 rfl rfl ?_
      refine castTop (g' := (mkF m 4 #[iv p0, iv p1, iv p2, .unset, .unset, .unset, .unset, .unset, .unset, .unset, .unset, .unset, .unset, .unset, .unset] [(.int x1)])) (by rw [hx1]) ?_
      refine mistoreN 5 G0 at_4 #[iv p0, iv p1, iv p2, iv x1, .unset, .unset, .unset, .unset, .unset, .unset, .unset, .unset, .unset, .unset, .unset] rfl rfl ?_
      refine miloadN 6 G0 at_5 rfl rfl ?_
      refine miloadN 7 G0 at_6 rfl rfl ?_
      refine X0.ldcInt hx hown (mvT hZ (wd hw 0 rfl)) (g := (mkF m 7 #[iv p0, iv p1, iv p2, iv x1, .unset, .unset, .unset, .unset, .unset, .unset, .unset, .unset, .unset, .unset, .unset] [(.int p1), (.int x1)])) rfl (hb hby at_7) _ ?_
      show Steps p.tables e below (s₁.setTop (mkF m 9 #[iv p0, iv p1, iv p2, iv x1, .unset, .unset, .unset, .unset, .unset, .unset, .unset, .unset, .unset, .unset, .unset] [(.int (65535 : Int32)), (.int p1), (.int x1)])) _
      refine miand 10 G0 at_9 rfl rfl ?_
      refine miadd 11 G0 at_10 rfl rfl ?_
      refine castTop (g' := (mkF m 11 #[iv p0, iv p1, iv p2, iv x1, .unset, .unset, .unset, .unset, .unset, .unset, .unset, .unset, .unset, .unset, .unset] [(.int x2)])) (by rw [hx2]) ?_
      refine mistore 13 G0 at_11 #[iv p0, iv p1, iv p2, iv x1, iv x2, .unset, .unset, .unset, .unset, .unset, .unset, .unset, .unset, .unset, .unset] rfl rfl ?_
      refine miloadN 14 G0 at_13 rfl rfl ?_
      refine miloadN 15 G0 at_14 rfl rfl ?_
      refine X0.ldcInt hx hown (mvT hZ (wd hw 0 rfl)) (g := (mkF m 15 #[iv p0, iv p1, iv p2, iv x1, iv x2, .unset, .unset, .unset, .unset, .unset, .unset, .unset, .unset, .unset, .unset] [(.int p2), (.int x1)])) rfl (hb hby at_15) _ ?_
      show Steps p.tables e below (s₁.setTop (mkF m 17 #[iv p0, iv p1, iv p2, iv x1, iv x2, .unset, .unset, .unset, .unset, .unset, .unset, .unset, .unset, .unset, .unset] [(.int (65535 : Int32)), (.int p2), (.int x1)])) _
      refine miand 18 G0 at_17 rfl rfl ?_
      refine miadd 19 G0 at_18 rfl rfl ?_
      refine castTop (g' := (mkF m 19 #[iv p0, iv p1, iv p2, iv x1, iv x2, .unset, .unset, .unset, .unset, .unset, .unset, .unset, .unset, .unset, .unset] [(.int x3)])) (by rw [hx3]) ?_
      refine mistore 21 G0 at_19 #[iv p0, iv p1, iv p2, iv x1, iv x2, iv x3, .unset, .unset, .unset, .unset, .unset, .unset, .unset, .unset, .unset] rfl rfl ?_
      refine st4 _ ?_
      show Steps p.tables e below (T4.setTop (mkF m 24 #[iv p0, iv p1, iv p2, iv x1, iv x2, iv x3, .unset, .unset, .unset, .unset, .unset, .unset, .unset, .unset, .unset] [(.ref b4)])) _
      refine mdup 25 G4 at_24 rfl rfl ?_
      refine miloadN 26 G4 at_25 rfl rfl ?_
      refine mi2d 27 G4 at_26 rfl ?_
      refine X4.ldc2DoubleC hx hown (mvT hZ (wd hw 4 rfl)) (g := (mkF m 27 #[iv p0, iv p1, iv p2, iv x1, iv x2, iv x3, .unset, .unset, .unset, .unset, .unset, .unset, .unset, .unset, .unset] [(.double (FP.i2d x1)), (.ref b4), (.ref b4)])) rfl (hb hby at_27) _ ?_
      show Steps p.tables e below (T4.setTop (mkF m 30 #[iv p0, iv p1, iv p2, iv x1, iv x2, iv x3, .unset, .unset, .unset, .unset, .unset, .unset, .unset, .unset, .unset] [(.double (4620693217682128896 : UInt64)), (.double (FP.i2d x1)), (.ref b4), (.ref b4)])) _
      refine mddiv 31 G4 at_30 (own_rm0_hn30 p0 p1 p2 x1 hx1 x2 hx2 x3 hx3) rfl ?_
      refine miload 33 G4 at_31 rfl rfl ?_
      refine mi2d 34 G4 at_33 rfl ?_
      refine X4.ldc2DoubleC hx hown (mvT hZ (wd hw 4 rfl)) (g := (mkF m 34 #[iv p0, iv p1, iv p2, iv x1, iv x2, iv x3, .unset, .unset, .unset, .unset, .unset, .unset, .unset, .unset, .unset] [(.double (FP.i2d x2)), (.double (FP.ddiv (FP.i2d x1) (4620693217682128896 : UInt64))), (.ref b4), (.ref b4)])) rfl (hb hby at_34) _ ?_
      show Steps p.tables e below (T4.setTop (mkF m 37 #[iv p0, iv p1, iv p2, iv x1, iv x2, iv x3, .unset, .unset, .unset, .unset, .unset, .unset, .unset, .unset, .unset] [(.double (4620693217682128896 : UInt64)), (.double (FP.i2d x2)), (.double (FP.ddiv (FP.i2d x1) (4620693217682128896 : UInt64))), (.ref b4), (.ref b4)])) _
      refine mddiv 38 G4 at_37 (own_rm0_hn37 p0 p1 p2 x1 hx1 x2 hx2 x3 hx3) rfl ?_
      refine miload 40 G4 at_38 rfl rfl ?_
      refine mi2d 41 G4 at_40 rfl ?_
      refine X4.ldc2DoubleC hx hown (mvT hZ (wd hw 4 rfl)) (g := (mkF m 41 #[iv p0, iv p1, iv p2, iv x1, iv x2, iv x3, .unset, .unset, .unset, .unset, .unset, .unset, .unset, .unset, .unset] [(.double (FP.i2d x3)), (.double (FP.ddiv (FP.i2d x2) (4620693217682128896 : UInt64))), (.double (FP.ddiv (FP.i2d x1) (4620693217682128896 : UInt64))), (.ref b4), (.ref b4)])) rfl (hb hby at_41) _ ?_
      show Steps p.tables e below (T4.setTop (mkF m 44 #[iv p0, iv p1, iv p2, iv x1, iv x2, iv x3, .unset, .unset, .unset, .unset, .unset, .unset, .unset, .unset, .unset] [(.double (4620693217682128896 : UInt64)), (.double (FP.i2d x3)), (.double (FP.ddiv (FP.i2d x2) (4620693217682128896 : UInt64))), (.double (FP.ddiv (FP.i2d x1) (4620693217682128896 : UInt64))), (.ref b4), (.ref b4)])) _
      refine mddiv 45 G4 at_44 (own_rm0_hn44 p0 p1 p2 x1 hx1 x2 hx2 x3 hx3) rfl ?_
      refine st5.trans ?_
      show Steps p.tables e below (T5.setTop (mkF m 48 #[iv p0, iv p1, iv p2, iv x1, iv x2, iv x3, .unset, .unset, .unset, .unset, .unset, .unset, .unset, .unset, .unset] [(.ref b4)])) _
      refine mastore 50 G5 at_48 rfl #[iv p0, iv p1, iv p2, iv x1, iv x2, iv x3, rv b4, .unset, .unset, .unset, .unset, .unset, .unset, .unset, .unset] rfl rfl ?_
      refine maload 52 G5 at_50 rfl rfl rfl ?_
      refine st11.trans ?_
      show Steps p.tables e below (T11.setTop (mkF m 55 #[iv p0, iv p1, iv p2, iv x1, iv x2, iv x3, rv b4, .unset, .unset, .unset, .unset, .unset, .unset, .unset, .unset] [(.double (rv4 (FP.ddiv (FP.i2d x1) (4620693217682128896 : UInt64)) (FP.ddiv (FP.i2d x2) (4620693217682128896 : UInt64)) (FP.ddiv (FP.i2d x3) (4620693217682128896 : UInt64))))])) _
      refine castTop (g' := (mkF m 55 #[iv p0, iv p1, iv p2, iv x1, iv x2, iv x3, rv b4, .unset, .unset, .unset, .unset, .unset, .unset, .unset, .unset] [(.double x12)])) (by rw [hx12]) ?_
      refine mdstore 57 G11 at_55 #[iv p0, iv p1, iv p2, iv x1, iv x2, iv x3, rv b4, dv x12, .second, .unset, .unset, .unset, .unset, .unset, .unset] rfl rfl ?_
      refine miconst 58 G11 at_57 (v := (2 : Int32)) rfl rfl ?_
      refine miloadN 59 G11 at_58 rfl rfl ?_
      refine mimul 60 G11 at_59 rfl rfl ?_
      refine castTop (g' := (mkF m 60 #[iv p0, iv p1, iv p2, iv x1, iv x2, iv x3, rv b4, dv x12, .second, .unset, .unset, .unset, .unset, .unset, .unset] [(.int x13)])) (by rw [hx13]) ?_
      refine mistore 62 G11 at_60 #[iv p0, iv p1, iv p2, iv x1, iv x2, iv x3, rv b4, dv x12, .second, iv x13, .unset, .unset, .unset, .unset, .unset] rfl rfl ?_
      refine miload 64 G11 at_62 rfl rfl ?_
      refine miload 66 G11 at_64 rfl rfl ?_
      refine miadd 67 G11 at_66 rfl rfl ?_
      refine castTop (g' := (mkF m 67 #[iv p0, iv p1, iv p2, iv x1, iv x2, iv x3, rv b4, dv x12, .second, iv x13, .unset, .unset, .unset, .unset, .unset] [(.int x14)])) (by rw [hx14]) ?_
      refine mistore 69 G11 at_67 #[iv p0, iv p1, iv p2, iv x1, iv x2, iv x3, rv b4, dv x12, .second, iv x13, iv x14, .unset, .unset, .unset, .unset] rfl rfl ?_
      refine miload 71 G11 at_69 rfl rfl ?_
      refine mifNo 74 G11 at_71 ((if0 _ _).trans (teq hc71_15).2) rfl ?_
      refine mdload 76 G11 at_74 rfl rfl ?_
      refine mdconst0 77 G11 at_76 (v := (0 : UInt64)) rfl rfl ?_
      refine mdcmp 78 G11 at_77 rfl ?_
      refine st17 _ ?_
      refine castTop (g' := (mkF m 86 #[iv p0, iv p1, iv p2, iv x1, iv x2, iv x3, rv b4, dv x12, .second, iv x13, iv x14, .unset, .unset, .unset, .unset] [(.int (1 : Int32))])) (by rw [hend]) ?_
      exact retN X17 hx (t := .boolean) Bd.returns (by simp) (hb hby at_86) hr
    · show Q0 Z p0 p1 p2 h0 n0 _ T17.heap _
      rw [e17]
      exact ⟨rfl, N5⟩
  · obtain ⟨x21, hx21⟩ : ∃ z : Int32, z = (if (cmpValue (FP.dcmp x12 (FP.ddiv (FP.i2d x13) (FP.i2d x14))) .l) = (0 : Int32) then (1 : Int32) else (0 : Int32)) := ⟨_, rfl⟩
    obtain ⟨T20, X20, e20, st20⟩ : ∃ T' : State, Stand p l e room_1 s m #[(.int p0), (.int p1), (.int p2)] below meth c T' ([] ++ Lc5) 1 3 ∧ T'.heap = T5.heap ∧ ∀ target, Steps p.tables e below (T'.setTop (mkF m 105 #[iv p0, iv p1, iv p2, iv x1, iv x2, iv x3, rv b4, dv x12, .second, iv x13, iv x14, .unset, .unset, .unset, .unset] [(.int x21)])) target → Steps p.tables e below (T11.setTop (mkF m 97 #[iv p0, iv p1, iv p2, iv x1, iv x2, iv x3, rv b4, dv x12, .second, iv x13, iv x14, .unset, .unset, .unset, .unset] [(.int (cmpValue (FP.dcmp x12 (FP.ddiv (FP.i2d x13) (FP.i2d x14))) .l))])) target := by
      by_cases hc97_19 : (cmpValue (FP.dcmp x12 (FP.ddiv (FP.i2d x13) (FP.i2d x14))) .l) = (0 : Int32)
      · refine ⟨T11, X11, e11, fun target kt => ?_⟩
        refine mifNo 100 G11 at_97 ((if0 _ _).trans (teq hc97_19).2) rfl ?_
        refine miconst 101 G11 at_100 (v := (1 : Int32)) rfl rfl ?_
        refine mgoto 105 G11 at_101 (by decide) rfl ?_
        exact castTop (g' := (mkF m 105 #[iv p0, iv p1, iv p2, iv x1, iv x2, iv x3, rv b4, dv x12, .second, iv x13, iv x14, .unset, .unset, .unset, .unset] [(.int x21)])) (by simp only [hx21, if_pos hc97_19]) kt
      · refine ⟨T11, X11, e11, fun target kt => ?_⟩
        refine mifYes 104 G11 at_97 ((if0 _ _).trans (feq hc97_19).2) (by decide) rfl ?_
        refine miconst 105 G11 at_104 (v := (0 : Int32)) rfl rfl ?_
        exact castTop (g' := (mkF m 105 #[iv p0, iv p1, iv p2, iv x1, iv x2, iv x3, rv b4, dv x12, .second, iv x13, iv x14, .unset, .unset, .unset, .unset] [(.int x21)])) (by simp only [hx21, if_neg hc97_19]) kt
    have G20 := gd X20 hx hby
    obtain ⟨x24, hx24⟩ : ∃ z : Int32, z = (if (0 : Int32) < (cmpValue (FP.dcmp (0 : UInt64) x12) .g) then (0 : Int32) else (if (0 : Int32) < (cmpValue (FP.dcmp x12 (4607182418800017408 : UInt64)) .g) then (0 : Int32) else (1 : Int32))) := ⟨_, rfl⟩
    obtain ⟨T23, X23, e23, st23⟩ : ∃ T' : State, Stand p l e room_1 s m #[(.int p0), (.int p1), (.int p2)] below meth c T' ([] ++ Lc5) 1 3 ∧ T'.heap = T5.heap ∧ ∀ target, Steps p.tables e below (T'.setTop (mkF m 126 #[iv p0, iv p1, iv p2, iv x1, iv x2, iv x3, rv b4, dv x12, .second, iv x13, iv x14, iv x21, .unset, .unset, .unset] [(.int x24)])) target → Steps p.tables e below (T20.setTop (mkF m 111 #[iv p0, iv p1, iv p2, iv x1, iv x2, iv x3, rv b4, dv x12, .second, iv x13, iv x14, iv x21, .unset, .unset, .unset] [(.int (cmpValue (FP.dcmp (0 : UInt64) x12) .g))])) target := by
      by_cases hc111_22 : (0 : Int32) < (cmpValue (FP.dcmp (0 : UInt64) x12) .g)
      · refine ⟨T20, X20, e20, fun target kt => ?_⟩
        refine mifYes 125 G20 at_111 ((if0 _ _).trans (tlt hc111_22).2.2.1) (by decide) rfl ?_
        refine miconst 126 G20 at_125 (v := (0 : Int32)) rfl rfl ?_
        exact castTop (g' := (mkF m 126 #[iv p0, iv p1, iv p2, iv x1, iv x2, iv x3, rv b4, dv x12, .second, iv x13, iv x14, iv x21, .unset, .unset, .unset] [(.int x24)])) (by simp only [hx24, if_pos hc111_22]) kt
      · by_cases hc118_25 : (0 : Int32) < (cmpValue (FP.dcmp x12 (4607182418800017408 : UInt64)) .g)
        · refine ⟨T20, X20, e20, fun target kt => ?_⟩
          refine mifNo 114 G20 at_111 ((if0 _ _).trans (flt hc111_22).2.2.1) rfl ?_
          refine mdload 116 G20 at_114 rfl rfl ?_
          refine mdconst1 117 G20 at_116 (v := (4607182418800017408 : UInt64)) rfl rfl ?_
          refine mdcmp 118 G20 at_117 rfl ?_
          refine mifYes 125 G20 at_118 ((if0 _ _).trans (tlt hc118_25).2.2.1) (by decide) rfl ?_
          refine miconst 126 G20 at_125 (v := (0 : Int32)) rfl rfl ?_
          exact castTop (g' := (mkF m 126 #[iv p0, iv p1, iv p2, iv x1, iv x2, iv x3, rv b4, dv x12, .second, iv x13, iv x14, iv x21, .unset, .unset, .unset] [(.int x24)])) (by simp only [hx24, if_neg hc111_22, if_pos hc118_25]) kt
        · refine ⟨T20, X20, e20, fun target kt => ?_⟩
          refine mifNo 114 G20 at_111 ((if0 _ _).trans (flt hc111_22).2.2.1) rfl ?_
          refine mdload 116 G20 at_114 rfl rfl ?_
          refine mdconst1 117 G20 at_116 (v := (4607182418800017408 : UInt64)) rfl rfl ?_
          refine mdcmp 118 G20 at_117 rfl ?_
          refine mifNo 121 G20 at_118 ((if0 _ _).trans (flt hc118_25).2.2.1) rfl ?_
          refine miconst 122 G20 at_121 (v := (1 : Int32)) rfl rfl ?_
          refine mgoto 126 G20 at_122 (by decide) rfl ?_
          exact castTop (g' := (mkF m 126 #[iv p0, iv p1, iv p2, iv x1, iv x2, iv x3, rv b4, dv x12, .second, iv x13, iv x14, iv x21, .unset, .unset, .unset] [(.int x24)])) (by simp only [hx24, if_neg hc111_22, if_neg hc118_25]) kt
    have G23 := gd X23 hx hby
    obtain ⟨x28, hx28⟩ : ∃ z : Int32, z = (if (cmpValue (FP.dcmp x12 (4607182418800017408 : UInt64)) .l) = (0 : Int32) then (1 : Int32) else (0 : Int32)) := ⟨_, rfl⟩
    obtain ⟨T27, X27, e27, st27⟩ : ∃ T' : State, Stand p l e room_1 s m #[(.int p0), (.int p1), (.int p2)] below meth c T' ([] ++ Lc5) 1 3 ∧ T'.heap = T5.heap ∧ ∀ target, Steps p.tables e below (T'.setTop (mkF m 140 #[iv p0, iv p1, iv p2, iv x1, iv x2, iv x3, rv b4, dv x12, .second, iv x13, iv x14, iv x21, iv x24, .unset, .unset] [(.int x28)])) target → Steps p.tables e below (T23.setTop (mkF m 132 #[iv p0, iv p1, iv p2, iv x1, iv x2, iv x3, rv b4, dv x12, .second, iv x13, iv x14, iv x21, iv x24, .unset, .unset] [(.int (cmpValue (FP.dcmp x12 (4607182418800017408 : UInt64)) .l))])) target := by
      by_cases hc132_26 : (cmpValue (FP.dcmp x12 (4607182418800017408 : UInt64)) .l) = (0 : Int32)
      · refine ⟨T23, X23, e23, fun target kt => ?_⟩
        refine mifNo 135 G23 at_132 ((if0 _ _).trans (teq hc132_26).2) rfl ?_
        refine miconst 136 G23 at_135 (v := (1 : Int32)) rfl rfl ?_
        refine mgoto 140 G23 at_136 (by decide) rfl ?_
        exact castTop (g' := (mkF m 140 #[iv p0, iv p1, iv p2, iv x1, iv x2, iv x3, rv b4, dv x12, .second, iv x13, iv x14, iv x21, iv x24, .unset, .unset] [(.int x28)])) (by simp only [hx28, if_pos hc132_26]) kt
      · refine ⟨T23, X23, e23, fun target kt => ?_⟩
        refine mifYes 139 G23 at_132 ((if0 _ _).trans (feq hc132_26).2) (by decide) rfl ?_
        refine miconst 140 G23 at_139 (v := (0 : Int32)) rfl rfl ?_
        exact castTop (g' := (mkF m 140 #[iv p0, iv p1, iv p2, iv x1, iv x2, iv x3, rv b4, dv x12, .second, iv x13, iv x14, iv x21, iv x24, .unset, .unset] [(.int x28)])) (by simp only [hx28, if_neg hc132_26]) kt
    have G27 := gd X27 hx hby
    obtain ⟨x31, hx31⟩ : ∃ z : Int32, z = (if x1 = x2 then (if x1 = x3 then (1 : Int32) else (0 : Int32)) else (0 : Int32)) := ⟨_, rfl⟩
    obtain ⟨T30, X30, e30, st30⟩ : ∃ T' : State, Stand p l e room_1 s m #[(.int p0), (.int p1), (.int p2)] below meth c T' ([] ++ Lc5) 1 3 ∧ T'.heap = T5.heap ∧ ∀ target, Steps p.tables e below (T'.setTop (mkF m 157 #[iv p0, iv p1, iv p2, iv x1, iv x2, iv x3, rv b4, dv x12, .second, iv x13, iv x14, iv x21, iv x24, .unset, .unset] [(.int x31), (.int x28)])) target → Steps p.tables e below (T27.setTop (mkF m 143 #[iv p0, iv p1, iv p2, iv x1, iv x2, iv x3, rv b4, dv x12, .second, iv x13, iv x14, iv x21, iv x24, .unset, .unset] [(.int x2), (.int x1), (.int x28)])) target := by
      by_cases hc143_29 : x1 = x2
      · by_cases hc149_32 : x1 = x3
        · refine ⟨T27, X27, e27, fun target kt => ?_⟩
          refine micmpNo 146 G27 at_143 (teq hc143_29).2 rfl ?_
          refine miloadN 147 G27 at_146 rfl rfl ?_
          refine miload 149 G27 at_147 rfl rfl ?_
          refine micmpNo 152 G27 at_149 (teq hc149_32).2 rfl ?_
          refine miconst 153 G27 at_152 (v := (1 : Int32)) rfl rfl ?_
          refine mgoto 157 G27 at_153 (by decide) rfl ?_
          exact castTop (g' := (mkF m 157 #[iv p0, iv p1, iv p2, iv x1, iv x2, iv x3, rv b4, dv x12, .second, iv x13, iv x14, iv x21, iv x24, .unset, .unset] [(.int x31), (.int x28)])) (by simp only [hx31, if_pos hc143_29, if_pos hc149_32]) kt
        · refine ⟨T27, X27, e27, fun target kt => ?_⟩
          refine micmpNo 146 G27 at_143 (teq hc143_29).2 rfl ?_
          refine miloadN 147 G27 at_146 rfl rfl ?_
          refine miload 149 G27 at_147 rfl rfl ?_
          refine micmpYes 156 G27 at_149 (feq hc149_32).2 (by decide) rfl ?_
          refine miconst 157 G27 at_156 (v := (0 : Int32)) rfl rfl ?_
          exact castTop (g' := (mkF m 157 #[iv p0, iv p1, iv p2, iv x1, iv x2, iv x3, rv b4, dv x12, .second, iv x13, iv x14, iv x21, iv x24, .unset, .unset] [(.int x31), (.int x28)])) (by simp only [hx31, if_pos hc143_29, if_neg hc149_32]) kt
      · refine ⟨T27, X27, e27, fun target kt => ?_⟩
        refine micmpYes 156 G27 at_143 (feq hc143_29).2 (by decide) rfl ?_
        refine miconst 157 G27 at_156 (v := (0 : Int32)) rfl rfl ?_
        exact castTop (g' := (mkF m 157 #[iv p0, iv p1, iv p2, iv x1, iv x2, iv x3, rv b4, dv x12, .second, iv x13, iv x14, iv x21, iv x24, .unset, .unset] [(.int x31), (.int x28)])) (by simp only [hx31, if_neg hc143_29]) kt
    have G30 := gd X30 hx hby
    obtain ⟨x35, hx35⟩ : ∃ z : Int32, z = (if x28 = x31 then (1 : Int32) else (0 : Int32)) := ⟨_, rfl⟩
    obtain ⟨T34, X34, e34, st34⟩ : ∃ T' : State, Stand p l e room_1 s m #[(.int p0), (.int p1), (.int p2)] below meth c T' ([] ++ Lc5) 1 3 ∧ T'.heap = T5.heap ∧ ∀ target, Steps p.tables e below (T'.setTop (mkF m 165 #[iv p0, iv p1, iv p2, iv x1, iv x2, iv x3, rv b4, dv x12, .second, iv x13, iv x14, iv x21, iv x24, .unset, .unset] [(.int x35)])) target → Steps p.tables e below (T30.setTop (mkF m 157 #[iv p0, iv p1, iv p2, iv x1, iv x2, iv x3, rv b4, dv x12, .second, iv x13, iv x14, iv x21, iv x24, .unset, .unset] [(.int x31), (.int x28)])) target := by
      by_cases hc157_33 : x28 = x31
      · refine ⟨T30, X30, e30, fun target kt => ?_⟩
        refine micmpNo 160 G30 at_157 (teq hc157_33).2 rfl ?_
        refine miconst 161 G30 at_160 (v := (1 : Int32)) rfl rfl ?_
        refine mgoto 165 G30 at_161 (by decide) rfl ?_
        exact castTop (g' := (mkF m 165 #[iv p0, iv p1, iv p2, iv x1, iv x2, iv x3, rv b4, dv x12, .second, iv x13, iv x14, iv x21, iv x24, .unset, .unset] [(.int x35)])) (by simp only [hx35, if_pos hc157_33]) kt
      · refine ⟨T30, X30, e30, fun target kt => ?_⟩
        refine micmpYes 164 G30 at_157 (feq hc157_33).2 (by decide) rfl ?_
        refine miconst 165 G30 at_164 (v := (0 : Int32)) rfl rfl ?_
        exact castTop (g' := (mkF m 165 #[iv p0, iv p1, iv p2, iv x1, iv x2, iv x3, rv b4, dv x12, .second, iv x13, iv x14, iv x21, iv x24, .unset, .unset] [(.int x35)])) (by simp only [hx35, if_neg hc157_33]) kt
    have G34 := gd X34 hx hby
    obtain ⟨x38, hx38⟩ : ∃ z : Int32, z = (if (cmpValue (FP.dcmp x12 (0 : UInt64)) .l) = (0 : Int32) then (1 : Int32) else (0 : Int32)) := ⟨_, rfl⟩
    obtain ⟨T37, X37, e37, st37⟩ : ∃ T' : State, Stand p l e room_1 s m #[(.int p0), (.int p1), (.int p2)] below meth c T' ([] ++ Lc5) 1 3 ∧ T'.heap = T5.heap ∧ ∀ target, Steps p.tables e below (T'.setTop (mkF m 179 #[iv p0, iv p1, iv p2, iv x1, iv x2, iv x3, rv b4, dv x12, .second, iv x13, iv x14, iv x21, iv x24, iv x35, .unset] [(.int x38)])) target → Steps p.tables e below (T34.setTop (mkF m 171 #[iv p0, iv p1, iv p2, iv x1, iv x2, iv x3, rv b4, dv x12, .second, iv x13, iv x14, iv x21, iv x24, iv x35, .unset] [(.int (cmpValue (FP.dcmp x12 (0 : UInt64)) .l))])) target := by
      by_cases hc171_36 : (cmpValue (FP.dcmp x12 (0 : UInt64)) .l) = (0 : Int32)
      · refine ⟨T34, X34, e34, fun target kt => ?_⟩
        refine mifNo 174 G34 at_171 ((if0 _ _).trans (teq hc171_36).2) rfl ?_
        refine miconst 175 G34 at_174 (v := (1 : Int32)) rfl rfl ?_
        refine mgoto 179 G34 at_175 (by decide) rfl ?_
        exact castTop (g' := (mkF m 179 #[iv p0, iv p1, iv p2, iv x1, iv x2, iv x3, rv b4, dv x12, .second, iv x13, iv x14, iv x21, iv x24, iv x35, .unset] [(.int x38)])) (by simp only [hx38, if_pos hc171_36]) kt
      · refine ⟨T34, X34, e34, fun target kt => ?_⟩
        refine mifYes 178 G34 at_171 ((if0 _ _).trans (feq hc171_36).2) (by decide) rfl ?_
        refine miconst 179 G34 at_178 (v := (0 : Int32)) rfl rfl ?_
        exact castTop (g' := (mkF m 179 #[iv p0, iv p1, iv p2, iv x1, iv x2, iv x3, rv b4, dv x12, .second, iv x13, iv x14, iv x21, iv x24, iv x35, .unset] [(.int x38)])) (by simp only [hx38, if_neg hc171_36]) kt
    have G37 := gd X37 hx hby
    obtain ⟨x41, hx41⟩ : ∃ z : Int32, z = (if x1 = (0 : Int32) then (1 : Int32) else (0 : Int32)) := ⟨_, rfl⟩
    obtain ⟨T40, X40, e40, st40⟩ : ∃ T' : State, Stand p l e room_1 s m #[(.int p0), (.int p1), (.int p2)] below meth c T' ([] ++ Lc5) 1 3 ∧ T'.heap = T5.heap ∧ ∀ target, Steps p.tables e below (T'.setTop (mkF m 188 #[iv p0, iv p1, iv p2, iv x1, iv x2, iv x3, rv b4, dv x12, .second, iv x13, iv x14, iv x21, iv x24, iv x35, .unset] [(.int x41), (.int x38)])) target → Steps p.tables e below (T37.setTop (mkF m 180 #[iv p0, iv p1, iv p2, iv x1, iv x2, iv x3, rv b4, dv x12, .second, iv x13, iv x14, iv x21, iv x24, iv x35, .unset] [(.int x1), (.int x38)])) target := by
      by_cases hc180_39 : x1 = (0 : Int32)
      · refine ⟨T37, X37, e37, fun target kt => ?_⟩
        refine mifNo 183 G37 at_180 ((if0 _ _).trans (teq hc180_39).2) rfl ?_
        refine miconst 184 G37 at_183 (v := (1 : Int32)) rfl rfl ?_
        refine mgoto 188 G37 at_184 (by decide) rfl ?_
        exact castTop (g' := (mkF m 188 #[iv p0, iv p1, iv p2, iv x1, iv x2, iv x3, rv b4, dv x12, .second, iv x13, iv x14, iv x21, iv x24, iv x35, .unset] [(.int x41), (.int x38)])) (by simp only [hx41, if_pos hc180_39]) kt
      · refine ⟨T37, X37, e37, fun target kt => ?_⟩
        refine mifYes 187 G37 at_180 ((if0 _ _).trans (feq hc180_39).2) (by decide) rfl ?_
        refine miconst 188 G37 at_187 (v := (0 : Int32)) rfl rfl ?_
        exact castTop (g' := (mkF m 188 #[iv p0, iv p1, iv p2, iv x1, iv x2, iv x3, rv b4, dv x12, .second, iv x13, iv x14, iv x21, iv x24, iv x35, .unset] [(.int x41), (.int x38)])) (by simp only [hx41, if_neg hc180_39]) kt
    have G40 := gd X40 hx hby
    obtain ⟨x44, hx44⟩ : ∃ z : Int32, z = (if x38 = x41 then (1 : Int32) else (0 : Int32)) := ⟨_, rfl⟩
    obtain ⟨T43, X43, e43, st43⟩ : ∃ T' : State, Stand p l e room_1 s m #[(.int p0), (.int p1), (.int p2)] below meth c T' ([] ++ Lc5) 1 3 ∧ T'.heap = T5.heap ∧ ∀ target, Steps p.tables e below (T'.setTop (mkF m 196 #[iv p0, iv p1, iv p2, iv x1, iv x2, iv x3, rv b4, dv x12, .second, iv x13, iv x14, iv x21, iv x24, iv x35, .unset] [(.int x44)])) target → Steps p.tables e below (T40.setTop (mkF m 188 #[iv p0, iv p1, iv p2, iv x1, iv x2, iv x3, rv b4, dv x12, .second, iv x13, iv x14, iv x21, iv x24, iv x35, .unset] [(.int x41), (.int x38)])) target := by
      by_cases hc188_42 : x38 = x41
      · refine ⟨T40, X40, e40, fun target kt => ?_⟩
        refine micmpNo 191 G40 at_188 (teq hc188_42).2 rfl ?_
        refine miconst 192 G40 at_191 (v := (1 : Int32)) rfl rfl ?_
        refine mgoto 196 G40 at_192 (by decide) rfl ?_
        exact castTop (g' := (mkF m 196 #[iv p0, iv p1, iv p2, iv x1, iv x2, iv x3, rv b4, dv x12, .second, iv x13, iv x14, iv x21, iv x24, iv x35, .unset] [(.int x44)])) (by simp only [hx44, if_pos hc188_42]) kt
      · refine ⟨T40, X40, e40, fun target kt => ?_⟩
        refine micmpYes 195 G40 at_188 (feq hc188_42).2 (by decide) rfl ?_
        refine miconst 196 G40 at_195 (v := (0 : Int32)) rfl rfl ?_
        exact castTop (g' := (mkF m 196 #[iv p0, iv p1, iv p2, iv x1, iv x2, iv x3, rv b4, dv x12, .second, iv x13, iv x14, iv x21, iv x24, iv x35, .unset] [(.int x44)])) (by simp only [hx44, if_neg hc188_42]) kt
    have G43 := gd X43 hx hby
    obtain ⟨x47, hx47⟩ : ∃ z : Int32, z = (if x21 = (0 : Int32) then (0 : Int32) else (if x24 = (0 : Int32) then (0 : Int32) else (if x35 = (0 : Int32) then (0 : Int32) else (if x44 = (0 : Int32) then (0 : Int32) else (1 : Int32))))) := ⟨_, rfl⟩
    obtain ⟨T46, X46, e46, st46⟩ : ∃ T' : State, Stand p l e room_1 s m #[(.int p0), (.int p1), (.int p2)] below meth c T' ([] ++ Lc5) 1 3 ∧ T'.heap = T5.heap ∧ ∀ target, Steps p.tables e below (T'.setTop (mkF m 223 #[iv p0, iv p1, iv p2, iv x1, iv x2, iv x3, rv b4, dv x12, .second, iv x13, iv x14, iv x21, iv x24, iv x35, iv x44] [(.int x47)])) target → Steps p.tables e below (T43.setTop (mkF m 200 #[iv p0, iv p1, iv p2, iv x1, iv x2, iv x3, rv b4, dv x12, .second, iv x13, iv x14, iv x21, iv x24, iv x35, iv x44] [(.int x21)])) target := by
      by_cases hc200_45 : x21 = (0 : Int32)
      · refine ⟨T43, X43, e43, fun target kt => ?_⟩
        refine mifYes 222 G43 at_200 ((if0 _ _).trans (teq hc200_45).1) (by decide) rfl ?_
        refine miconst 223 G43 at_222 (v := (0 : Int32)) rfl rfl ?_
        exact castTop (g' := (mkF m 223 #[iv p0, iv p1, iv p2, iv x1, iv x2, iv x3, rv b4, dv x12, .second, iv x13, iv x14, iv x21, iv x24, iv x35, iv x44] [(.int x47)])) (by simp only [hx47, if_pos hc200_45]) kt
      · by_cases hc205_48 : x24 = (0 : Int32)
        · refine ⟨T43, X43, e43, fun target kt => ?_⟩
          refine mifNo 203 G43 at_200 ((if0 _ _).trans (feq hc200_45).1) rfl ?_
          refine miload 205 G43 at_203 rfl rfl ?_
          refine mifYes 222 G43 at_205 ((if0 _ _).trans (teq hc205_48).1) (by decide) rfl ?_
          refine miconst 223 G43 at_222 (v := (0 : Int32)) rfl rfl ?_
          exact castTop (g' := (mkF m 223 #[iv p0, iv p1, iv p2, iv x1, iv x2, iv x3, rv b4, dv x12, .second, iv x13, iv x14, iv x21, iv x24, iv x35, iv x44] [(.int x47)])) (by simp only [hx47, if_neg hc200_45, if_pos hc205_48]) kt
        · by_cases hc210_49 : x35 = (0 : Int32)
          · refine ⟨T43, X43, e43, fun target kt => ?_⟩
            refine mifNo 203 G43 at_200 ((if0 _ _).trans (feq hc200_45).1) rfl ?_
            refine miload 205 G43 at_203 rfl rfl ?_
            refine mifNo 208 G43 at_205 ((if0 _ _).trans (feq hc205_48).1) rfl ?_
            refine miload 210 G43 at_208 rfl rfl ?_
            refine mifYes 222 G43 at_210 ((if0 _ _).trans (teq hc210_49).1) (by decide) rfl ?_
            refine miconst 223 G43 at_222 (v := (0 : Int32)) rfl rfl ?_
            exact castTop (g' := (mkF m 223 #[iv p0, iv p1, iv p2, iv x1, iv x2, iv x3, rv b4, dv x12, .second, iv x13, iv x14, iv x21, iv x24, iv x35, iv x44] [(.int x47)])) (by simp only [hx47, if_neg hc200_45, if_neg hc205_48, if_pos hc210_49]) kt
          · by_cases hc215_50 : x44 = (0 : Int32)
            · refine ⟨T43, X43, e43, fun target kt => ?_⟩
              refine mifNo 203 G43 at_200 ((if0 _ _).trans (feq hc200_45).1) rfl ?_
              refine miload 205 G43 at_203 rfl rfl ?_
              refine mifNo 208 G43 at_205 ((if0 _ _).trans (feq hc205_48).1) rfl ?_
              refine miload 210 G43 at_208 rfl rfl ?_
              refine mifNo 213 G43 at_210 ((if0 _ _).trans (feq hc210_49).1) rfl ?_
              refine miload 215 G43 at_213 rfl rfl ?_
              refine mifYes 222 G43 at_215 ((if0 _ _).trans (teq hc215_50).1) (by decide) rfl ?_
              refine miconst 223 G43 at_222 (v := (0 : Int32)) rfl rfl ?_
              exact castTop (g' := (mkF m 223 #[iv p0, iv p1, iv p2, iv x1, iv x2, iv x3, rv b4, dv x12, .second, iv x13, iv x14, iv x21, iv x24, iv x35, iv x44] [(.int x47)])) (by simp only [hx47, if_neg hc200_45, if_neg hc205_48, if_neg hc210_49, if_pos hc215_50]) kt
            · refine ⟨T43, X43, e43, fun target kt => ?_⟩
              refine mifNo 203 G43 at_200 ((if0 _ _).trans (feq hc200_45).1) rfl ?_
              refine miload 205 G43 at_203 rfl rfl ?_
              refine mifNo 208 G43 at_205 ((if0 _ _).trans (feq hc205_48).1) rfl ?_
              refine miload 210 G43 at_208 rfl rfl ?_
              refine mifNo 213 G43 at_210 ((if0 _ _).trans (feq hc210_49).1) rfl ?_
              refine miload 215 G43 at_213 rfl rfl ?_
              refine mifNo 218 G43 at_215 ((if0 _ _).trans (feq hc215_50).1) rfl ?_
              refine miconst 219 G43 at_218 (v := (1 : Int32)) rfl rfl ?_
              refine mgoto 223 G43 at_219 (by decide) rfl ?_
              exact castTop (g' := (mkF m 223 #[iv p0, iv p1, iv p2, iv x1, iv x2, iv x3, rv b4, dv x12, .second, iv x13, iv x14, iv x21, iv x24, iv x35, iv x44] [(.int x47)])) (by simp only [hx47, if_neg hc200_45, if_neg hc205_48, if_neg hc210_49, if_neg hc215_50]) kt
    have G46 := gd X46 hx hby
    have hend : x47 = 1 := (own_rm0_end_1 p0 p1 p2 x1 hx1 x2 hx2 x3 hx3 x12 hx12 x13 hx13 x14 hx14 x21 hx21 x24 hx24 x28 hx28 x31 hx31 x35 hx35 x38 hx38 x41 hx41 x44 hx44 x47 hx47 hc71_15)
    obtain ⟨fs, hr, hrun, hended, hW, hsame⟩ := X46.leave (v := some (.int (1 : Int32))) (fun h => by rw [Bd.returns] at h; cases h)
    refine ⟨_, _, pre0 _ ?_, hrun, hended, _, _, rfl, ?_, ⟨_, rfl⟩, hW, hsame.mono (by decide) (by decide)⟩
    · show Steps p.tables e below (s₁.setTop (mkF m 0 #[iv p0, iv p1, iv p2, .unset, .unset, .unset, .unset, .unset, .unset, .unset, .unset, .unset, .unset, .unset, .unset] [])) _
      refine miloadN 1 G0 at_0 rfl rfl ?_
      refine X0.ldcInt hx hown (mvT hZ (wd hw 0 rfl)) (g := (mkF m 1 #[iv p0, iv p1, iv p2, .unset, .unset, .unset, .unset, .unset, .unset, .unset, .unset, .unset, .unset, .unset, .unset] [(.int p0)])) rfl (hb hby at_1) _ ?_
      show Steps p.tables e below (s₁.setTop (mkF m 3 #[iv p0, iv p1, iv p2, .unset, .unset, .unset, .unset, .unset, .unset, .unset, .unset, .unset, .unset, .unset, .unset] [(.int (65535 : Int32)), (.int p0)])) _
      refine miand 4 G0 at_3 rfl rfl ?_
      refine castTop (g' := (mkF m 4 #[iv p0, iv p1, iv p2, .unset, .unset, .unset, .unset, .unset, .unset, .unset, .unset, .unset, .unset, .unset, .unset] [(.int x1)])) (by rw [hx1]) ?_
      refine mistoreN 5 G0 at_4 #[iv p0, iv p1, iv p2, iv x1, .unset, .unset, .unset, .unset, .unset, .unset, .unset, .unset, .unset, .unset, .unset] rfl rfl ?_
      refine miloadN 6 G0 at_5 rfl rfl ?_
      refine miloadN 7 G0 at_6 rfl rfl ?_
      refine X0.ldcInt hx hown (mvT hZ (wd hw 0 rfl)) (g := (mkF m 7 #[iv p0, iv p1, iv p2, iv x1, .unset, .unset, .unset, .unset, .unset, .unset, .unset, .unset, .unset, .unset, .unset] [(.int p1), (.int x1)])) rfl (hb hby at_7) _ ?_
      show Steps p.tables e below (s₁.setTop (mkF m 9 #[iv p0, iv p1, iv p2, iv x1, .unset, .unset, .unset, .unset, .unset, .unset, .unset, .unset, .unset, .unset, .unset] [(.int (65535 : Int32)), (.int p1), (.int x1)])) _
      refine miand 10 G0 at_9 rfl rfl ?_
      refine miadd 11 G0 at_10 rfl rfl ?_
      refine castTop (g' := (mkF m 11 #[iv p0, iv p1, iv p2, iv x1, .unset, .unset, .unset, .unset, .unset, .unset, .unset, .unset, .unset, .unset, .unset] [(.int x2)])) (by rw [hx2]) ?_
      refine mistore 13 G0 at_11 #[iv p0, iv p1, iv p2, iv x1, iv x2, .unset, .unset, .unset, .unset, .unset, .unset, .unset, .unset, .unset, .unset] rfl rfl ?_
      refine miloadN 14 G0 at_13 rfl rfl ?_
      refine miloadN 15 G0 at_14 rfl rfl ?_
      refine X0.ldcInt hx hown (mvT hZ (wd hw 0 rfl)) (g := (mkF m 15 #[iv p0, iv p1, iv p2, iv x1, iv x2, .unset, .unset, .unset, .unset, .unset, .unset, .unset, .unset, .unset, .unset] [(.int p2), (.int x1)])) rfl (hb hby at_15) _ ?_
      show Steps p.tables e below (s₁.setTop (mkF m 17 #[iv p0, iv p1, iv p2, iv x1, iv x2, .unset, .unset, .unset, .unset, .unset, .unset, .unset, .unset, .unset, .unset] [(.int (65535 : Int32)), (.int p2), (.int x1)])) _
      refine miand 18 G0 at_17 rfl rfl ?_
      refine miadd 19 G0 at_18 rfl rfl ?_
      refine castTop (g' := (mkF m 19 #[iv p0, iv p1, iv p2, iv x1, iv x2, .unset, .unset, .unset, .unset, .unset, .unset, .unset, .unset, .unset, .unset] [(.int x3)])) (by rw [hx3]) ?_
      refine mistore 21 G0 at_19 #[iv p0, iv p1, iv p2, iv x1, iv x2, iv x3, .unset, .unset, .unset, .unset, .unset, .unset, .unset, .unset, .unset] rfl rfl ?_
      refine st4 _ ?_
      show Steps p.tables e below (T4.setTop (mkF m 24 #[iv p0, iv p1, iv p2, iv x1, iv x2, iv x3, .unset, .unset, .unset, .unset, .unset, .unset, .unset, .unset, .unset] [(.ref b4)])) _
      refine mdup 25 G4 at_24 rfl rfl ?_
      refine miloadN 26 G4 at_25 rfl rfl ?_
      refine mi2d 27 G4 at_26 rfl ?_
      refine X4.ldc2DoubleC hx hown (mvT hZ (wd hw 4 rfl)) (g := (mkF m 27 #[iv p0, iv p1, iv p2, iv x1, iv x2, iv x3, .unset, .unset, .unset, .unset, .unset, .unset, .unset, .unset, .unset] [(.double (FP.i2d x1)), (.ref b4), (.ref b4)])) rfl (hb hby at_27) _ ?_
      show Steps p.tables e below (T4.setTop (mkF m 30 #[iv p0, iv p1, iv p2, iv x1, iv x2, iv x3, .unset, .unset, .unset, .unset, .unset, .unset, .unset, .unset, .unset] [(.double (4620693217682128896 : UInt64)), (.double (FP.i2d x1)), (.ref b4), (.ref b4)])) _
      refine mddiv 31 G4 at_30 (own_rm0_hn30 p0 p1 p2 x1 hx1 x2 hx2 x3 hx3) rfl ?_
      refine miload 33 G4 at_31 rfl rfl ?_
      refine mi2d 34 G4 at_33 rfl ?_
      refine X4.ldc2DoubleC hx hown (mvT hZ (wd hw 4 rfl)) (g := (mkF m 34 #[iv p0, iv p1, iv p2, iv x1, iv x2, iv x3, .unset, .unset, .unset, .unset, .unset, .unset, .unset, .unset, .unset] [(.double (FP.i2d x2)), (.double (FP.ddiv (FP.i2d x1) (4620693217682128896 : UInt64))), (.ref b4), (.ref b4)])) rfl (hb hby at_34) _ ?_
      show Steps p.tables e below (T4.setTop (mkF m 37 #[iv p0, iv p1, iv p2, iv x1, iv x2, iv x3, .unset, .unset, .unset, .unset, .unset, .unset, .unset, .unset, .unset] [(.double (4620693217682128896 : UInt64)), (.double (FP.i2d x2)), (.double (FP.ddiv (FP.i2d x1) (4620693217682128896 : UInt64))), (.ref b4), (.ref b4)])) _
      refine mddiv 38 G4 at_37 (own_rm0_hn37 p0 p1 p2 x1 hx1 x2 hx2 x3 hx3) rfl ?_
      refine miload 40 G4 at_38 rfl rfl ?_
      refine mi2d 41 G4 at_40 rfl ?_
      refine X4.ldc2DoubleC hx hown (mvT hZ (wd hw 4 rfl)) (g := (mkF m 41 #[iv p0, iv p1, iv p2, iv x1, iv x2, iv x3, .unset, .unset, .unset, .unset, .unset, .unset, .unset, .unset, .unset] [(.double (FP.i2d x3)), (.double (FP.ddiv (FP.i2d x2) (4620693217682128896 : UInt64))), (.double (FP.ddiv (FP.i2d x1) (4620693217682128896 : UInt64))), (.ref b4), (.ref b4)])) rfl (hb hby at_41) _ ?_
      show Steps p.tables e below (T4.setTop (mkF m 44 #[iv p0, iv p1, iv p2, iv x1, iv x2, iv x3, .unset, .unset, .unset, .unset, .unset, .unset, .unset, .unset, .unset] [(.double (4620693217682128896 : UInt64)), (.double (FP.i2d x3)), (.double (FP.ddiv (FP.i2d x2) (4620693217682128896 : UInt64))), (.double (FP.ddiv (FP.i2d x1) (4620693217682128896 : UInt64))), (.ref b4), (.ref b4)])) _
      refine mddiv 45 G4 at_44 (own_rm0_hn44 p0 p1 p2 x1 hx1 x2 hx2 x3 hx3) rfl ?_
      refine st5.trans ?_
      show Steps p.tables e below (T5.setTop (mkF m 48 #[iv p0, iv p1, iv p2, iv x1, iv x2, iv x3, .unset, .unset, .unset, .unset, .unset, .unset, .unset, .unset, .unset] [(.ref b4)])) _
      refine mastore 50 G5 at_48 rfl #[iv p0, iv p1, iv p2, iv x1, iv x2, iv x3, rv b4, .unset, .unset, .unset, .unset, .unset, .unset, .unset, .unset] rfl rfl ?_
      refine maload 52 G5 at_50 rfl rfl rfl ?_
      refine st11.trans ?_
      show Steps p.tables e below (T11.setTop (mkF m 55 #[iv p0, iv p1, iv p2, iv x1, iv x2, iv x3, rv b4, .unset, .unset, .unset, .unset, .unset, .unset, .unset, .unset] [(.double (rv4 (FP.ddiv (FP.i2d x1) (4620693217682128896 : UInt64)) (FP.ddiv (FP.i2d x2) (4620693217682128896 : UInt64)) (FP.ddiv (FP.i2d x3) (4620693217682128896 : UInt64))))])) _
      refine castTop (g' := (mkF m 55 #[iv p0, iv p1, iv p2, iv x1, iv x2, iv x3, rv b4, .unset, .unset, .unset, .unset, .unset, .unset, .unset, .unset] [(.double x12)])) (by rw [hx12]) ?_
      refine mdstore 57 G11 at_55 #[iv p0, iv p1, iv p2, iv x1, iv x2, iv x3, rv b4, dv x12, .second, .unset, .unset, .unset, .unset, .unset, .unset] rfl rfl ?_
      refine miconst 58 G11 at_57 (v := (2 : Int32)) rfl rfl ?_
      refine miloadN 59 G11 at_58 rfl rfl ?_
      refine mimul 60 G11 at_59 rfl rfl ?_
      refine castTop (g' := (mkF m 60 #[iv p0, iv p1, iv p2, iv x1, iv x2, iv x3, rv b4, dv x12, .second, .unset, .unset, .unset, .unset, .unset, .unset] [(.int x13)])) (by rw [hx13]) ?_
      refine mistore 62 G11 at_60 #[iv p0, iv p1, iv p2, iv x1, iv x2, iv x3, rv b4, dv x12, .second, iv x13, .unset, .unset, .unset, .unset, .unset] rfl rfl ?_
      refine miload 64 G11 at_62 rfl rfl ?_
      refine miload 66 G11 at_64 rfl rfl ?_
      refine miadd 67 G11 at_66 rfl rfl ?_
      refine castTop (g' := (mkF m 67 #[iv p0, iv p1, iv p2, iv x1, iv x2, iv x3, rv b4, dv x12, .second, iv x13, .unset, .unset, .unset, .unset, .unset] [(.int x14)])) (by rw [hx14]) ?_
      refine mistore 69 G11 at_67 #[iv p0, iv p1, iv p2, iv x1, iv x2, iv x3, rv b4, dv x12, .second, iv x13, iv x14, .unset, .unset, .unset, .unset] rfl rfl ?_
      refine miload 71 G11 at_69 rfl rfl ?_
      refine mifYes 87 G11 at_71 ((if0 _ _).trans (feq hc71_15).2) (by decide) rfl ?_
      refine mdload 89 G11 at_87 rfl rfl ?_
      refine miload 91 G11 at_89 rfl rfl ?_
      refine mi2d 92 G11 at_91 rfl ?_
      refine miload 94 G11 at_92 rfl rfl ?_
      refine mi2d 95 G11 at_94 rfl ?_
      refine mddiv 96 G11 at_95 (own_rm0_hn95 p0 p1 p2 x1 hx1 x2 hx2 x3 hx3 x12 hx12 x13 hx13 x14 hx14 hc71_15) rfl ?_
      refine mdcmp 97 G11 at_96 rfl ?_
      refine st20 _ ?_
      refine mistore 107 G20 at_105 #[iv p0, iv p1, iv p2, iv x1, iv x2, iv x3, rv b4, dv x12, .second, iv x13, iv x14, iv x21, .unset, .unset, .unset] rfl rfl ?_
      refine mdconst0 108 G20 at_107 (v := (0 : UInt64)) rfl rfl ?_
      refine mdload 110 G20 at_108 rfl rfl ?_
      refine mdcmp 111 G20 at_110 rfl ?_
      refine st23 _ ?_
      refine mistore 128 G23 at_126 #[iv p0, iv p1, iv p2, iv x1, iv x2, iv x3, rv b4, dv x12, .second, iv x13, iv x14, iv x21, iv x24, .unset, .unset] rfl rfl ?_
      refine mdload 130 G23 at_128 rfl rfl ?_
      refine mdconst1 131 G23 at_130 (v := (4607182418800017408 : UInt64)) rfl rfl ?_
      refine mdcmp 132 G23 at_131 rfl ?_
      refine st27 _ ?_
      refine miloadN 141 G27 at_140 rfl rfl ?_
      refine miload 143 G27 at_141 rfl rfl ?_
      refine st30 _ ?_
      refine st34 _ ?_
      refine mistore 167 G34 at_165 #[iv p0, iv p1, iv p2, iv x1, iv x2, iv x3, rv b4, dv x12, .second, iv x13, iv x14, iv x21, iv x24, iv x35, .unset] rfl rfl ?_
      refine mdload 169 G34 at_167 rfl rfl ?_
      refine mdconst0 170 G34 at_169 (v := (0 : UInt64)) rfl rfl ?_
      refine mdcmp 171 G34 at_170 rfl ?_
      refine st37 _ ?_
      refine miloadN 180 G37 at_179 rfl rfl ?_
      refine st40 _ ?_
      refine st43 _ ?_
      refine mistore 198 G43 at_196 #[iv p0, iv p1, iv p2, iv x1, iv x2, iv x3, rv b4, dv x12, .second, iv x13, iv x14, iv x21, iv x24, iv x35, iv x44] rfl rfl ?_
      refine miload 200 G43 at_198 rfl rfl ?_
      refine st46 _ ?_
      refine castTop (g' := (mkF m 223 #[iv p0, iv p1, iv p2, iv x1, iv x2, iv x3, rv b4, dv x12, .second, iv x13, iv x14, iv x21, iv x24, iv x35, iv x44] [(.int (1 : Int32))])) (by rw [hend]) ?_
      exact retN X46 hx (t := .boolean) Bd.returns (by simp) (hb hby at_223) hr
    · show Q0 Z p0 p1 p2 h0 n0 _ T46.heap _
      rw [e46]
      exact ⟨rfl, N5⟩
set_option maxRecDepth 65536 in
set_option maxHeartbeats 40000000 in
theorem comes_1 {Post : Tables → Env → Array Value → State → Outcome → State → Prop} (hpost : ∀ tb e args s v u, (limb_1_1.after args s (.returned v) u = true ∧ limb_1_2.after args s (.returned v) u = true ∧ True) → FrameEnd s (.returned v) u (Jvm.fieldLocs frame_1_writes args s ++ Jvm.arrayLocs frame_1_arrays args s ++ Jvm.staticLocs frame_1_statics s) 16 128 → Post tb e args s (.returned v) u) :
    ArmFor flags0 classFile x code maxLocals ret World_1 tables_1 room_1 Calls_1 rest_1 Pre_1 Post := by
  intro l hfl _ _ p e ha hc hk s m args below hf hA hF happ hP
  obtain ⟨hcalls, hrest, hpre⟩ := hP
  obtain ⟨-, -, -, hnamed, -, -, -, hat⟩ := (Spec.applies_iff hf).mp happ
  obtain ⟨hg, hn⟩ := and_e (Cond.before_iff.mp (show (Jvm.Cond.and given_1 narrow_1).before args s = true from hpre))
  obtain ⟨g1, g2⟩ := and_e hg
  obtain ⟨g3, g4⟩ := and_e g2
  obtain ⟨g5, g6⟩ := and_e g4
  obtain ⟨w0, w1, w2, rfl⟩ : ∃ w0 w1 w2 : Value, args = #[w0, w1, w2] := by
    have hs : args.size = 3 := by simpa [Cond.value, given_1] using g1
    obtain ⟨L⟩ := args
    match L, hs with
    | [w0, w1, w2], _ => exact ⟨w0, w1, w2, rfl⟩
  have hw := fun d (hd : d ∈ tables_1) => atoms_spec (ws := Jvm.Cond.code x code maxLocals ret :: tables_1) hat d (List.mem_cons_of_mem _ hd)
  have hfit : Fit s := fun {y c} hc i hi => by
    obtain ⟨ha, rfl⟩ := Array.getElem?_eq_some_iff.mp hc
    have q := List.all_eq_true.mp ((Array.all_eq_true_iff_forall_mem.mp hF) _ (Array.getElem_mem ha)) i (List.mem_range.mpr hi)
    simpa [Array.getElem?_eq_getElem hi] using q
  obtain ⟨i0, ei0⟩ := is_v g3
  obtain rfl : w0 = (.int i0) := Option.some.inj ei0
  obtain ⟨i1, ei1⟩ := is_v g5
  obtain rfl : w1 = (.int i1) := Option.some.inj ei1
  obtain ⟨i2, ei2⟩ := is_v g6
  obtain rfl : w2 = (.int i2) := Option.some.inj ei2
  obtain ⟨n, o, h1, h2, h3, _, L, rfl, ⟨rfl, N⟩, hq⟩ := rm0 l s _ hw tables_1 i0 i1 i2 s.heap s.heap.size (Nat.le_refl _)  p e ha hc hk s m _ below hf ((Spec.applies_iff_loose hf).mp happ).1 ⟨rfl, State.Warmed39.refl s, rfl⟩ trivial
  refine ⟨n, _, h1, h2, h3, hpost _ _ _ _ _ _ ⟨Cond.after_iff.mpr rfl, Cond.after_iff.mpr (eq_i res_at (Term.int_eval (1)) rfl), trivial⟩ ⟨hq.1, hq.2.1, (hq.2.2.sift fun y hy => Or.inr (N y hy)).mono (by decide) (by decide)⟩⟩
theorem main_1_1 : Claimed_1_1 := comes_1 fun _ _ _ _ _ _ h hF => ⟨h.1, hF⟩
theorem main_1_2 : Claimed_1_2 := comes_1 fun _ _ _ _ _ _ h hF => ⟨h.2.1, hF⟩
end Jvm.Pilot.@@N@@
namespace Jvm.Pilot.@@N@@
open Jvm Jvm.ClassFile Sem Op Lib Jvm.Free Jvm.Stand Jvm.Pilot.@@N@@.Jvm.D
/-! MADE BY PROGRAM (witnessworld.py) out of the Statement's table words and the real class files: 11 classes; the members and pool entries that the words name. The judged class is class 1, her method 1. -/
namespace start1
open Jvm.ClassFile
def u (s : String) : CpInfo := .utf8 (stringToUtf16 s)
/-- a pool by its gaps: so many unusable entries, then the entry; so many at the end -/
def gap : Nat → List CpInfo → List CpInfo
  | 0, r => r
  | n + 1, r => .unusable :: gap n r
def poolList (es : List (Nat × CpInfo)) (last : Nat) : List CpInfo := es.foldr (fun e r => gap e.1 (e.2 :: r)) (gap last [])
def pool (es : List (Nat × CpInfo)) (last : Nat) : Array CpInfo := ⟨poolList es last⟩
def fileOf (pool : Array CpInfo) (this : Nat) (attrs : Array Attribute := #[]) (ms : Array MethodInfo := #[]) (fl : Nat := 33) (sup : Nat := 0) (ifs : Array Nat := #[]) (fds : Array FieldInfo := #[]) : ClassFile where
  minorVersion := 0
  majorVersion := 65
  constantPool := pool
  accessFlags := fl
  thisClass := this
  superClass := sup
  interfaces := ifs
  fields := fds
  methods := ms
  attributes := attrs
def plain (name : String) (sup : Option ClassId) : Class where
  name := name
  kind := .ordinary
  loader := none
  accessFlags := 33
  super := sup
  interfaces := #[]
  cf := none
  fields := #[]
  methods := #[]
  instanceTypes := #[]
  staticTypes := #[]
  resolved := #[]
  callSites := []
  init := .initialized
  statics := none
  mirror := none

def pool0 : Array CpInfo := pool [(5, u "<init>"), (0, u "()V"), (1, .class_ 10), (1, u "java/lang/Object")] 113

def k0c0 : Code := { maxStack := 0, maxLocals := 1, code := object_method_1_code, exceptionTable := #[], attributes := #[] }
def k0m0 : Method := { name := "<init>", desc := "()V", sig := { parameters := [], returnType := none }, accessFlags := 1, code := some k0c0 }
/-- java/lang/Object -/
def k0 : Class := { plain "java/lang/Object" none with
  accessFlags := 33
  interfaces := #[]
  cf := some (fileOf pool0 8 #[] #[{ accessFlags := 1, nameIndex := 5, descriptorIndex := 6, attributes := #[] }] 33 0 #[] #[])
  fields := #[]
  methods := #[k0m0]
  instanceTypes := #[]
  staticTypes := #[]
  resolved := Array.replicate 124 none
  statics := none }

def pool1 : Array CpInfo := pool [(2, .class_ 4), (1, u "java/lang/Object"), (0, u "<init>"), (0, u "()V"), (0, .integer 65535), (0, .class_ 9), (0, u "com/example/queries_into_facets/queriesintofacets/measures/Agreement"), (0, .double 4620693217682128896), (1, .methodref 8 13), (0, .nameAndType 5 14), (0, u "(DDD)V"), (0, .methodref 8 16), (0, .nameAndType 17 18), (0, u "f1"), (0, u "()D"), (0, .class_ 20), (0, u "com/example/queries_into_facets/queriesintofacets/measures/AgreementF1PinLaw"), (2, u "law"), (0, u "(III)Z")] 3

def k1m0 : Method := { name := "<init>", desc := "()V", sig := { parameters := [], returnType := none }, accessFlags := 1, code := none }
def k1c1 : Code := { maxStack := 10, maxLocals := 15, code := code, exceptionTable := #[], attributes := #[] }
def k1m1 : Method := { name := "law", desc := "(III)Z", sig := { parameters := [.int, .int, .int], returnType := some .boolean }, accessFlags := 9, code := some k1c1 }
/-- com/example/queries_into_facets/queriesintofacets/measures/AgreementF1PinLaw -/
def k1 : Class := { plain "com/example/queries_into_facets/queriesintofacets/measures/AgreementF1PinLaw" (some 0) with
  accessFlags := 49
  interfaces := #[]
  cf := some (fileOf pool1 19 #[] #[{ accessFlags := 1, nameIndex := 5, descriptorIndex := 6, attributes := #[] }, { accessFlags := 9, nameIndex := 23, descriptorIndex := 24, attributes := #[] }] 49 2 #[] #[])
  fields := #[]
  methods := #[k1m0, k1m1]
  instanceTypes := #[]
  staticTypes := #[]
  resolved := Array.replicate 28 none
  statics := none }

def pool2 : Array CpInfo := pool [(1, .methodref 2 3), (0, .class_ 4), (0, .nameAndType 5 6), (0, u "java/lang/Object"), (0, u "<init>"), (0, u "()V"), (0, .class_ 8), (0, u "java/lang/Record")] 13

def k2c0 : Code := { maxStack := 1, maxLocals := 1, code := jdk_30_method_1_code, exceptionTable := #[], attributes := #[] }
def k2m0 : Method := { name := "<init>", desc := "()V", sig := { parameters := [], returnType := none }, accessFlags := 4, code := some k2c0 }
/-- java/lang/Record -/
def k2 : Class := { plain "java/lang/Record" (some 0) with
  accessFlags := 1057
  interfaces := #[]
  cf := some (fileOf pool2 7 #[] #[{ accessFlags := 4, nameIndex := 5, descriptorIndex := 6, attributes := #[] }] 1057 2 #[] #[])
  fields := #[]
  methods := #[k2m0]
  instanceTypes := #[]
  staticTypes := #[]
  resolved := Array.replicate 22 none
  statics := none }

def pool3 : Array CpInfo := pool [(1, .methodref 2 3), (0, .class_ 4), (0, .nameAndType 5 6), (0, u "java/lang/Record"), (0, u "<init>"), (0, u "()V"), (0, .fieldref 8 9), (0, .class_ 10), (0, .nameAndType 11 12), (0, u "com/example/queries_into_facets/queriesintofacets/measures/Agreement"), (0, u "common"), (0, u "D"), (0, .fieldref 8 14), (0, .nameAndType 15 12), (0, u "system"), (0, .fieldref 8 17), (0, .nameAndType 18 12), (0, u "truth"), (31, u "()D"), (2, u "(DDD)V"), (0, .methodref 55 56), (0, .class_ 57), (0, .nameAndType 58 59), (0, u "com/example/queries_into_facets/queriesintofacets/measures/FacetMeasures"), (0, u "ratio"), (0, u "(DD)D"), (0, .double 4611686018427387904), (22, u "f1")] 39

def k3c0 : Code := { maxStack := 3, maxLocals := 7, code := prog_31_method_1_code, exceptionTable := #[], attributes := #[] }
def k3m0 : Method := { name := "<init>", desc := "(DDD)V", sig := { parameters := [.double, .double, .double], returnType := none }, accessFlags := 0, code := some k3c0 }
def k3c1 : Code := { maxStack := 6, maxLocals := 1, code := prog_31_method_5_code, exceptionTable := #[], attributes := #[] }
def k3m1 : Method := { name := "f1", desc := "()D", sig := { parameters := [], returnType := some .double }, accessFlags := 0, code := some k3c1 }
/-- com/example/queries_into_facets/queriesintofacets/measures/Agreement -/
def k3 : Class := { plain "com/example/queries_into_facets/queriesintofacets/measures/Agreement" (some 2) with
  accessFlags := 48
  interfaces := #[]
  cf := some (fileOf pool3 8 #[] #[{ accessFlags := 0, nameIndex := 5, descriptorIndex := 53, attributes := #[] }, { accessFlags := 0, nameIndex := 83, descriptorIndex := 50, attributes := #[] }] 48 2 #[] #[{ accessFlags := 18, nameIndex := 11, descriptorIndex := 12, attributes := #[] }, { accessFlags := 18, nameIndex := 15, descriptorIndex := 12, attributes := #[] }, { accessFlags := 18, nameIndex := 18, descriptorIndex := 12, attributes := #[] }])
  fields := #[{ name := "common", type := .double, accessFlags := 18, slot := 0, constantValue := 0 }, { name := "system", type := .double, accessFlags := 18, slot := 1, constantValue := 0 }, { name := "truth", type := .double, accessFlags := 18, slot := 2, constantValue := 0 }]
  methods := #[k3m0, k3m1]
  instanceTypes := #[.double, .double, .double]
  staticTypes := #[]
  resolved := Array.replicate 123 none
  statics := none }

def pool4 : Array CpInfo := pool [(2, .class_ 4), (1, u "java/lang/Record"), (3, .class_ 10), (1, u "com/example/queries_into_facets/queriesintofacets/measures/FacetMeasures"), (0, u "termPrecision"), (0, u "D"), (2, u "termRecall"), (2, u "termF1"), (2, u "pairPrecision"), (2, u "pairRecall"), (2, u "pairF1"), (2, u "prf"), (2, u "weightedTermPrecision"), (2, u "weightedTermRecall"), (2, u "weightedTermF1"), (2, u "weightedPairPrecision"), (2, u "weightedPairRecall"), (2, u "weightedPairF1"), (2, u "weightedPrf"), (2, u "purity"), (2, u "nmi"), (2, u "fpNdcg"), (2, u "rpNdcg"), (2, u "f1Ndcg"), (16, u "ratio"), (0, u "(DD)D")] 43

def k4c0 : Code := { maxStack := 4, maxLocals := 4, code := prog_35_method_2_code, exceptionTable := #[], attributes := #[] }
def k4m0 : Method := { name := "ratio", desc := "(DD)D", sig := { parameters := [.double, .double], returnType := some .double }, accessFlags := 8, code := some k4c0 }
/-- com/example/queries_into_facets/queriesintofacets/measures/FacetMeasures -/
def k4 : Class := { plain "com/example/queries_into_facets/queriesintofacets/measures/FacetMeasures" (some 2) with
  accessFlags := 49
  interfaces := #[]
  cf := some (fileOf pool4 8 #[] #[{ accessFlags := 8, nameIndex := 83, descriptorIndex := 84, attributes := #[] }] 49 2 #[] #[{ accessFlags := 18, nameIndex := 11, descriptorIndex := 12, attributes := #[] }, { accessFlags := 18, nameIndex := 15, descriptorIndex := 12, attributes := #[] }, { accessFlags := 18, nameIndex := 18, descriptorIndex := 12, attributes := #[] }, { accessFlags := 18, nameIndex := 21, descriptorIndex := 12, attributes := #[] }, { accessFlags := 18, nameIndex := 24, descriptorIndex := 12, attributes := #[] }, { accessFlags := 18, nameIndex := 27, descriptorIndex := 12, attributes := #[] }, { accessFlags := 18, nameIndex := 30, descriptorIndex := 12, attributes := #[] }, { accessFlags := 18, nameIndex := 33, descriptorIndex := 12, attributes := #[] }, { accessFlags := 18, nameIndex := 36, descriptorIndex := 12, attributes := #[] }, { accessFlags := 18, nameIndex := 39, descriptorIndex := 12, attributes := #[] }, { accessFlags := 18, nameIndex := 42, descriptorIndex := 12, attributes := #[] }, { accessFlags := 18, nameIndex := 45, descriptorIndex := 12, attributes := #[] }, { accessFlags := 18, nameIndex := 48, descriptorIndex := 12, attributes := #[] }, { accessFlags := 18, nameIndex := 51, descriptorIndex := 12, attributes := #[] }, { accessFlags := 18, nameIndex := 54, descriptorIndex := 12, attributes := #[] }, { accessFlags := 18, nameIndex := 57, descriptorIndex := 12, attributes := #[] }, { accessFlags := 18, nameIndex := 60, descriptorIndex := 12, attributes := #[] }, { accessFlags := 18, nameIndex := 63, descriptorIndex := 12, attributes := #[] }, { accessFlags := 18, nameIndex := 66, descriptorIndex := 12, attributes := #[] }])
  fields := #[{ name := "termPrecision", type := .double, accessFlags := 18, slot := 0, constantValue := 0 }, { name := "termRecall", type := .double, accessFlags := 18, slot := 1, constantValue := 0 }, { name := "termF1", type := .double, accessFlags := 18, slot := 2, constantValue := 0 }, { name := "pairPrecision", type := .double, accessFlags := 18, slot := 3, constantValue := 0 }, { name := "pairRecall", type := .double, accessFlags := 18, slot := 4, constantValue := 0 }, { name := "pairF1", type := .double, accessFlags := 18, slot := 5, constantValue := 0 }, { name := "prf", type := .double, accessFlags := 18, slot := 6, constantValue := 0 }, { name := "weightedTermPrecision", type := .double, accessFlags := 18, slot := 7, constantValue := 0 }, { name := "weightedTermRecall", type := .double, accessFlags := 18, slot := 8, constantValue := 0 }, { name := "weightedTermF1", type := .double, accessFlags := 18, slot := 9, constantValue := 0 }, { name := "weightedPairPrecision", type := .double, accessFlags := 18, slot := 10, constantValue := 0 }, { name := "weightedPairRecall", type := .double, accessFlags := 18, slot := 11, constantValue := 0 }, { name := "weightedPairF1", type := .double, accessFlags := 18, slot := 12, constantValue := 0 }, { name := "weightedPrf", type := .double, accessFlags := 18, slot := 13, constantValue := 0 }, { name := "purity", type := .double, accessFlags := 18, slot := 14, constantValue := 0 }, { name := "nmi", type := .double, accessFlags := 18, slot := 15, constantValue := 0 }, { name := "fpNdcg", type := .double, accessFlags := 18, slot := 16, constantValue := 0 }, { name := "rpNdcg", type := .double, accessFlags := 18, slot := 17, constantValue := 0 }, { name := "f1Ndcg", type := .double, accessFlags := 18, slot := 18, constantValue := 0 }]
  methods := #[k4m0]
  instanceTypes := #[.double, .double, .double, .double, .double, .double, .double, .double, .double, .double, .double, .double, .double, .double, .double, .double, .double, .double, .double]
  staticTypes := #[]
  resolved := Array.replicate 128 none
  statics := none }

def pool5 : Array CpInfo := pool [(1, u "java/lang/Cloneable"), (0, .class_ 1), (0, u "java/lang/Object"), (0, .class_ 3)] 3

/-- java/lang/Cloneable -/
def k5 : Class := { plain "java/lang/Cloneable" (some 0) with
  accessFlags := 1537
  interfaces := #[]
  cf := some (fileOf pool5 2 #[] #[] 1537 4 #[] #[])
  fields := #[]
  methods := #[]
  instanceTypes := #[]
  staticTypes := #[]
  resolved := Array.replicate 8 none
  statics := none }

def pool6 : Array CpInfo := pool [(1, u "java/io/Serializable"), (0, .class_ 1), (0, u "java/lang/Object"), (0, .class_ 3)] 3

/-- java/io/Serializable -/
def k6 : Class := { plain "java/io/Serializable" (some 0) with
  accessFlags := 1537
  interfaces := #[]
  cf := some (fileOf pool6 2 #[] #[] 1537 4 #[] #[])
  fields := #[]
  methods := #[]
  instanceTypes := #[]
  staticTypes := #[]
  resolved := Array.replicate 8 none
  statics := none }

/-- the primitive byte -/
def k7 : Class := { plain "byte" none with kind := .primitive 'B', accessFlags := 0x411 }
/-- [B -/
def k8 : Class := { plain "[B" (some 0) with kind := .array 7 .byte, interfaces := #[5, 6], accessFlags := 1041 }

/-- the primitive int -/
def k9 : Class := { plain "int" none with kind := .primitive 'I', accessFlags := 0x411 }
/-- [I -/
def k10 : Class := { plain "[I" (some 0) with kind := .array 9 .int, interfaces := #[5, 6], accessFlags := 1041 }

def heap : Heap := #[]
def classes : Array Class := #[k0, k1, k2, k3, k4, k5, k6, k7, k8, k9, k10]
def interned : List (Array UInt16 × Addr) := []
def slotsUsed : Nat := 0
def theMethod : MethodId := ⟨1, 1⟩
def args0 : Array Value := #[.int 5, .int 5, .int 5]
def aboutOver (below : List Frame) : State where
  vm := { classes := classes, interned := interned.toArray }
  heap := heap
  slotsUsed := slotsUsed
  threads := #[{ frames := .invoking theMethod args0 :: below }]
def below0 : List Frame := [.native { method := ⟨0, 0⟩, args := #[] }]
def about1 : State := aboutOver below0
def p0 : Program := .bare "" "" ""
def e0 : Env := launch0.env 0 0 0
theorem w_frames : about1.frames = Frame.invoking theMethod args0 :: below0 := rfl
set_option maxRecDepth 65536 in
theorem w_args : argsFit about1.vm theMethod args0 = true := by decide +kernel
set_option maxRecDepth 65536 in
theorem w_heap : heapFits about1 = true := by decide +kernel
set_option maxRecDepth 65536 in
theorem w_runnable : about1.curStatus? = some .runnable := by decide +kernel
set_option maxRecDepth 65536 in
theorem w_alone : about1.alone = true := by decide +kernel
set_option maxRecDepth 65536 in
theorem w_named : about1.methodNamed? x = some theMethod := by decide +kernel
set_option maxRecDepth 65536 in
theorem w_hears : about1.hears theMethod below0 = true := by decide +kernel
set_option maxRecDepth 65536 in
theorem w_ripe : about1.ripe theMethod args0 below0 = true := by decide +kernel
theorem w_running : about1.status = .running := rfl
set_option maxRecDepth 65536 in
theorem w_room : about1.hasRoom e0.platform room_1 = true :=
  launch0.hasRoom_least _ room_1 (by decide +kernel) (by decide +kernel) (by decide +kernel) (by decide +kernel) (by decide +kernel) (by decide +kernel)
theorem allAtoms_all (ts : List Jvm.Cond) (a : Array Jvm.Value) (st : Jvm.State) : (allAtoms ts).before a st = ts.all (fun c => c.before a st) := by
  induction ts with
  | nil => rfl
  | cons c t ih =>
    show (Jvm.Cond.and c (allAtoms t)).before a st = _
    rw [Jvm.Cond.before_and, ih, List.all_cons]
def words1 : List Jvm.Cond := Jvm.Cond.code x code maxLocals ret :: tables_1
/-- a 'code' word, met by the world's own term for the bytes: nothing is compared byte by byte -/
theorem code_word {y : MethodName} {bytes : ByteArray} {mx : Nat} {rt : Option FieldType} {a : Array Value} {s : State} {m : MethodId} {meth : Method} {c : Code} (h1 : s.methodNamed? y = some m) (h2 : s.vm.method? m = some meth) (h3 : meth.code = some c) (h4 : c.code = bytes)
    (h5 : (c.maxLocals == mx && c.exceptionTable.isEmpty && decide (c.maxStack ≤ mostOperands) && decide (meth.sig.returnType = rt) && !meth.locks && decide (parseMethodDescriptor y.desc = some meth.sig)) = true) : (Jvm.Cond.code y bytes mx rt).before a s = true := by
  simp only [Bool.and_eq_true, beq_iff_eq, Bool.not_eq_true', decide_eq_true_eq] at h5
  obtain ⟨⟨⟨⟨⟨g1, g2⟩, g3⟩, g4⟩, g5⟩, g6⟩ := h5
  simp [Cond.before, Cond.holds, Cond.value, h1, h2, h3, h4, g1, g2, g3, g4, g5, g6]
def isCode : Jvm.Cond → Bool
  | .code _ _ _ _ => true
  | _ => false
theorem all_split {L : List Jvm.Cond} {P : Jvm.Cond → Bool} (h1 : L.all (fun c => isCode c || P c) = true) (h2 : ∀ c ∈ L.filter isCode, P c = true) : L.all P = true := by
  refine List.all_eq_true.mpr fun c hc => ?_
  have h := List.all_eq_true.mp h1 c hc
  rcases Bool.eq_false_or_eq_true (isCode c) with hi | hi
  · exact h2 c (List.mem_filter.mpr ⟨hc, hi⟩)
  · simpa [hi] using h
set_option maxRecDepth 65536 in
theorem w_c0 : (Jvm.Cond.code x code maxLocals ret).before args0 about1 = true := code_word (m := ⟨1, 1⟩) (meth := k1m1) (c := k1c1) (by decide +kernel) rfl rfl rfl (by decide +kernel)
set_option maxRecDepth 65536 in
theorem w_c1 : (Jvm.Cond.code ({ cls := "com/example/queries_into_facets/queriesintofacets/measures/Agreement", name := "<init>", desc := "(DDD)V" } : Jvm.MethodName) prog_31_method_1_code (7 : Nat) (Option.none : Option Jvm.ClassFile.FieldType)).before args0 about1 = true := code_word (m := ⟨3, 0⟩) (meth := k3m0) (c := k3c0) (by decide +kernel) rfl rfl rfl (by decide +kernel)
set_option maxRecDepth 65536 in
theorem w_c2 : (Jvm.Cond.code ({ cls := "java/lang/Record", name := "<init>", desc := "()V" } : Jvm.MethodName) jdk_30_method_1_code (1 : Nat) (Option.none : Option Jvm.ClassFile.FieldType)).before args0 about1 = true := code_word (m := ⟨2, 0⟩) (meth := k2m0) (c := k2c0) (by decide +kernel) rfl rfl rfl (by decide +kernel)
set_option maxRecDepth 65536 in
theorem w_c3 : (Jvm.Cond.code ({ cls := "java/lang/Object", name := "<init>", desc := "()V" } : Jvm.MethodName) object_method_1_code (1 : Nat) (Option.none : Option Jvm.ClassFile.FieldType)).before args0 about1 = true := code_word (m := ⟨0, 0⟩) (meth := k0m0) (c := k0c0) (by decide +kernel) rfl rfl rfl (by decide +kernel)
set_option maxRecDepth 65536 in
theorem w_c4 : (Jvm.Cond.code ({ cls := "com/example/queries_into_facets/queriesintofacets/measures/Agreement", name := "f1", desc := "()D" } : Jvm.MethodName) prog_31_method_5_code (1 : Nat) (Option.some Jvm.ClassFile.FieldType.double)).before args0 about1 = true := code_word (m := ⟨3, 1⟩) (meth := k3m1) (c := k3c1) (by decide +kernel) rfl rfl rfl (by decide +kernel)
set_option maxRecDepth 65536 in
theorem w_c5 : (Jvm.Cond.code ({ cls := "com/example/queries_into_facets/queriesintofacets/measures/FacetMeasures", name := "ratio", desc := "(DD)D" } : Jvm.MethodName) prog_35_method_2_code (4 : Nat) (Option.some Jvm.ClassFile.FieldType.double)).before args0 about1 = true := code_word (m := ⟨4, 0⟩) (meth := k4m0) (c := k4c0) (by decide +kernel) rfl rfl rfl (by decide +kernel)
def codes1 : List Jvm.Cond := [Jvm.Cond.code x code maxLocals ret, Jvm.Cond.code ({ cls := "com/example/queries_into_facets/queriesintofacets/measures/Agreement", name := "<init>", desc := "(DDD)V" } : Jvm.MethodName) prog_31_method_1_code (7 : Nat) (Option.none : Option Jvm.ClassFile.FieldType), Jvm.Cond.code ({ cls := "java/lang/Record", name := "<init>", desc := "()V" } : Jvm.MethodName) jdk_30_method_1_code (1 : Nat) (Option.none : Option Jvm.ClassFile.FieldType), Jvm.Cond.code ({ cls := "java/lang/Object", name := "<init>", desc := "()V" } : Jvm.MethodName) object_method_1_code (1 : Nat) (Option.none : Option Jvm.ClassFile.FieldType), Jvm.Cond.code ({ cls := "com/example/queries_into_facets/queriesintofacets/measures/Agreement", name := "f1", desc := "()D" } : Jvm.MethodName) prog_31_method_5_code (1 : Nat) (Option.some Jvm.ClassFile.FieldType.double), Jvm.Cond.code ({ cls := "com/example/queries_into_facets/queriesintofacets/measures/FacetMeasures", name := "ratio", desc := "(DD)D" } : Jvm.MethodName) prog_35_method_2_code (4 : Nat) (Option.some Jvm.ClassFile.FieldType.double)]
set_option maxRecDepth 65536 in
theorem codes_eq : words1.filter isCode = codes1 := rfl
theorem w_codes : ∀ c ∈ words1.filter isCode, c.before args0 about1 = true := by
  rw [codes_eq]
  intro c hc
  simp only [codes1, List.mem_cons, List.not_mem_nil, or_false] at hc
  rcases hc with rfl | rfl | rfl | rfl | rfl | rfl
  · exact w_c0
  · exact w_c1
  · exact w_c2
  · exact w_c3
  · exact w_c4
  · exact w_c5
set_option maxRecDepth 65536 in
theorem w_t1 : (words1.take 24).all (fun c => isCode c || c.before args0 about1) = true := by decide +kernel
set_option maxRecDepth 65536 in
theorem w_t2 : (words1.drop 24).all (fun c => isCode c || c.before args0 about1) = true := by decide +kernel
theorem w_tables : (allAtoms (Jvm.Cond.code x code maxLocals ret :: tables_1)).before args0 about1 = true := by
  rw [allAtoms_all]
  show words1.all (fun c => c.before args0 about1) = true
  refine all_split ?_ w_codes
  rw [← List.take_append_drop 24 words1, List.all_append, w_t1, w_t2]
  rfl
set_option maxRecDepth 65536 in
theorem w_case : (Jvm.Cond.and given_1 narrow_1).before args0 about1 = true := by decide +kernel
theorem w_applies : (headSpec (Jvm.Cond.code x code maxLocals ret :: tables_1) room_1).applies x e0.platform about1 = true :=
  (Spec.applies_iff w_frames).mpr ⟨w_running, w_runnable, w_alone, w_named, w_hears, w_ripe, w_room, w_tables⟩
theorem atStart : AtStart classFile x code maxLocals ret World_1 tables_1 room_1 Calls_1 rest_1 Pre_1 launch0 p0 e0 about1 theMethod args0 below0 :=
  ⟨lists_1, trivial, launch0.admits_env _ _ _, launch0.least_env, fairChoices_fair.cas, fairChoices_fair.clock, w_frames, w_args, w_heap, w_applies, trivial, trivial, w_case⟩
end start1
theorem witness_1 : WitnessClaimed_1 := ⟨start1.p0, start1.e0, start1.about1, start1.theMethod, start1.args0, start1.below0, start1.atStart⟩
end Jvm.Pilot.@@N@@
