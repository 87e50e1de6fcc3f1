import JvmDerived
import JvmDerived.Pilot.@@N@@Statement
import JvmDerived.Pilot.@@N@@Code
set_option linter.unusedVariables false
set_option linter.unusedSimpArgs false
namespace Jvm.RoadKit
open Sem ClassFile Op Lib Jvm.Stand Jvm.Free Jvm.LawKit
theorem own_getDI (L : List Int32) (i : Nat) (d : Int32) : (L.map Value.int).getD i (.int d) = .int (L.getD i d) := by simp [List.getD, List.getElem?_map]
theorem own_getDJ (L : List Int64) (i : Nat) (d : Int64) : (L.map Value.long).getD i (.long d) = .long (L.getD i d) := by simp [List.getD, List.getElem?_map]
theorem own_getDD (L : List UInt64) (i : Nat) (d : UInt64) : (L.map Value.double).getD i (.double d) = .double (L.getD i d) := by simp [List.getD, List.getElem?_map]
end Jvm.RoadKit
@@BLOCK:NumsL.lean.txt@@
namespace Jvm.OwnSt
open Sem ClassFile Op Lib Jvm.Free Jvm.Stand Jvm.RoadKit
abbrev lv (x : Int64) : Slot := .val (.long x)
abbrev dv (x : UInt64) : Slot := .val (.double x)
def Gd (tb : Tables) (T : State) (m : MethodId) (c : Code) (below : List Frame) (code : ByteArray) : Prop := At T m c below ∧ tb.exec = Jvm.exec ∧ c.code = code
theorem gd {p : Program} {l : Launch} {e : Env} {R : Room} {s : State} {m : MethodId} {args : Array Value} {below : List Frame} {meth : Method} {c : Code} {T : State} {locs : List Loc} {cells slots : Nat} {code : ByteArray} (X : Stand p l e R s m args below meth c T locs cells slots) (hx : p.tables.exec = Jvm.exec) (hby : c.code = code) : Gd p.tables T m c below code := ⟨X.here, hx, hby⟩
section Steps
variable {tb : Tables} [Ours tb] {e : Env} {below : List Frame} {T target : State} {m : MethodId} {c : Code} {pc : Nat} {L L' : Array Slot} {S : List Value} {code : ByteArray}
theorem miload (pc' : Nat) (G : Gd tb T m c below code) {k : Nat} {v : Int32} (hd : decode code pc = .ok (.iload k, 2)) (hl : L[k]? = some (.val (.int v))) (hp : pc + 2 = pc') (hr : Steps tb e below (T.setTop (mkF m pc' L (.int v :: S))) target) : Steps tb e below (T.setTop (mkF m pc L S)) target := by
  subst hp; exact XS.iload G.1 G.2.1 rfl (hb G.2.2 hd) hl hr
theorem miloadN (pc' : Nat) (G : Gd tb T m c below code) {k : Fin 4} {v : Int32} (hd : decode code pc = .ok (.iload_n k, 1)) (hl : L[k.val]? = some (.val (.int v))) (hp : pc + 1 = pc') (hr : Steps tb e below (T.setTop (mkF m pc' L (.int v :: S))) target) : Steps tb e below (T.setTop (mkF m pc L S)) target := by
  subst hp; exact XS.iloadN G.1 G.2.1 rfl (hb G.2.2 hd) hl hr
theorem mistore (pc' : Nat) (G : Gd tb T m c below code) {k : Nat} {x : Int32} (hd : decode code pc = .ok (.istore k, 2)) (L' : Array Slot) (hl : storeLocals L k (.int x) = some L') (hp : pc + 2 = pc') (hr : Steps tb e below (T.setTop (mkF m pc' L' S)) target) : Steps tb e below (T.setTop (mkF m pc L (.int x :: S))) target := by
  subst hp; exact XS.istore G.1 G.2.1 rfl (hb G.2.2 hd) rfl hl hr
theorem mistoreN (pc' : Nat) (G : Gd tb T m c below code) {k : Fin 4} {x : Int32} (hd : decode code pc = .ok (.istore_n k, 1)) (L' : Array Slot) (hl : storeLocals L k.val (.int x) = some L') (hp : pc + 1 = pc') (hr : Steps tb e below (T.setTop (mkF m pc' L' S)) target) : Steps tb e below (T.setTop (mkF m pc L (.int x :: S))) target := by
  subst hp; exact XS.istoreN G.1 G.2.1 rfl (hb G.2.2 hd) rfl hl hr
theorem mlload (pc' : Nat) (G : Gd tb T m c below code) {k : Nat} {v : Int64} (hd : decode code pc = .ok (.lload k, 2)) (hl : L[k]? = some (.val (.long v))) (hp : pc + 2 = pc') (hr : Steps tb e below (T.setTop (mkF m pc' L (.long v :: S))) target) : Steps tb e below (T.setTop (mkF m pc L S)) target := by
  subst hp; exact XS.lload G.1 G.2.1 rfl (hb G.2.2 hd) hl hr
theorem mlloadN (pc' : Nat) (G : Gd tb T m c below code) {k : Fin 4} {v : Int64} (hd : decode code pc = .ok (.lload_n k, 1)) (hl : L[k.val]? = some (.val (.long v))) (hp : pc + 1 = pc') (hr : Steps tb e below (T.setTop (mkF m pc' L (.long v :: S))) target) : Steps tb e below (T.setTop (mkF m pc L S)) target := by
  subst hp; exact XS.lloadN G.1 G.2.1 rfl (hb G.2.2 hd) hl hr
theorem mlstore (pc' : Nat) (G : Gd tb T m c below code) {k : Nat} {x : Int64} (hd : decode code pc = .ok (.lstore k, 2)) (L' : Array Slot) (hl : storeLocals L k (.long x) = some L') (hp : pc + 2 = pc') (hr : Steps tb e below (T.setTop (mkF m pc' L' S)) target) : Steps tb e below (T.setTop (mkF m pc L (.long x :: S))) target := by
  subst hp; exact XS.lstore G.1 G.2.1 rfl (hb G.2.2 hd) rfl hl hr
theorem mlstoreN (pc' : Nat) (G : Gd tb T m c below code) {k : Fin 4} {x : Int64} (hd : decode code pc = .ok (.lstore_n k, 1)) (L' : Array Slot) (hl : storeLocals L k.val (.long x) = some L') (hp : pc + 1 = pc') (hr : Steps tb e below (T.setTop (mkF m pc' L' S)) target) : Steps tb e below (T.setTop (mkF m pc L (.long x :: S))) target := by
  subst hp; exact XS.lstoreN G.1 G.2.1 rfl (hb G.2.2 hd) rfl hl hr
theorem mdload (pc' : Nat) (G : Gd tb T m c below code) {k : Nat} {v : UInt64} (hd : decode code pc = .ok (.dload k, 2)) (hl : L[k]? = some (.val (.double v))) (hp : pc + 2 = pc') (hr : Steps tb e below (T.setTop (mkF m pc' L (.double v :: S))) target) : Steps tb e below (T.setTop (mkF m pc L S)) target := by
  subst hp; exact XS.dload G.1 G.2.1 rfl (hb G.2.2 hd) hl hr
theorem mdloadN (pc' : Nat) (G : Gd tb T m c below code) {k : Fin 4} {v : UInt64} (hd : decode code pc = .ok (.dload_n k, 1)) (hl : L[k.val]? = some (.val (.double v))) (hp : pc + 1 = pc') (hr : Steps tb e below (T.setTop (mkF m pc' L (.double v :: S))) target) : Steps tb e below (T.setTop (mkF m pc L S)) target := by
  subst hp; exact XS.dloadN G.1 G.2.1 rfl (hb G.2.2 hd) hl hr
theorem mdstore (pc' : Nat) (G : Gd tb T m c below code) {k : Nat} {x : UInt64} (hd : decode code pc = .ok (.dstore k, 2)) (L' : Array Slot) (hl : storeLocals L k (.double x) = some L') (hp : pc + 2 = pc') (hr : Steps tb e below (T.setTop (mkF m pc' L' S)) target) : Steps tb e below (T.setTop (mkF m pc L (.double x :: S))) target := by
  subst hp; exact XS.dstore G.1 G.2.1 rfl (hb G.2.2 hd) rfl hl hr
theorem mdstoreN (pc' : Nat) (G : Gd tb T m c below code) {k : Fin 4} {x : UInt64} (hd : decode code pc = .ok (.dstore_n k, 1)) (L' : Array Slot) (hl : storeLocals L k.val (.double x) = some L') (hp : pc + 1 = pc') (hr : Steps tb e below (T.setTop (mkF m pc' L' S)) target) : Steps tb e below (T.setTop (mkF m pc L (.double x :: S))) target := by
  subst hp; exact XS.dstoreN G.1 G.2.1 rfl (hb G.2.2 hd) rfl hl hr
theorem maload (pc' : Nat) (G : Gd tb T m c below code) {k : Nat} {v : Value} (hd : decode code pc = .ok (.aload k, 2)) (hl : L[k]? = some (.val v)) (hv : v.isRef = true) (hp : pc + 2 = pc') (hr : Steps tb e below (T.setTop (mkF m pc' L (v :: S))) target) : Steps tb e below (T.setTop (mkF m pc L S)) target := by
  subst hp; exact XS.aload G.1 G.2.1 rfl (hb G.2.2 hd) hl hv hr
theorem maloadN (pc' : Nat) (G : Gd tb T m c below code) {k : Fin 4} {v : Value} (hd : decode code pc = .ok (.aload_n k, 1)) (hl : L[k.val]? = some (.val v)) (hv : v.isRef = true) (hp : pc + 1 = pc') (hr : Steps tb e below (T.setTop (mkF m pc' L (v :: S))) target) : Steps tb e below (T.setTop (mkF m pc L S)) target := by
  subst hp; exact XS.aloadN G.1 G.2.1 rfl (hb G.2.2 hd) hl hv hr
theorem mastore (pc' : Nat) (G : Gd tb T m c below code) {k : Nat} {x : Value} (hd : decode code pc = .ok (.astore k, 2)) (hv : x.isRef = true) (L' : Array Slot) (hl : storeLocals L k x = some L') (hp : pc + 2 = pc') (hr : Steps tb e below (T.setTop (mkF m pc' L' S)) target) : Steps tb e below (T.setTop (mkF m pc L (x :: S))) target := by
  subst hp; exact XS.astore G.1 G.2.1 rfl (hb G.2.2 hd) rfl hv hl hr
theorem mastoreN (pc' : Nat) (G : Gd tb T m c below code) {k : Fin 4} {x : Value} (hd : decode code pc = .ok (.astore_n k, 1)) (hv : x.isRef = true) (L' : Array Slot) (hl : storeLocals L k.val x = some L') (hp : pc + 1 = pc') (hr : Steps tb e below (T.setTop (mkF m pc' L' S)) target) : Steps tb e below (T.setTop (mkF m pc L (x :: S))) target := by
  subst hp; exact XS.astoreN G.1 G.2.1 rfl (hb G.2.2 hd) rfl hv hl hr
theorem miconst (pc' : Nat) (G : Gd tb T m c below code) {i : Int} {v : Int32} (hd : decode code pc = .ok (.iconst i, 1)) (hv : Int32.ofInt i = v) (hp : pc + 1 = pc') (hr : Steps tb e below (T.setTop (mkF m pc' L (.int v :: S))) target) : Steps tb e below (T.setTop (mkF m pc L S)) target := by
  subst hp; subst hv; exact XS.iconst G.1 G.2.1 rfl (hb G.2.2 hd) hr
theorem mbipush (pc' : Nat) (G : Gd tb T m c below code) {i : Int} {v : Int32} (hd : decode code pc = .ok (.bipush i, 2)) (hv : (Int8.ofInt i).toInt32 = v) (hp : pc + 2 = pc') (hr : Steps tb e below (T.setTop (mkF m pc' L (.int v :: S))) target) : Steps tb e below (T.setTop (mkF m pc L S)) target := by
  subst hp; subst hv; exact XS.bipush G.1 G.2.1 rfl (hb G.2.2 hd) hr
theorem msipush (pc' : Nat) (G : Gd tb T m c below code) {i : Int} {v : Int32} (hd : decode code pc = .ok (.sipush i, 3)) (hv : (Int16.ofInt i).toInt32 = v) (hp : pc + 3 = pc') (hr : Steps tb e below (T.setTop (mkF m pc' L (.int v :: S))) target) : Steps tb e below (T.setTop (mkF m pc L S)) target := by
  subst hp; subst hv; exact XS.sipush G.1 G.2.1 rfl (hb G.2.2 hd) hr
theorem mlconst (pc' : Nat) (G : Gd tb T m c below code) {k : Fin 2} {v : Int64} (hd : decode code pc = .ok (.lconst k, 1)) (hv : Int64.ofNat k = v) (hp : pc + 1 = pc') (hr : Steps tb e below (T.setTop (mkF m pc' L (.long v :: S))) target) : Steps tb e below (T.setTop (mkF m pc L S)) target := by
  subst hp; subst hv; exact XS.lconst G.1 G.2.1 rfl (hb G.2.2 hd) hr
theorem mdconst0 (pc' : Nat) (G : Gd tb T m c below code) {v : UInt64} (hd : decode code pc = .ok (.dconst 0, 1)) (hv : FP.dconst0 = v) (hp : pc + 1 = pc') (hr : Steps tb e below (T.setTop (mkF m pc' L (.double v :: S))) target) : Steps tb e below (T.setTop (mkF m pc L S)) target := by
  subst hp; exact XS.dconst0 G.1 G.2.1 rfl (hb G.2.2 hd) hv hr
theorem mdconst1 (pc' : Nat) (G : Gd tb T m c below code) {v : UInt64} (hd : decode code pc = .ok (.dconst 1, 1)) (hv : FP.dconst1 = v) (hp : pc + 1 = pc') (hr : Steps tb e below (T.setTop (mkF m pc' L (.double v :: S))) target) : Steps tb e below (T.setTop (mkF m pc L S)) target := by
  subst hp; exact XS.dconst1 G.1 G.2.1 rfl (hb G.2.2 hd) hv hr
theorem maconst_null (pc' : Nat) (G : Gd tb T m c below code)  (hd : decode code pc = .ok (.aconst_null, 1)) (hp : pc + 1 = pc') (hr : Steps tb e below (T.setTop (mkF m pc' L (.null :: S))) target) : Steps tb e below (T.setTop (mkF m pc L S)) target := by
  subst hp; exact XS.aconstNull G.1 G.2.1 rfl (hb G.2.2 hd)  hr
theorem miadd (pc' : Nat) (G : Gd tb T m c below code) {x : Int32} {y : Int32} {v : Int32} (hd : decode code pc = .ok (.iadd, 1)) (hv : x + y = v) (hp : pc + 1 = pc') (hr : Steps tb e below (T.setTop (mkF m pc' L (.int v :: S))) target) : Steps tb e below (T.setTop (mkF m pc L (.int y :: .int x :: S))) target := by
  subst hp; subst hv; exact XS.iadd G.1 G.2.1 rfl (hb G.2.2 hd) rfl  hr
theorem misub (pc' : Nat) (G : Gd tb T m c below code) {x : Int32} {y : Int32} {v : Int32} (hd : decode code pc = .ok (.isub, 1)) (hv : x - y = v) (hp : pc + 1 = pc') (hr : Steps tb e below (T.setTop (mkF m pc' L (.int v :: S))) target) : Steps tb e below (T.setTop (mkF m pc L (.int y :: .int x :: S))) target := by
  subst hp; subst hv; exact XS.isub G.1 G.2.1 rfl (hb G.2.2 hd) rfl  hr
theorem mimul (pc' : Nat) (G : Gd tb T m c below code) {x : Int32} {y : Int32} {v : Int32} (hd : decode code pc = .ok (.imul, 1)) (hv : x * y = v) (hp : pc + 1 = pc') (hr : Steps tb e below (T.setTop (mkF m pc' L (.int v :: S))) target) : Steps tb e below (T.setTop (mkF m pc L (.int y :: .int x :: S))) target := by
  subst hp; subst hv; exact XS.imul G.1 G.2.1 rfl (hb G.2.2 hd) rfl  hr
theorem miand (pc' : Nat) (G : Gd tb T m c below code) {x : Int32} {y : Int32} {v : Int32} (hd : decode code pc = .ok (.iand, 1)) (hv : x &&& y = v) (hp : pc + 1 = pc') (hr : Steps tb e below (T.setTop (mkF m pc' L (.int v :: S))) target) : Steps tb e below (T.setTop (mkF m pc L (.int y :: .int x :: S))) target := by
  subst hp; subst hv; exact XS.iand G.1 G.2.1 rfl (hb G.2.2 hd) rfl  hr
theorem mior (pc' : Nat) (G : Gd tb T m c below code) {x : Int32} {y : Int32} {v : Int32} (hd : decode code pc = .ok (.ior, 1)) (hv : x ||| y = v) (hp : pc + 1 = pc') (hr : Steps tb e below (T.setTop (mkF m pc' L (.int v :: S))) target) : Steps tb e below (T.setTop (mkF m pc L (.int y :: .int x :: S))) target := by
  subst hp; subst hv; exact XS.ior G.1 G.2.1 rfl (hb G.2.2 hd) rfl  hr
theorem mixor (pc' : Nat) (G : Gd tb T m c below code) {x : Int32} {y : Int32} {v : Int32} (hd : decode code pc = .ok (.ixor, 1)) (hv : x ^^^ y = v) (hp : pc + 1 = pc') (hr : Steps tb e below (T.setTop (mkF m pc' L (.int v :: S))) target) : Steps tb e below (T.setTop (mkF m pc L (.int y :: .int x :: S))) target := by
  subst hp; subst hv; exact XS.ixor G.1 G.2.1 rfl (hb G.2.2 hd) rfl  hr
theorem midiv (pc' : Nat) (G : Gd tb T m c below code) {x : Int32} {y : Int32} {v : Int32} (hd : decode code pc = .ok (.idiv, 1)) (hz : y ≠ 0) (hv : x / y = v) (hp : pc + 1 = pc') (hr : Steps tb e below (T.setTop (mkF m pc' L (.int v :: S))) target) : Steps tb e below (T.setTop (mkF m pc L (.int y :: .int x :: S))) target := by
  subst hp; subst hv; exact XS.idiv G.1 G.2.1 rfl (hb G.2.2 hd) rfl hz hr
theorem mladd (pc' : Nat) (G : Gd tb T m c below code) {x : Int64} {y : Int64} {v : Int64} (hd : decode code pc = .ok (.ladd, 1)) (hv : x + y = v) (hp : pc + 1 = pc') (hr : Steps tb e below (T.setTop (mkF m pc' L (.long v :: S))) target) : Steps tb e below (T.setTop (mkF m pc L (.long y :: .long x :: S))) target := by
  subst hp; subst hv; exact XS.ladd G.1 G.2.1 rfl (hb G.2.2 hd) rfl  hr
theorem mlsub (pc' : Nat) (G : Gd tb T m c below code) {x : Int64} {y : Int64} {v : Int64} (hd : decode code pc = .ok (.lsub, 1)) (hv : x - y = v) (hp : pc + 1 = pc') (hr : Steps tb e below (T.setTop (mkF m pc' L (.long v :: S))) target) : Steps tb e below (T.setTop (mkF m pc L (.long y :: .long x :: S))) target := by
  subst hp; subst hv; exact XS.lsub G.1 G.2.1 rfl (hb G.2.2 hd) rfl  hr
theorem mlmul (pc' : Nat) (G : Gd tb T m c below code) {x : Int64} {y : Int64} {v : Int64} (hd : decode code pc = .ok (.lmul, 1)) (hv : x * y = v) (hp : pc + 1 = pc') (hr : Steps tb e below (T.setTop (mkF m pc' L (.long v :: S))) target) : Steps tb e below (T.setTop (mkF m pc L (.long y :: .long x :: S))) target := by
  subst hp; subst hv; exact XS.lmul G.1 G.2.1 rfl (hb G.2.2 hd) rfl  hr
theorem mland (pc' : Nat) (G : Gd tb T m c below code) {x : Int64} {y : Int64} {v : Int64} (hd : decode code pc = .ok (.land, 1)) (hv : x &&& y = v) (hp : pc + 1 = pc') (hr : Steps tb e below (T.setTop (mkF m pc' L (.long v :: S))) target) : Steps tb e below (T.setTop (mkF m pc L (.long y :: .long x :: S))) target := by
  subst hp; subst hv; exact XS.land G.1 G.2.1 rfl (hb G.2.2 hd) rfl  hr
theorem mlor (pc' : Nat) (G : Gd tb T m c below code) {x : Int64} {y : Int64} {v : Int64} (hd : decode code pc = .ok (.lor, 1)) (hv : x ||| y = v) (hp : pc + 1 = pc') (hr : Steps tb e below (T.setTop (mkF m pc' L (.long v :: S))) target) : Steps tb e below (T.setTop (mkF m pc L (.long y :: .long x :: S))) target := by
  subst hp; subst hv; exact XS.lor G.1 G.2.1 rfl (hb G.2.2 hd) rfl  hr
theorem mlxor (pc' : Nat) (G : Gd tb T m c below code) {x : Int64} {y : Int64} {v : Int64} (hd : decode code pc = .ok (.lxor, 1)) (hv : x ^^^ y = v) (hp : pc + 1 = pc') (hr : Steps tb e below (T.setTop (mkF m pc' L (.long v :: S))) target) : Steps tb e below (T.setTop (mkF m pc L (.long y :: .long x :: S))) target := by
  subst hp; subst hv; exact XS.lxor G.1 G.2.1 rfl (hb G.2.2 hd) rfl  hr
theorem mldiv (pc' : Nat) (G : Gd tb T m c below code) {x : Int64} {y : Int64} {v : Int64} (hd : decode code pc = .ok (.ldiv, 1)) (hz : y ≠ 0) (hv : x / y = v) (hp : pc + 1 = pc') (hr : Steps tb e below (T.setTop (mkF m pc' L (.long v :: S))) target) : Steps tb e below (T.setTop (mkF m pc L (.long y :: .long x :: S))) target := by
  subst hp; subst hv; exact XS.ldiv G.1 G.2.1 rfl (hb G.2.2 hd) rfl hz hr
theorem mlrem (pc' : Nat) (G : Gd tb T m c below code) {x : Int64} {y : Int64} {v : Int64} (hd : decode code pc = .ok (.lrem, 1)) (hz : y ≠ 0) (hv : x - (x / y) * y = v) (hp : pc + 1 = pc') (hr : Steps tb e below (T.setTop (mkF m pc' L (.long v :: S))) target) : Steps tb e below (T.setTop (mkF m pc L (.long y :: .long x :: S))) target := by
  subst hp; subst hv; exact XS.lrem G.1 G.2.1 rfl (hb G.2.2 hd) rfl hz hr
theorem mirem (pc' : Nat) (G : Gd tb T m c below code) {x : Int32} {y : Int32} {v : Int32} (hd : decode code pc = .ok (.irem, 1)) (hz : y ≠ 0) (hv : x - (x / y) * y = v) (hp : pc + 1 = pc') (hr : Steps tb e below (T.setTop (mkF m pc' L (.int v :: S))) target) : Steps tb e below (T.setTop (mkF m pc L (.int y :: .int x :: S))) target := by
  subst hp; subst hv; exact XS.irem G.1 G.2.1 rfl (hb G.2.2 hd) rfl hz hr
theorem mishl (pc' : Nat) (G : Gd tb T m c below code) {x : Int32} {y : Int32} {v : Int32} (hd : decode code pc = .ok (.ishl, 1)) (hv : x <<< (y &&& 31) = v) (hp : pc + 1 = pc') (hr : Steps tb e below (T.setTop (mkF m pc' L (.int v :: S))) target) : Steps tb e below (T.setTop (mkF m pc L (.int y :: .int x :: S))) target := by
  subst hp; subst hv; exact XS.ishl G.1 G.2.1 rfl (hb G.2.2 hd) rfl  hr
theorem mishr (pc' : Nat) (G : Gd tb T m c below code) {x : Int32} {y : Int32} {v : Int32} (hd : decode code pc = .ok (.ishr, 1)) (hv : x >>> (y &&& 31) = v) (hp : pc + 1 = pc') (hr : Steps tb e below (T.setTop (mkF m pc' L (.int v :: S))) target) : Steps tb e below (T.setTop (mkF m pc L (.int y :: .int x :: S))) target := by
  subst hp; subst hv; exact XS.ishr G.1 G.2.1 rfl (hb G.2.2 hd) rfl  hr
theorem miushr (pc' : Nat) (G : Gd tb T m c below code) {x : Int32} {y : Int32} {v : Int32} (hd : decode code pc = .ok (.iushr, 1)) (hv : (x.toUInt32 >>> (y &&& 31).toUInt32).toInt32 = v) (hp : pc + 1 = pc') (hr : Steps tb e below (T.setTop (mkF m pc' L (.int v :: S))) target) : Steps tb e below (T.setTop (mkF m pc L (.int y :: .int x :: S))) target := by
  subst hp; subst hv; exact XS.iushr G.1 G.2.1 rfl (hb G.2.2 hd) rfl  hr
theorem mlshl (pc' : Nat) (G : Gd tb T m c below code) {x : Int64} {y : Int32} {v : Int64} (hd : decode code pc = .ok (.lshl, 1)) (hv : x <<< (y &&& 0x3f).toInt64 = v) (hp : pc + 1 = pc') (hr : Steps tb e below (T.setTop (mkF m pc' L (.long v :: S))) target) : Steps tb e below (T.setTop (mkF m pc L (.int y :: .long x :: S))) target := by
  subst hp; subst hv; exact XS.lshl G.1 G.2.1 rfl (hb G.2.2 hd) rfl  hr
theorem mlshr (pc' : Nat) (G : Gd tb T m c below code) {x : Int64} {y : Int32} {v : Int64} (hd : decode code pc = .ok (.lshr, 1)) (hv : x >>> (y &&& 0x3f).toInt64 = v) (hp : pc + 1 = pc') (hr : Steps tb e below (T.setTop (mkF m pc' L (.long v :: S))) target) : Steps tb e below (T.setTop (mkF m pc L (.int y :: .long x :: S))) target := by
  subst hp; subst hv; exact XS.lshr G.1 G.2.1 rfl (hb G.2.2 hd) rfl  hr
theorem mlushr (pc' : Nat) (G : Gd tb T m c below code) {x : Int64} {y : Int32} {v : Int64} (hd : decode code pc = .ok (.lushr, 1)) (hv : (x.toUInt64 >>> (y &&& 0x3f).toInt64.toUInt64).toInt64 = v) (hp : pc + 1 = pc') (hr : Steps tb e below (T.setTop (mkF m pc' L (.long v :: S))) target) : Steps tb e below (T.setTop (mkF m pc L (.int y :: .long x :: S))) target := by
  subst hp; subst hv; exact XS.lushr G.1 G.2.1 rfl (hb G.2.2 hd) rfl  hr
theorem mineg (pc' : Nat) (G : Gd tb T m c below code) {x : Int32} (hd : decode code pc = .ok (.ineg, 1)) (hp : pc + 1 = pc') (hr : Steps tb e below (T.setTop (mkF m pc' L (.int (-x) :: S))) target) : Steps tb e below (T.setTop (mkF m pc L (.int x :: S))) target := by
  subst hp; exact XS.ineg G.1 G.2.1 rfl (hb G.2.2 hd) rfl hr
theorem mlneg (pc' : Nat) (G : Gd tb T m c below code) {x : Int64} (hd : decode code pc = .ok (.lneg, 1)) (hp : pc + 1 = pc') (hr : Steps tb e below (T.setTop (mkF m pc' L (.long (-x) :: S))) target) : Steps tb e below (T.setTop (mkF m pc L (.long x :: S))) target := by
  subst hp; exact XS.lneg G.1 G.2.1 rfl (hb G.2.2 hd) rfl hr
theorem mi2l (pc' : Nat) (G : Gd tb T m c below code) {x : Int32} (hd : decode code pc = .ok (.i2l, 1)) (hp : pc + 1 = pc') (hr : Steps tb e below (T.setTop (mkF m pc' L (.long (x.toInt64) :: S))) target) : Steps tb e below (T.setTop (mkF m pc L (.int x :: S))) target := by
  subst hp; exact XS.i2l G.1 G.2.1 rfl (hb G.2.2 hd) rfl hr
theorem ml2i (pc' : Nat) (G : Gd tb T m c below code) {x : Int64} (hd : decode code pc = .ok (.l2i, 1)) (hp : pc + 1 = pc') (hr : Steps tb e below (T.setTop (mkF m pc' L (.int (x.toInt32) :: S))) target) : Steps tb e below (T.setTop (mkF m pc L (.long x :: S))) target := by
  subst hp; exact XS.l2i G.1 G.2.1 rfl (hb G.2.2 hd) rfl hr
theorem mi2d (pc' : Nat) (G : Gd tb T m c below code) {x : Int32} (hd : decode code pc = .ok (.i2d, 1)) (hp : pc + 1 = pc') (hr : Steps tb e below (T.setTop (mkF m pc' L (.double (FP.i2d x) :: S))) target) : Steps tb e below (T.setTop (mkF m pc L (.int x :: S))) target := by
  subst hp; exact XS.i2dS G.1 G.2.1 rfl (hb G.2.2 hd) rfl rfl hr
theorem ml2d (pc' : Nat) (G : Gd tb T m c below code) {x : Int64} (hd : decode code pc = .ok (.l2d, 1)) (hp : pc + 1 = pc') (hr : Steps tb e below (T.setTop (mkF m pc' L (.double (FP.l2d x) :: S))) target) : Steps tb e below (T.setTop (mkF m pc L (.long x :: S))) target := by
  subst hp; exact XS.l2dS G.1 G.2.1 rfl (hb G.2.2 hd) rfl rfl hr
theorem mdneg (pc' : Nat) (G : Gd tb T m c below code) {x : UInt64} (hd : decode code pc = .ok (.dneg, 1)) (hp : pc + 1 = pc') (hr : Steps tb e below (T.setTop (mkF m pc' L (.double (FP.dneg x) :: S))) target) : Steps tb e below (T.setTop (mkF m pc L (.double x :: S))) target := by
  subst hp; exact XS.dnegS G.1 G.2.1 rfl (hb G.2.2 hd) rfl rfl hr
theorem md2i (pc' : Nat) (G : Gd tb T m c below code) {x : UInt64} (hd : decode code pc = .ok (.d2i, 1)) (hp : pc + 1 = pc') (hr : Steps tb e below (T.setTop (mkF m pc' L (.int (FP.d2i x) :: S))) target) : Steps tb e below (T.setTop (mkF m pc L (.double x :: S))) target := by
  subst hp; exact XS.d2iS G.1 G.2.1 rfl (hb G.2.2 hd) rfl rfl hr
theorem md2l (pc' : Nat) (G : Gd tb T m c below code) {x : UInt64} (hd : decode code pc = .ok (.d2l, 1)) (hp : pc + 1 = pc') (hr : Steps tb e below (T.setTop (mkF m pc' L (.long (FP.d2l x) :: S))) target) : Steps tb e below (T.setTop (mkF m pc L (.double x :: S))) target := by
  subst hp; exact XS.d2lS G.1 G.2.1 rfl (hb G.2.2 hd) rfl rfl hr
theorem mdadd (pc' : Nat) (G : Gd tb T m c below code) {x y : UInt64} (hd : decode code pc = .ok (.dadd, 1)) (hn : Jvm.Free.Fl.NoNaN64 (FP.dadd x y)) (hp : pc + 1 = pc') (hr : Steps tb e below (T.setTop (mkF m pc' L (.double (FP.dadd x y) :: S))) target) : Steps tb e below (T.setTop (mkF m pc L (.double y :: .double x :: S))) target := by
  subst hp; exact XS.daddS G.1 G.2.1 rfl (hb G.2.2 hd) rfl hn rfl hr
theorem mdsub (pc' : Nat) (G : Gd tb T m c below code) {x y : UInt64} (hd : decode code pc = .ok (.dsub, 1)) (hn : Jvm.Free.Fl.NoNaN64 (FP.dsub x y)) (hp : pc + 1 = pc') (hr : Steps tb e below (T.setTop (mkF m pc' L (.double (FP.dsub x y) :: S))) target) : Steps tb e below (T.setTop (mkF m pc L (.double y :: .double x :: S))) target := by
  subst hp; exact XS.dsubS G.1 G.2.1 rfl (hb G.2.2 hd) rfl hn rfl hr
theorem mdmul (pc' : Nat) (G : Gd tb T m c below code) {x y : UInt64} (hd : decode code pc = .ok (.dmul, 1)) (hn : Jvm.Free.Fl.NoNaN64 (FP.dmul x y)) (hp : pc + 1 = pc') (hr : Steps tb e below (T.setTop (mkF m pc' L (.double (FP.dmul x y) :: S))) target) : Steps tb e below (T.setTop (mkF m pc L (.double y :: .double x :: S))) target := by
  subst hp; exact XS.dmulS G.1 G.2.1 rfl (hb G.2.2 hd) rfl hn rfl hr
theorem mddiv (pc' : Nat) (G : Gd tb T m c below code) {x y : UInt64} (hd : decode code pc = .ok (.ddiv, 1)) (hn : Jvm.Free.Fl.NoNaN64 (FP.ddiv x y)) (hp : pc + 1 = pc') (hr : Steps tb e below (T.setTop (mkF m pc' L (.double (FP.ddiv x y) :: S))) target) : Steps tb e below (T.setTop (mkF m pc L (.double y :: .double x :: S))) target := by
  subst hp; exact XS.ddivS G.1 G.2.1 rfl (hb G.2.2 hd) rfl hn rfl hr
theorem mdcmp (pc' : Nat) (G : Gd tb T m c below code) {o : CmpOp} {x y : UInt64} (hd : decode code pc = .ok (.dcmp o, 1)) (hp : pc + 1 = pc') (hr : Steps tb e below (T.setTop (mkF m pc' L (.int (cmpValue (FP.dcmp x y) o) :: S))) target) : Steps tb e below (T.setTop (mkF m pc L (.double y :: .double x :: S))) target := by
  subst hp; exact XS.dcmpS G.1 G.2.1 rfl (hb G.2.2 hd) rfl rfl hr
theorem mlcmp (pc' : Nat) (G : Gd tb T m c below code) {x y : Int64} (hd : decode code pc = .ok (.lcmp, 1)) (hp : pc + 1 = pc') (hr : Steps tb e below (T.setTop (mkF m pc' L (.int (lcmpW x y) :: S))) target) : Steps tb e below (T.setTop (mkF m pc L (.long y :: .long x :: S))) target := by
  subst hp; exact XS.lcmp G.1 G.2.1 rfl (hb G.2.2 hd) rfl hr
theorem mdup (pc' : Nat) (G : Gd tb T m c below code) {x : Value} (hd : decode code pc = .ok (.dup, 1)) (hc : x.category = 1) (hp : pc + 1 = pc') (hr : Steps tb e below (T.setTop (mkF m pc' L (x :: x :: S))) target) : Steps tb e below (T.setTop (mkF m pc L (x :: S))) target := by
  subst hp; exact XS.dup G.1 G.2.1 rfl (hb G.2.2 hd) rfl hc hr
theorem mpop (pc' : Nat) (G : Gd tb T m c below code) {x : Value} (hd : decode code pc = .ok (.pop, 1)) (hc : x.category = 1) (hp : pc + 1 = pc') (hr : Steps tb e below (T.setTop (mkF m pc' L S)) target) : Steps tb e below (T.setTop (mkF m pc L (x :: S))) target := by
  subst hp; exact XS.pop G.1 G.2.1 rfl (hb G.2.2 hd) rfl hc hr
theorem mdup2 (pc' : Nat) (G : Gd tb T m c below code) {x y : Value} (hd : decode code pc = .ok (.dup2, 1)) (hc : x.category = 1) (hc' : y.category = 1) (hp : pc + 1 = pc') (hr : Steps tb e below (T.setTop (mkF m pc' L (x :: y :: x :: y :: S))) target) : Steps tb e below (T.setTop (mkF m pc L (x :: y :: S))) target := by
  subst hp; exact Jvm.Free.XT.dup2 G.1 G.2.1 rfl (hb G.2.2 hd) rfl hc hc' hr
theorem mdup_x1 (pc' : Nat) (G : Gd tb T m c below code) {x y : Value} (hd : decode code pc = .ok (.dup_x1, 1)) (hc : x.category = 1) (hc' : y.category = 1) (hp : pc + 1 = pc') (hr : Steps tb e below (T.setTop (mkF m pc' L (x :: y :: x :: S))) target) : Steps tb e below (T.setTop (mkF m pc L (x :: y :: S))) target := by
  subst hp; exact XS.dupX1 G.1 G.2.1 rfl (hb G.2.2 hd) rfl hc hc' hr
theorem miinc (pc' : Nat) (G : Gd tb T m c below code) {k : Nat} {i : Int} {x : Int32} (hd : decode code pc = .ok (.iinc k i, 3)) (hl : L[k]? = some (.val (.int x))) (L' : Array Slot) (hl' : storeLocals L k (.int (x + Int32.ofInt i)) = some L') (hp : pc + 3 = pc') (hr : Steps tb e below (T.setTop (mkF m pc' L' S)) target) : Steps tb e below (T.setTop (mkF m pc L S)) target := by
  subst hp; exact XS.iinc G.1 G.2.1 rfl (hb G.2.2 hd) hl hl' hr
theorem mgoto (pc' : Nat) (G : Gd tb T m c below code) {o : Int} (hd : decode code pc = .ok (.goto o, 3)) (ho : 0 ≤ (pc : Int) + o) (hp : ((pc : Int) + o).toNat = pc') (hr : Steps tb e below (T.setTop (mkF m pc' L S)) target) : Steps tb e below (T.setTop (mkF m pc L S)) target := XS.goto G.1 G.2.1 rfl rfl (hb G.2.2 hd) ho hp hr
theorem mifYes (pc' : Nat) (G : Gd tb T m c below code) {cd : ClassFile.Cond} {o : Int} {x : Int32} (hd : decode code pc = .ok (.ifCond cd o, 3)) (hc : ifCond.holds cd x = true) (ho : 0 ≤ (pc : Int) + o) (hp : ((pc : Int) + o).toNat = pc') (hr : Steps tb e below (T.setTop (mkF m pc' L S)) target) : Steps tb e below (T.setTop (mkF m pc L (.int x :: S))) target := XS.ifYes G.1 G.2.1 rfl rfl (hb G.2.2 hd) rfl hc ho hp hr
theorem mifNo (pc' : Nat) (G : Gd tb T m c below code) {cd : ClassFile.Cond} {o : Int} {x : Int32} (hd : decode code pc = .ok (.ifCond cd o, 3)) (hc : ifCond.holds cd x = false) (hp : pc + 3 = pc') (hr : Steps tb e below (T.setTop (mkF m pc' L S)) target) : Steps tb e below (T.setTop (mkF m pc L (.int x :: S))) target := by
  subst hp; exact XS.ifNo G.1 G.2.1 rfl (hb G.2.2 hd) rfl hc hr
theorem micmpYes (pc' : Nat) (G : Gd tb T m c below code) {cd : ClassFile.Cond} {o : Int} {x y : Int32} (hd : decode code pc = .ok (.if_icmp cd o, 3)) (hc : if_icmp.holds cd x y = true) (ho : 0 ≤ (pc : Int) + o) (hp : ((pc : Int) + o).toNat = pc') (hr : Steps tb e below (T.setTop (mkF m pc' L S)) target) : Steps tb e below (T.setTop (mkF m pc L (.int y :: .int x :: S))) target := XS.icmpYes G.1 G.2.1 rfl rfl (hb G.2.2 hd) rfl hc ho hp hr
theorem micmpNo (pc' : Nat) (G : Gd tb T m c below code) {cd : ClassFile.Cond} {o : Int} {x y : Int32} (hd : decode code pc = .ok (.if_icmp cd o, 3)) (hc : if_icmp.holds cd x y = false) (hp : pc + 3 = pc') (hr : Steps tb e below (T.setTop (mkF m pc' L S)) target) : Steps tb e below (T.setTop (mkF m pc L (.int y :: .int x :: S))) target := by
  subst hp; exact XS.icmpNo G.1 G.2.1 rfl (hb G.2.2 hd) rfl hc hr
end Steps
section Arrays
variable {p : Program} {l : Launch} {e : Env} {R : Room} {s : State} {m : MethodId} {args : Array Value} {below : List Frame} {meth : Method} {c : Code} {T : State} {locs : List Loc} {cells slots : Nat} {Z : State} {h : Heap} {a : Addr} {k : ClassId} {z j : Int32} {vs : List Value} {dv : Value} {pc : Nat} {L : Array Slot} {S : List Value} {code : ByteArray} {target : State}
theorem wd {ws : List Cond} {a0 : Array Value} (hw : ∀ d ∈ ws, d.before a0 Z = true) (i : Nat) {d : Cond} (q : ws[i]? = some d) : d.before a0 Z = true := hw d (List.mem_of_getElem? q)
theorem miaload (pc' : Nat) (X : Stand p l e R s m args below meth c T locs cells slots) (hx : p.tables.exec = Jvm.exec) (hby : c.code = code) (hZ : Z.Warmed39 s.vm) (eT : T.heap = h) (F : Arv Z h a k .int z vs dv) {v : Int32} (hd : decode code pc = .ok (.iaload, 1)) (hin : ¬ j < 0 ∧ j < z) (hv : vs.getD j.toNatClampNeg dv = .int v) (hp : pc + 1 = pc') (hr : Steps p.tables e below (T.setTop (mkF m pc' L (.int v :: S))) target) : Steps p.tables e below (T.setTop (mkF m pc L (.int j :: .ref a :: S))) target := by
  subst hp
  obtain ⟨cl, A, -, q2, q3, H, -⟩ := F
  have hb' := inb_of q2 hin
  exact X.iaload hx (j := j) (v := .int v) (by rw [eT]; exact A.1) (State.isArrayOf_alike hZ.alike A.2.1) A.2.2 hb' (H.at hb' hv) (g := mkF m pc L (.int j :: .ref a :: S)) rfl rfl (hb hby hd) _ hr
theorem own_stI (X : Stand p l e R s m args below meth c T locs cells slots) (hx : p.tables.exec = Jvm.exec) (hby : c.code = code) (hZ : Z.Warmed39 s.vm) (eT : T.heap = h) (F : Arv Z h a k .int z vs dv) {v : Int32} (hd : decode code pc = .ok (.iastore, 1)) (hin : ¬ j < 0 ∧ j < z) (i : Nat) (hj : j.toNatClampNeg = i) (hi : i < vs.length) (L : Array Slot) (S : List Value) (pc' : Nat) (hp : pc + 1 = pc') :
    ∃ T' h', Stand p l e R s m args below meth c T' (locs ++ [⟨a, j.toNatClampNeg⟩]) cells slots ∧ T'.heap = h' ∧ Wr h h' a j.toNatClampNeg (.int v) ∧ Arv Z h' a k .int z (vs.set i (.int v)) dv ∧ ∀ target, Steps p.tables e below (T'.setTop (mkF m pc' L S)) target → Steps p.tables e below (T.setTop (mkF m pc L (.int v :: .int j :: .ref a :: S))) target := by
  subst hp
  obtain ⟨cl, A, q1, q2, q3, H, G⟩ := F
  obtain ⟨T', h', X', e', W, st⟩ := Jvm.RoadKit.stI X hx hZ eT A (j := j) (inb_of q2 hin) (g := mkF m pc L (.int v :: .int j :: .ref a :: S)) rfl rfl (hb hby hd)
  exact ⟨T', h', X', e', W, Arv.set A q1 q2 q3 H G rfl W i hj hi, st⟩
theorem mlaload (pc' : Nat) (X : Stand p l e R s m args below meth c T locs cells slots) (hx : p.tables.exec = Jvm.exec) (hby : c.code = code) (hZ : Z.Warmed39 s.vm) (eT : T.heap = h) (F : Arv Z h a k .long z vs dv) {v : Int64} (hd : decode code pc = .ok (.laload, 1)) (hin : ¬ j < 0 ∧ j < z) (hv : vs.getD j.toNatClampNeg dv = .long v) (hp : pc + 1 = pc') (hr : Steps p.tables e below (T.setTop (mkF m pc' L (.long v :: S))) target) : Steps p.tables e below (T.setTop (mkF m pc L (.int j :: .ref a :: S))) target := by
  subst hp
  obtain ⟨cl, A, -, q2, q3, H, -⟩ := F
  have hb' := inb_of q2 hin
  exact X.laload hx (j := j) (v := .long v) (by rw [eT]; exact A.1) (State.isArrayOf_alike hZ.alike A.2.1) A.2.2 hb' (H.at hb' hv) (g := mkF m pc L (.int j :: .ref a :: S)) rfl rfl (hb hby hd) _ hr
theorem own_stJ (X : Stand p l e R s m args below meth c T locs cells slots) (hx : p.tables.exec = Jvm.exec) (hby : c.code = code) (hZ : Z.Warmed39 s.vm) (eT : T.heap = h) (F : Arv Z h a k .long z vs dv) {v : Int64} (hd : decode code pc = .ok (.lastore, 1)) (hin : ¬ j < 0 ∧ j < z) (i : Nat) (hj : j.toNatClampNeg = i) (hi : i < vs.length) (L : Array Slot) (S : List Value) (pc' : Nat) (hp : pc + 1 = pc') :
    ∃ T' h', Stand p l e R s m args below meth c T' (locs ++ [⟨a, j.toNatClampNeg⟩]) cells slots ∧ T'.heap = h' ∧ Wr h h' a j.toNatClampNeg (.long v) ∧ Arv Z h' a k .long z (vs.set i (.long v)) dv ∧ ∀ target, Steps p.tables e below (T'.setTop (mkF m pc' L S)) target → Steps p.tables e below (T.setTop (mkF m pc L (.long v :: .int j :: .ref a :: S))) target := by
  subst hp
  obtain ⟨cl, A, q1, q2, q3, H, G⟩ := F
  obtain ⟨T', h', X', e', W, st⟩ := Jvm.RoadKit.stJ X hx hZ eT A (j := j) (inb_of q2 hin) (g := mkF m pc L (.long v :: .int j :: .ref a :: S)) rfl rfl (hb hby hd)
  exact ⟨T', h', X', e', W, Arv.set A q1 q2 q3 H G rfl W i hj hi, st⟩
theorem mdaload (pc' : Nat) (X : Stand p l e R s m args below meth c T locs cells slots) (hx : p.tables.exec = Jvm.exec) (hby : c.code = code) (hZ : Z.Warmed39 s.vm) (eT : T.heap = h) (F : Arv Z h a k .double z vs dv) {v : UInt64} (hd : decode code pc = .ok (.daload, 1)) (hin : ¬ j < 0 ∧ j < z) (hv : vs.getD j.toNatClampNeg dv = .double v) (hp : pc + 1 = pc') (hr : Steps p.tables e below (T.setTop (mkF m pc' L (.double v :: S))) target) : Steps p.tables e below (T.setTop (mkF m pc L (.int j :: .ref a :: S))) target := by
  subst hp
  obtain ⟨cl, A, -, q2, q3, H, -⟩ := F
  have hb' := inb_of q2 hin
  exact X.daload hx (j := j) (v := .double v) (by rw [eT]; exact A.1) (State.isArrayOf_alike hZ.alike A.2.1) A.2.2 hb' (H.at hb' hv) (g := mkF m pc L (.int j :: .ref a :: S)) rfl rfl (hb hby hd) _ hr
theorem own_stD (X : Stand p l e R s m args below meth c T locs cells slots) (hx : p.tables.exec = Jvm.exec) (hby : c.code = code) (hZ : Z.Warmed39 s.vm) (eT : T.heap = h) (F : Arv Z h a k .double z vs dv) {v : UInt64} (hd : decode code pc = .ok (.dastore, 1)) (hin : ¬ j < 0 ∧ j < z) (i : Nat) (hj : j.toNatClampNeg = i) (hi : i < vs.length) (L : Array Slot) (S : List Value) (pc' : Nat) (hp : pc + 1 = pc') :
    ∃ T' h', Stand p l e R s m args below meth c T' (locs ++ [⟨a, j.toNatClampNeg⟩]) cells slots ∧ T'.heap = h' ∧ Wr h h' a j.toNatClampNeg (.double v) ∧ Arv Z h' a k .double z (vs.set i (.double v)) dv ∧ ∀ target, Steps p.tables e below (T'.setTop (mkF m pc' L S)) target → Steps p.tables e below (T.setTop (mkF m pc L (.double v :: .int j :: .ref a :: S))) target := by
  subst hp
  obtain ⟨cl, A, q1, q2, q3, H, G⟩ := F
  obtain ⟨T', h', X', e', W, st⟩ := Jvm.RoadKit.stD X hx hZ eT A (j := j) (inb_of q2 hin) (g := mkF m pc L (.double v :: .int j :: .ref a :: S)) rfl rfl (hb hby hd)
  exact ⟨T', h', X', e', W, Arv.set A q1 q2 q3 H G rfl W i hj hi, st⟩
theorem mlen {ty : FieldType} (pc' : Nat) (X : Stand p l e R s m args below meth c T locs cells slots) (hx : p.tables.exec = Jvm.exec) (hby : c.code = code) (hZ : Z.Warmed39 s.vm) (eT : T.heap = h) (F : Arv Z h a k ty z vs dv) (hd : decode code pc = .ok (.arraylength, 1)) (hp : pc + 1 = pc') (hr : Steps p.tables e below (T.setTop (mkF m pc' L (.int z :: S))) target) : Steps p.tables e below (T.setTop (mkF m pc L (.ref a :: S))) target := by
  subst hp
  obtain ⟨cl, A, -, q2, q3, -, -⟩ := F
  refine X.arraylength hx (by rw [eT]; exact A.1) (State.isArrayOf_alike hZ.alike A.2.1) (g := mkF m pc L (.ref a :: S)) rfl rfl (hb hby hd) _ ?_
  rw [len_of q2 q3]
  exact hr
end Arrays
end Jvm.OwnSt
namespace Jvm.OwnFl
open Jvm.FP Jvm.FP.Core Jvm.Free.Fl Jvm.Op
/-- a double's value, in units of 2^-1074 -/
def zv (a : UInt64) : Int := zval b64 (val64 a)
theorem vv_ddiv (a b : UInt64) : val64 (FP.ddiv a b) = quotient b64 (val64 a) (val64 b) := val64_ddiv a b
theorem vv_dmul (a b : UInt64) : val64 (FP.dmul a b) = round b64 (exactProduct (val64 a) (val64 b)) := val64_dmul a b
theorem vv_dadd (a b : UInt64) : val64 (FP.dadd a b) = round b64 (exactSum (val64 a) (val64 b)) := val64_dadd a b
theorem vv_dsub (a b : UInt64) : val64 (FP.dsub a b) = round b64 (exactSum (val64 a) (negate (val64 b))) := val64_dsub a b
/-- one, in these units -/
def ONE : Int := (one64 : Int)
theorem one_pos : 0 < ONE := Int.natCast_pos.mpr one64_pos
theorem qm : b64.qmin = -1074 := qmin_b64
theorem one_qm : (2 : Nat) ^ (-b64.qmin).toNat = one64 := pow_qmin64
theorem own_quot (f : Fmt) (s t : Bool) (c d : Nat) (q r : Int) : quotient f (.fin s c q) (.fin t d r) = if d = 0 then (if c = 0 then .nan else .inf (s != t)) else roundRatio f (s != t) c d (q - r) := rfl
theorem own_inU (c : Nat) (q e : Int) : inUnits c q e = c * 2 ^ (q - e).toNat := rfl
theorem pow3 {a b c d : Nat} (x : Nat) (h : a + b = c + d) : x * 2 ^ a * 2 ^ b = x * 2 ^ c * 2 ^ d := by
  rw [Nat.mul_assoc, ← Nat.pow_add, h, Nat.pow_add, ← Nat.mul_assoc]
section Mag
variable {s t : Bool} {c d : Nat} {q r : Int} {V : Datum}
theorem scale_quot (h1 : b64.qmin ≤ q) (h2 : b64.qmin ≤ r) :
    c * 2 ^ (q - r - min b64.qmin (q - r)).toNat * 2 ^ (r - b64.qmin).toNat = c * 2 ^ (q - b64.qmin).toNat * one64 * 2 ^ (b64.qmin - min b64.qmin (q - r)).toNat := by
  rw [← one_qm]
  have e : (q - r - min b64.qmin (q - r)).toNat + (r - b64.qmin).toNat = ((q - b64.qmin).toNat + (-b64.qmin).toNat) + (b64.qmin - min b64.qmin (q - r)).toNat := by
    have := qm; omega
  rw [Nat.mul_assoc, ← Nat.pow_add, e, Nat.pow_add, Nat.pow_add]
  simp only [Nat.mul_assoc]
theorem quot_mag_le (hx : FP.Core.fits b64 (.fin s c q)) (hy : FP.Core.fits b64 (.fin t d r)) (hd : d ≠ 0) (hV : FP.Core.fits b64 V) (hn : V ≠ .nan)
    (h : inUnits c q b64.qmin * one64 ≤ zmag b64 V * inUnits d r b64.qmin) : zmag b64 (roundRatio b64 (s != t) c d (q - r)) ≤ zmag b64 V := by
  refine zmag_roundRatio_le good_b64 (e0 := min b64.qmin (q - r)) (Nat.pos_of_ne_zero hd) hV hn (by omega) (by omega) ?_
  have h1 := hx.2.1
  have h2 := hy.2.1
  have hP := Nat.two_pow_pos (r - b64.qmin).toNat
  refine Nat.le_of_mul_le_mul_right (c := 2 ^ (r - b64.qmin).toNat) ?_ hP
  rw [own_inU] at h ⊢
  rw [own_inU] at h
  rw [scale_quot h1 h2]
  have := Nat.mul_le_mul_right (2 ^ (b64.qmin - min b64.qmin (q - r)).toNat) h
  refine Nat.le_trans this (Nat.le_of_eq ?_)
  simp only [Nat.mul_assoc, Nat.mul_left_comm, Nat.mul_comm]
theorem quot_mag_ge (hx : FP.Core.fits b64 (.fin s c q)) (hy : FP.Core.fits b64 (.fin t d r)) (hd : d ≠ 0) (hV : FP.Core.fits b64 V)
    (h : zmag b64 V * inUnits d r b64.qmin ≤ inUnits c q b64.qmin * one64) : zmag b64 V ≤ zmag b64 (roundRatio b64 (s != t) c d (q - r)) := by
  refine zmag_roundRatio_ge good_b64 (e0 := min b64.qmin (q - r)) (Nat.pos_of_ne_zero hd) hV (by omega) (by omega) ?_
  have h1 := hx.2.1
  have h2 := hy.2.1
  have hP := Nat.two_pow_pos (r - b64.qmin).toNat
  refine Nat.le_of_mul_le_mul_right (c := 2 ^ (r - b64.qmin).toNat) ?_ hP
  rw [own_inU] at h ⊢
  rw [own_inU] at h
  rw [scale_quot h1 h2]
  have := Nat.mul_le_mul_right (2 ^ (b64.qmin - min b64.qmin (q - r)).toNat) h
  refine Nat.le_trans (Nat.le_of_eq ?_) this
  simp only [Nat.mul_assoc, Nat.mul_left_comm, Nat.mul_comm]
end Mag
theorem fin_at {a : UInt64} (h : DFin a) : ∃ s c q, val64 a = .fin s c q ∧ FP.Core.fits b64 (.fin s c q) ∧ zv a = signed s (inUnits c q b64.qmin) := by
  obtain ⟨s, c, q, e⟩ := h
  have f := val64_fits a
  rw [e] at f
  exact ⟨s, c, q, e, f, by unfold zv; rw [e]; rfl⟩
theorem units_zero {d : Nat} {r : Int} : inUnits d r b64.qmin = 0 ↔ d = 0 := by
  rw [own_inU]
  have hP := Nat.two_pow_pos (r - b64.qmin).toNat
  constructor
  · intro h
    rcases Nat.mul_eq_zero.mp h with h | h
    · exact h
    · omega
  · rintro rfl; simp
theorem div_core {a b V : UInt64} (ha : DFin a) (hb : DFin b) (hz : zv b ≠ 0) (hV : val64 V ≠ .nan) :
    ∃ (U A D W : Nat) (s t w : Bool) (M : Nat), ONE = (U : Int) ∧ zv a = signed s A ∧ zv b = signed t D ∧ 0 < D ∧ zv V = signed w W ∧ val64 (FP.ddiv a b) ≠ .nan ∧ zv (FP.ddiv a b) = signed (s != t) M ∧ (A * U ≤ W * D → M ≤ W) ∧ (W * D ≤ A * U → W ≤ M) := by
  obtain ⟨s, c, q, e1, f1, z1⟩ := fin_at ha
  obtain ⟨t, d, r, e2, f2, z2⟩ := fin_at hb
  have hd : d ≠ 0 := by
    rintro rfl
    apply hz; rw [z2, units_zero.mpr rfl]; exact signed_zero t
  have e3 : val64 (FP.ddiv a b) = roundRatio b64 (s != t) c d (q - r) := by
    rw [vv_ddiv, e1, e2, own_quot, if_neg hd]
  have fV := val64_fits V
  refine ⟨one64, _, _, zmag b64 (val64 V), s, t, sgn (val64 V), zmag b64 (roundRatio b64 (s != t) c d (q - r)), rfl, z1, z2, ?_, rfl, ?_, ?_, quot_mag_le f1 f2 hd fV hV, quot_mag_ge f1 f2 hd fV⟩
  · exact Nat.pos_of_ne_zero fun h => hd (units_zero.mp h)
  · rw [e3]; exact roundRatio_ne_nan _ _ _ _ _
  · unfold zv; rw [e3]; unfold zval; rw [sgn_roundRatio]
theorem sg_t (n : Nat) : signed true n = -(n : Int) := rfl
theorem sg_f (n : Nat) : signed false n = (n : Int) := rfl
theorem div_le_pos {a b V : UInt64} (ha : DFin a) (hb : DFin b) (hz : 0 < zv b) (hV : val64 V ≠ .nan) (h : zv a * ONE ≤ zv V * zv b) : zv (FP.ddiv a b) ≤ zv V := by
  obtain ⟨U, A, D, W, s, t, w, M, e0, e1, e2, hD, e3, -, e4, l1, l2⟩ := div_core ha hb (by omega) hV
  rw [e1, e2, e3] at h
  rw [e2] at hz
  rw [e3, e4]
  obtain rfl : t = false := by cases t <;> simp only [sg_t, sg_f] at hz <;> first | rfl | omega
  rw [sg_f, e0, ← signed_mul, ← signed_mul] at h
  have hz2 : W * D = 0 → W = 0 := fun x => (Nat.mul_eq_zero.mp x).elim id (fun y => by omega)
  generalize A * U = P at *
  generalize W * D = R at *
  cases s <;> cases w <;> simp only [sg_t, sg_f, Bool.bne_false, bne_self_eq_false] at h ⊢
  · have := l1 (by omega); omega
  · have := l1 (by omega); have := hz2 (by omega); omega
  · omega
  · have := l2 (by omega); omega
theorem div_ge_pos {a b V : UInt64} (ha : DFin a) (hb : DFin b) (hz : 0 < zv b) (hV : val64 V ≠ .nan) (h : zv V * zv b ≤ zv a * ONE) : zv V ≤ zv (FP.ddiv a b) := by
  obtain ⟨U, A, D, W, s, t, w, M, e0, e1, e2, hD, e3, -, e4, l1, l2⟩ := div_core ha hb (by omega) hV
  rw [e1, e2, e3] at h
  rw [e2] at hz
  rw [e3, e4]
  obtain rfl : t = false := by cases t <;> simp only [sg_t, sg_f] at hz <;> first | rfl | omega
  rw [sg_f, e0, ← signed_mul, ← signed_mul] at h
  have hz2 : W * D = 0 → W = 0 := fun x => (Nat.mul_eq_zero.mp x).elim id (fun y => by omega)
  generalize A * U = P at *
  generalize W * D = R at *
  cases s <;> cases w <;> simp only [sg_t, sg_f, Bool.bne_false, bne_self_eq_false] at h ⊢
  · have := l2 (by omega); omega
  · omega
  · have := l1 (by omega); have := hz2 (by omega); omega
  · have := l1 (by omega); omega
theorem div_le_neg {a b V : UInt64} (ha : DFin a) (hb : DFin b) (hz : zv b < 0) (hV : val64 V ≠ .nan) (h : zv V * zv b ≤ zv a * ONE) : zv (FP.ddiv a b) ≤ zv V := by
  obtain ⟨U, A, D, W, s, t, w, M, e0, e1, e2, hD, e3, -, e4, l1, l2⟩ := div_core ha hb (by omega) hV
  rw [e1, e2, e3] at h
  rw [e2] at hz
  rw [e3, e4]
  obtain rfl : t = true := by cases t <;> simp only [sg_t, sg_f] at hz <;> first | rfl | omega
  rw [sg_t, Int.mul_neg, e0, ← signed_mul, ← signed_mul] at h
  have hz2 : W * D = 0 → W = 0 := fun x => (Nat.mul_eq_zero.mp x).elim id (fun y => by omega)
  generalize A * U = P at *
  generalize W * D = R at *
  cases s <;> cases w <;> simp only [sg_t, sg_f, Bool.bne_true, Bool.not_true, Bool.not_false] at h ⊢
  · omega
  · have := l2 (by omega); omega
  · have := l1 (by omega); omega
  · have := l1 (by omega); have := hz2 (by omega); omega
theorem div_ge_neg {a b V : UInt64} (ha : DFin a) (hb : DFin b) (hz : zv b < 0) (hV : val64 V ≠ .nan) (h : zv a * ONE ≤ zv V * zv b) : zv V ≤ zv (FP.ddiv a b) := by
  obtain ⟨U, A, D, W, s, t, w, M, e0, e1, e2, hD, e3, -, e4, l1, l2⟩ := div_core ha hb (by omega) hV
  rw [e1, e2, e3] at h
  rw [e2] at hz
  rw [e3, e4]
  obtain rfl : t = true := by cases t <;> simp only [sg_t, sg_f] at hz <;> first | rfl | omega
  rw [sg_t, Int.mul_neg, e0, ← signed_mul, ← signed_mul] at h
  have hz2 : W * D = 0 → W = 0 := fun x => (Nat.mul_eq_zero.mp x).elim id (fun y => by omega)
  generalize A * U = P at *
  generalize W * D = R at *
  cases s <;> cases w <;> simp only [sg_t, sg_f, Bool.bne_true, Bool.not_true, Bool.not_false] at h ⊢
  · have := l1 (by omega); have := hz2 (by omega); omega
  · have := l1 (by omega); omega
  · have := l2 (by omega); omega
  · omega
theorem div_nan {a b : UInt64} (ha : DFin a) (hb : DFin b) (hz : zv b ≠ 0) : val64 (FP.ddiv a b) ≠ .nan := by
  obtain ⟨U, A, D, W, s, t, w, M, -, -, -, -, -, h, -⟩ := div_core (V := a) ha hb hz ha.ne_nan
  exact h
theorem no_of {x : UInt64} (h : val64 x ≠ .nan) : NoNaN64 x := noNaN64_no.mpr ((notNaN_iff x).mpr h)
theorem of_no {x : UInt64} (h : NoNaN64 x) : val64 x ≠ .nan := (notNaN_iff x).mp (noNaN64_no.mp h)
theorem fin_no {x : UInt64} (h : DFin x) : NoNaN64 x := no_of h.ne_nan
/-- as great as a finite one: finite -/
theorem fin_of_eq {a V : UInt64} (hn : val64 a ≠ .nan) (hV : DFin V) (h : zv a = zv V) : DFin a := by
  cases e : val64 a with
  | nan => exact absurd e hn
  | fin s c q => exact ⟨s, c, q, e⟩
  | inf s =>
    exfalso
    have h1 := hV.zval_lt
    have h2 : (zv a).natAbs = b64.tails * 2 ^ (b64.exps - 2) := by unfold zv; rw [e]; exact natAbs_signed _ _
    have h3 : (zv V).natAbs = zmag b64 (val64 V) := natAbs_signed _ _
    rw [h] at h2
    omega
theorem fin_of_le {a V W : UInt64} (hn : val64 a ≠ .nan) (hV : DFin V) (hW : DFin W) (h : zv V ≤ zv a) (h' : zv a ≤ zv W) : DFin a := by
  cases e : val64 a with
  | nan => exact absurd e hn
  | fin s c q => exact ⟨s, c, q, e⟩
  | inf s =>
    exfalso
    have h1 := hV.zval_lt
    have h1' := hW.zval_lt
    have h2 : (zv a).natAbs = b64.tails * 2 ^ (b64.exps - 2) := by unfold zv; rw [e]; exact natAbs_signed _ _
    have h3 : (zv V).natAbs = zmag b64 (val64 V) := natAbs_signed _ _
    have h3' : (zv W).natAbs = zmag b64 (val64 W) := natAbs_signed _ _
    omega
/-! a finite double of a known value -/
def Dy (a : UInt64) (x : Int) : Prop := DFin a ∧ zv a = x
def Rep (x : Int) : Prop := ∃ V, Dy V x
theorem Dy.rep {a : UInt64} {x : Int} (h : Dy a x) : Rep x := ⟨a, h⟩
theorem Dy.no {a : UInt64} {x : Int} (h : Dy a x) : NoNaN64 a := fin_no h.1
theorem Dy.nn {a : UInt64} {x : Int} (h : Dy a x) : val64 a ≠ .nan := h.1.ne_nan
theorem dy_div {a b : UInt64} {x y z : Int} (ha : Dy a x) (hb : Dy b y) (hy : y ≠ 0) (hz : Rep z) (h : z * y = x * ONE) : Dy (FP.ddiv a b) z := by
  obtain ⟨V, fV, rfl⟩ := hz
  obtain ⟨fa, rfl⟩ := ha
  obtain ⟨fb, rfl⟩ := hb
  have hn := div_nan fa fb hy
  have e : zv (FP.ddiv a b) = zv V := by
    rcases Int.lt_or_gt_of_ne hy with q | q
    · exact Int.le_antisymm (div_le_neg fa fb q fV.ne_nan (Int.le_of_eq h)) (div_ge_neg fa fb q fV.ne_nan (Int.le_of_eq h.symm))
    · exact Int.le_antisymm (div_le_pos fa fb q fV.ne_nan (Int.le_of_eq h.symm)) (div_ge_pos fa fb q fV.ne_nan (Int.le_of_eq h))
  exact ⟨fin_of_eq hn fV e, e⟩
theorem mul_le {a b V : UInt64} (ha : DFin a) (hb : DFin b) (hV : val64 V ≠ .nan) (h : zv a * zv b ≤ zv V * ONE) : zv (FP.dmul a b) ≤ zv V := by
  obtain ⟨s, c, q, e1, f1, z1⟩ := fin_at ha
  obtain ⟨t, d, r, e2, f2, z2⟩ := fin_at hb
  obtain ⟨p1, p2, p3⟩ := product_units f1 f2
  unfold zv
  rw [vv_dmul, e1, e2, p1]
  refine zval_round_le good_b64 (val64_fits V) hV (e0 := 2 * b64.qmin) (by have := qm; omega) p2 ?_
  rw [p3, signed_xor, show (b64.qmin - 2 * b64.qmin).toNat = (-b64.qmin).toNat by omega, one_qm]
  rw [z1, z2] at h
  exact h
theorem mul_ge {a b V : UInt64} (ha : DFin a) (hb : DFin b) (hV : val64 V ≠ .nan) (h : zv V * ONE ≤ zv a * zv b) : zv V ≤ zv (FP.dmul a b) := by
  obtain ⟨s, c, q, e1, f1, z1⟩ := fin_at ha
  obtain ⟨t, d, r, e2, f2, z2⟩ := fin_at hb
  obtain ⟨p1, p2, p3⟩ := product_units f1 f2
  unfold zv
  rw [vv_dmul, e1, e2, p1]
  refine zval_round_ge good_b64 (val64_fits V) hV (e0 := 2 * b64.qmin) (by have := qm; omega) p2 ?_
  rw [p3, signed_xor, show (b64.qmin - 2 * b64.qmin).toNat = (-b64.qmin).toNat by omega, one_qm]
  rw [z1, z2] at h
  exact h
theorem mul_nan {a b : UInt64} (ha : DFin a) (hb : DFin b) : val64 (FP.dmul a b) ≠ .nan := (notNaN_iff _).mp (dmul_out ha hb)
theorem dy_mul {a b : UInt64} {x y z : Int} (ha : Dy a x) (hb : Dy b y) (hz : Rep z) (h : z * ONE = x * y) : Dy (FP.dmul a b) z := by
  obtain ⟨V, fV, rfl⟩ := hz
  obtain ⟨fa, rfl⟩ := ha
  obtain ⟨fb, rfl⟩ := hb
  have e : zv (FP.dmul a b) = zv V := Int.le_antisymm (mul_le fa fb fV.ne_nan (Int.le_of_eq h.symm)) (mul_ge fa fb fV.ne_nan (Int.le_of_eq h))
  exact ⟨fin_of_eq (mul_nan fa fb) fV e, e⟩
theorem add_le {a b V : UInt64} (ha : DFin a) (hb : DFin b) (hV : val64 V ≠ .nan) (h : zv a + zv b ≤ zv V) : zv (FP.dadd a b) ≤ zv V := by
  unfold zv
  rw [vv_dadd]
  exact sum_le good_b64 ha hb (val64_fits a) (val64_fits b) (val64_fits V) hV h
theorem add_ge {a b V : UInt64} (ha : DFin a) (hb : DFin b) (hV : val64 V ≠ .nan) (h : zv V ≤ zv a + zv b) : zv V ≤ zv (FP.dadd a b) := by
  unfold zv
  rw [vv_dadd]
  exact sum_ge good_b64 ha hb (val64_fits a) (val64_fits b) (val64_fits V) hV h
theorem add_nan {a b : UInt64} (ha : DFin a) (hb : DFin b) : val64 (FP.dadd a b) ≠ .nan := (notNaN_iff _).mp (dadd_out ha.notNaN hb)
theorem dy_add {a b : UInt64} {x y : Int} (ha : Dy a x) (hb : Dy b y) (hz : Rep (x + y)) : Dy (FP.dadd a b) (x + y) := by
  obtain ⟨V, fV, e0⟩ := hz
  obtain ⟨fa, rfl⟩ := ha
  obtain ⟨fb, rfl⟩ := hb
  have e : zv (FP.dadd a b) = zv V := Int.le_antisymm (add_le fa fb fV.ne_nan (Int.le_of_eq e0.symm)) (add_ge fa fb fV.ne_nan (Int.le_of_eq e0))
  exact ⟨fin_of_eq (add_nan fa fb) fV e, e.trans e0⟩
theorem neg_fin {b : UInt64} (hb : DFin b) : ∃ s c q, negate (val64 b) = .fin s c q := by
  obtain ⟨s, c, q, e⟩ := hb
  exact ⟨!s, c, q, by rw [e]; rfl⟩
theorem sub_le {a b V : UInt64} (ha : DFin a) (hb : DFin b) (hV : val64 V ≠ .nan) (h : zv a - zv b ≤ zv V) : zv (FP.dsub a b) ≤ zv V := by
  unfold zv
  rw [vv_dsub]
  refine sum_le good_b64 ha (neg_fin hb) (val64_fits a) (negate_fits (val64_fits b)) (val64_fits V) hV ?_
  rw [zval_negate]; unfold zv at h; omega
theorem sub_ge {a b V : UInt64} (ha : DFin a) (hb : DFin b) (hV : val64 V ≠ .nan) (h : zv V ≤ zv a - zv b) : zv V ≤ zv (FP.dsub a b) := by
  unfold zv
  rw [vv_dsub]
  refine sum_ge good_b64 ha (neg_fin hb) (val64_fits a) (negate_fits (val64_fits b)) (val64_fits V) hV ?_
  rw [zval_negate]; unfold zv at h; omega
theorem sub_nan {a b : UInt64} (ha : DFin a) (hb : DFin b) : val64 (FP.dsub a b) ≠ .nan := (notNaN_iff _).mp (dsub_out ha.notNaN hb)
theorem dy_sub {a b : UInt64} {x y : Int} (ha : Dy a x) (hb : Dy b y) (hz : Rep (x - y)) : Dy (FP.dsub a b) (x - y) := by
  obtain ⟨V, fV, e0⟩ := hz
  obtain ⟨fa, rfl⟩ := ha
  obtain ⟨fb, rfl⟩ := hb
  have e : zv (FP.dsub a b) = zv V := Int.le_antisymm (sub_le fa fb fV.ne_nan (Int.le_of_eq e0.symm)) (sub_ge fa fb fV.ne_nan (Int.le_of_eq e0))
  exact ⟨fin_of_eq (sub_nan fa fb) fV e, e.trans e0⟩
theorem dy_i2d (n : Int32) : Dy (FP.i2d n) (n.toInt * ONE) := ⟨Core.i2d_fin n, DInt_zval (i2d_int n)⟩
theorem dy_l2d {n : Int64} (h : n.toInt.natAbs ≤ 2 ^ 53) : Dy (FP.l2d n) (n.toInt * ONE) := ⟨Core.l2d_fin n, DInt_zval (l2d_int h)⟩
theorem rep_nat (s : Bool) (n j : Nat) (hn : n < 2 ^ 53) (hj : j ≤ 1074) : Rep (signed s (n * 2 ^ (1074 - j))) := by
  obtain ⟨c, q, h1, h2⟩ := round_exact good_b64 s (c := n) (q := -(j : Int)) hn (by rw [qm]; omega) (by rw [show b64.qmax = 971 by decide +kernel]; omega)
  have e : val64 (of64 (round b64 (.fin s n (-(j : Int))))) = .fin s c q := by rw [val64_of64 (round_fits good_b64 _), h1]
  refine ⟨of64 (round b64 (.fin s n (-(j : Int)))), ⟨s, c, q, e⟩, ?_⟩
  unfold zv; rw [e]
  show signed s (inUnits c q b64.qmin) = _
  rw [h2, own_inU, qm, show (-(j : Int) - -1074).toNat = 1074 - j by omega]
/-- n / 2^j is a double -/
theorem rep_int (n : Int) (j : Nat) (hn : n.natAbs < 2 ^ 53) (hj : j ≤ 1074) : Rep (n * ((2 ^ (1074 - j) : Nat) : Int)) := by
  have h := rep_nat (decide (n < 0)) n.natAbs j hn hj
  rw [signed_mul] at h
  have e : signed (decide (n < 0)) n.natAbs = n := by
    by_cases q : n < 0
    · simp only [q, decide_true, sg_t]; omega
    · simp only [q, decide_false, sg_f]; omega
  rwa [e] at h
theorem rep_whole (n : Int) (hn : n.natAbs < 2 ^ 53) : Rep (n * ONE) := rep_int n 0 hn (by decide)
theorem cv {a b : UInt64} (ha : val64 a ≠ .nan) (hb : val64 b ≠ .nan) (o : ClassFile.CmpOp) : cmpValue (FP.dcmp a b) o = if zv a < zv b then -1 else if zv a = zv b then 0 else 1 := by
  rw [show FP.dcmp a b = some (compare (zv a) (zv b)) from dcmp_zval ha hb, compare_ite]
  by_cases h1 : zv a < zv b
  · rw [if_pos h1, if_pos h1]; rfl
  · rw [if_neg h1, if_neg h1]
    by_cases h2 : zv a = zv b
    · rw [if_pos h2, if_pos h2]; rfl
    · rw [if_neg h2, if_neg h2]; rfl
theorem cv_lt {a b : UInt64} (ha : val64 a ≠ .nan) (hb : val64 b ≠ .nan) (o : ClassFile.CmpOp) : cmpValue (FP.dcmp a b) o < 0 ↔ zv a < zv b := by
  rw [cv ha hb]
  by_cases h1 : zv a < zv b
  · rw [if_pos h1]; exact ⟨fun _ => h1, fun _ => by decide⟩
  · by_cases h2 : zv a = zv b
    · rw [if_neg h1, if_pos h2]; exact ⟨fun h => absurd h (by decide), fun h => absurd h h1⟩
    · rw [if_neg h1, if_neg h2]; exact ⟨fun h => absurd h (by decide), fun h => absurd h h1⟩
theorem cv_gt {a b : UInt64} (ha : val64 a ≠ .nan) (hb : val64 b ≠ .nan) (o : ClassFile.CmpOp) : 0 < cmpValue (FP.dcmp a b) o ↔ zv b < zv a := by
  rw [cv ha hb]
  by_cases h1 : zv a < zv b
  · rw [if_pos h1]; exact ⟨fun h => absurd h (by decide), fun h => by omega⟩
  · by_cases h2 : zv a = zv b
    · rw [if_neg h1, if_pos h2]; exact ⟨fun h => absurd h (by decide), fun h => by omega⟩
    · rw [if_neg h1, if_neg h2]; exact ⟨fun _ => by omega, fun _ => by decide⟩
theorem cv_eq {a b : UInt64} (ha : val64 a ≠ .nan) (hb : val64 b ≠ .nan) (o : ClassFile.CmpOp) : cmpValue (FP.dcmp a b) o = 0 ↔ zv a = zv b := by
  rw [cv ha hb]
  by_cases h1 : zv a < zv b
  · rw [if_pos h1]; exact ⟨fun h => absurd h (by decide), fun h => by omega⟩
  · by_cases h2 : zv a = zv b
    · rw [if_neg h1, if_pos h2]; exact ⟨fun _ => h2, fun _ => rfl⟩
    · rw [if_neg h1, if_neg h2]; exact ⟨fun h => absurd h (by decide), fun h => absurd h h2⟩
theorem dy_zero : Dy 0 0 := ⟨⟨_, _, _, val64_zero⟩, zval64_zero⟩
theorem dy_lit (a : UInt64) (x : Int) (h1 : a.toNat % 2 ^ 63 < 9218868437227405312) (h2 : zval b64 (val64 a) = x) : Dy a x := ⟨(fin_bits a).mpr h1, h2⟩
theorem dy_one : Dy 4607182418800017408 ONE := dy_lit _ _ (by decide) (by have := DInt_zval dint_one; rw [Int.one_mul] at this; exact this)
/-- two quotients of one ratio are one double -/
theorem div_congr {a b a' b' : UInt64} (ha : DFin a) (hb : DFin b) (ha' : DFin a') (hb' : DFin b') (h0 : 0 ≤ zv a) (h0' : 0 ≤ zv a') (hz : 0 < zv b) (hz' : 0 < zv b') (h : zv a * zv b' = zv a' * zv b) : zv (FP.ddiv a b) = zv (FP.ddiv a' b') := by
  obtain ⟨s, c, q, e1, f1, z1⟩ := fin_at ha
  obtain ⟨t, d, r, e2, f2, z2⟩ := fin_at hb
  obtain ⟨s', c', q', e1', f1', z1'⟩ := fin_at ha'
  obtain ⟨t', d', r', e2', f2', z2'⟩ := fin_at hb'
  rw [z1] at h0; rw [z1'] at h0'; rw [z2] at hz; rw [z2'] at hz'
  rw [z1, z1', z2, z2'] at h
  obtain rfl : t = false := by cases t <;> simp only [sg_t, sg_f] at hz <;> first | rfl | omega
  obtain rfl : t' = false := by cases t' <;> simp only [sg_t, sg_f] at hz' <;> first | rfl | omega
  have k1 : signed s (inUnits c q b64.qmin) = (inUnits c q b64.qmin : Int) := by cases s <;> simp only [sg_t, sg_f] at h0 ⊢; omega
  have k2 : signed s' (inUnits c' q' b64.qmin) = (inUnits c' q' b64.qmin : Int) := by cases s' <;> simp only [sg_t, sg_f] at h0' ⊢; omega
  rw [k1, k2, sg_f, sg_f] at h
  have hN : inUnits c q b64.qmin * inUnits d' r' b64.qmin = inUnits c' q' b64.qmin * inUnits d r b64.qmin := by exact_mod_cast h
  have hd : d ≠ 0 := fun x => by rw [x, units_zero.mpr rfl] at hz; simp [sg_f] at hz
  have hd' : d' ≠ 0 := fun x => by rw [x, units_zero.mpr rfl] at hz'; simp [sg_f] at hz'
  have g1 := f1.2.1; have g2 := f2.2.1; have g3 := f1'.2.1; have g4 := f2'.2.1
  have key : zmag b64 (roundRatio b64 (s != false) c d (q - r)) = zmag b64 (roundRatio b64 (s' != false) c' d' (q' - r')) := by
    have E : roundRatio b64 false c d (q - r) = roundRatio b64 false c' d' (q' - r') := by
      refine roundRatio_congr (Nat.pos_of_ne_zero hd) (Nat.pos_of_ne_zero hd') ?_
      simp only [own_inU] at hN
      generalize b64.qmin = Q at *
      have a1 : c * 2 ^ (q - Q).toNat * (d' * 2 ^ (r' - Q).toNat) = c * d' * 2 ^ ((q - Q).toNat + (r' - Q).toNat) := by rw [Nat.pow_add]; simp only [Nat.mul_assoc, Nat.mul_left_comm, Nat.mul_comm]
      have a2 : c' * 2 ^ (q' - Q).toNat * (d * 2 ^ (r - Q).toNat) = c' * d * 2 ^ ((q' - Q).toNat + (r - Q).toNat) := by rw [Nat.pow_add]; simp only [Nat.mul_assoc, Nat.mul_left_comm, Nat.mul_comm]
      rw [a1, a2] at hN
      by_cases hle : (q - r) ≤ (q' - r')
      · have x1 : (q - r - (q' - r')).toNat = 0 := by omega
        rw [x1, Nat.pow_zero, Nat.mul_one]
        have x2 : (q' - Q).toNat + (r - Q).toNat = (q' - r' - (q - r)).toNat + ((q - Q).toNat + (r' - Q).toNat) := by omega
        rw [x2, Nat.pow_add 2 (q' - r' - (q - r)).toNat, ← Nat.mul_assoc] at hN
        exact Nat.eq_of_mul_eq_mul_right (Nat.two_pow_pos _) hN
      · have x1 : (q' - r' - (q - r)).toNat = 0 := by omega
        rw [x1, Nat.pow_zero, Nat.mul_one]
        have x2 : (q - Q).toNat + (r' - Q).toNat = (q - r - (q' - r')).toNat + ((q' - Q).toNat + (r - Q).toNat) := by omega
        rw [x2, Nat.pow_add 2 (q - r - (q' - r')).toNat, ← Nat.mul_assoc] at hN
        exact Nat.eq_of_mul_eq_mul_right (Nat.two_pow_pos _) hN
    have neg : ∀ (u : Bool) (A B : Nat) (x : Int), zmag b64 (roundRatio b64 u A B x) = zmag b64 (roundRatio b64 false A B x) := fun u A B x => by
      cases u
      · rfl
      · have := negate_roundRatio b64 false A B x
        rw [Bool.not_false] at this
        rw [← this]
        cases roundRatio b64 false A B x <;> rfl
    rw [neg, E, ← neg (s' != false)]
  have zd : zv (FP.ddiv a b) = signed (s != false) (zmag b64 (roundRatio b64 (s != false) c d (q - r))) := by
    unfold zv; rw [vv_ddiv, e1, e2, own_quot, if_neg hd]; unfold zval; rw [sgn_roundRatio]
  have zd' : zv (FP.ddiv a' b') = signed (s' != false) (zmag b64 (roundRatio b64 (s' != false) c' d' (q' - r'))) := by
    unfold zv; rw [vv_ddiv, e1', e2', own_quot, if_neg hd']; unfold zval; rw [sgn_roundRatio]
  have ge1 : 0 ≤ zv (FP.ddiv a b) := by
    have := div_ge_pos ha hb (by rw [z2, sg_f]; rw [sg_f] at hz; exact hz) (V := 0) dy_zero.nn (by rw [dy_zero.2, Int.zero_mul, z1, k1]; exact Int.mul_nonneg (by omega) (by have := one_pos; omega))
    rw [dy_zero.2] at this; exact this
  have ge2 : 0 ≤ zv (FP.ddiv a' b') := by
    have := div_ge_pos ha' hb' (by rw [z2', sg_f]; rw [sg_f] at hz'; exact hz') (V := 0) dy_zero.nn (by rw [dy_zero.2, Int.zero_mul, z1', k2]; exact Int.mul_nonneg (by omega) (by have := one_pos; omega))
    rw [dy_zero.2] at this; exact this
  rw [zd] at ge1 ⊢; rw [zd'] at ge2 ⊢
  rw [key] at ge1 ⊢
  generalize zmag b64 (roundRatio b64 (s' != false) c' d' (q' - r')) = M at *
  cases s <;> cases s' <;> simp only [sg_t, sg_f, Bool.bne_false, bne_self_eq_false] at ge1 ge2 ⊢ <;> omega
theorem one_le {x y : Int} : x * ONE ≤ y * ONE ↔ x ≤ y := ⟨fun h => Int.le_of_mul_le_mul_right h one_pos, fun h => Int.mul_le_mul_of_nonneg_right h (Int.le_of_lt one_pos)⟩
theorem one_lt {x y : Int} : x * ONE < y * ONE ↔ x < y := ⟨fun h => Int.lt_of_mul_lt_mul_right h (Int.le_of_lt one_pos), fun h => Int.mul_lt_mul_of_pos_right h one_pos⟩
theorem one_eq {x y : Int} : x * ONE = y * ONE ↔ x = y := ⟨fun h => Int.le_antisymm (one_le.mp (Int.le_of_eq h)) (one_le.mp (Int.le_of_eq h.symm)), fun h => h ▸ rfl⟩
theorem mul_bd {a b : Int} {A B : Nat} (ha : a.natAbs ≤ A) (hb : b.natAbs ≤ B) : (a * b).natAbs ≤ A * B := by rw [Int.natAbs_mul]; exact Nat.mul_le_mul ha hb
/-- comparison of two doubles that are whole numbers -/
theorem cw_lt {a b : UInt64} {x y : Int} (ha : Dy a (x * ONE)) (hb : Dy b (y * ONE)) (o : ClassFile.CmpOp) : cmpValue (FP.dcmp a b) o < 0 ↔ x < y := by rw [cv_lt ha.nn hb.nn, ha.2, hb.2, one_lt]
theorem cw_gt {a b : UInt64} {x y : Int} (ha : Dy a (x * ONE)) (hb : Dy b (y * ONE)) (o : ClassFile.CmpOp) : 0 < cmpValue (FP.dcmp a b) o ↔ y < x := by rw [cv_gt ha.nn hb.nn, ha.2, hb.2, one_lt]
theorem cw_eq {a b : UInt64} {x y : Int} (ha : Dy a (x * ONE)) (hb : Dy b (y * ONE)) (o : ClassFile.CmpOp) : cmpValue (FP.dcmp a b) o = 0 ↔ x = y := by rw [cv_eq ha.nn hb.nn, ha.2, hb.2, one_eq]
theorem dy_zero' : Dy 0 (0 * ONE) := by rw [Int.zero_mul]; exact dy_zero
theorem dw_add {a b : UInt64} {x y : Int} (ha : Dy a (x * ONE)) (hb : Dy b (y * ONE)) (h : (x + y).natAbs < 2 ^ 53) : Dy (FP.dadd a b) ((x + y) * ONE) := by
  have := dy_add ha hb (by rw [← Int.add_mul]; exact rep_whole _ h)
  rwa [← Int.add_mul] at this
theorem dw_sub {a b : UInt64} {x y : Int} (ha : Dy a (x * ONE)) (hb : Dy b (y * ONE)) (h : (x - y).natAbs < 2 ^ 53) : Dy (FP.dsub a b) ((x - y) * ONE) := by
  have := dy_sub ha hb (by rw [← Int.sub_mul]; exact rep_whole _ h)
  rwa [← Int.sub_mul] at this
theorem dw_mul {a b : UInt64} {x y : Int} (ha : Dy a (x * ONE)) (hb : Dy b (y * ONE)) (h : (x * y).natAbs < 2 ^ 53) : Dy (FP.dmul a b) ((x * y) * ONE) :=
  dy_mul ha hb (rep_whole _ h) (by simp only [Int.mul_assoc, Int.mul_left_comm, Int.mul_comm])
/-- twice a double that isn't too great is a double -/
theorem rep_dbl {a : UInt64} (h : DFin a) (hs : zmag b64 (val64 a) < 2 ^ 2000) : Rep (zv a + zv a) := by
  obtain ⟨s, c, q, e, f, z⟩ := fin_at h
  have hz : zmag b64 (val64 a) = inUnits c q b64.qmin := by rw [e]; rfl
  rw [hz, own_inU] at hs
  by_cases hc : c = 0
  · subst hc
    refine ⟨0, ⟨_, _, _, val64_zero⟩, ?_⟩
    rw [z, own_inU, Nat.zero_mul, signed_zero]; exact zval64_zero
  have hq : q + 1 ≤ b64.qmax := by
    rw [show b64.qmax = 971 by decide +kernel]
    refine Int.not_lt.mp fun r => ?_
    have k : 2 ^ 2000 ≤ 2 ^ (q - b64.qmin).toNat := Nat.pow_le_pow_right (by decide) (by rw [qm]; omega)
    have : 2 ^ (q - b64.qmin).toNat ≤ c * 2 ^ (q - b64.qmin).toNat := Nat.le_mul_of_pos_left _ (Nat.pos_of_ne_zero hc)
    omega
  have f2 := f.2.1
  obtain ⟨c', q', h1, h2⟩ := round_exact good_b64 s (c := c) (q := q + 1) f.1 (by omega) hq
  have e' : val64 (of64 (round b64 (.fin s c (q + 1)))) = .fin s c' q' := by rw [val64_of64 (round_fits good_b64 _), h1]
  refine ⟨of64 (round b64 (.fin s c (q + 1))), ⟨s, c', q', e'⟩, ?_⟩
  unfold zv; rw [e', e]
  show signed s (inUnits c' q' b64.qmin) = signed s (inUnits c q b64.qmin) + signed s (inUnits c q b64.qmin)
  rw [h2, own_inU, own_inU, show (q + 1 - b64.qmin).toNat = (q - b64.qmin).toNat + 1 by omega, Nat.pow_succ]
  generalize 2 ^ (q - b64.qmin).toNat = P
  have : c * (P * 2) = c * P + c * P := by rw [← Nat.mul_assoc, Nat.mul_two]
  rw [this]
  cases s
  · simp only [sg_f]; omega
  · simp only [sg_t]; omega
theorem l2d_small (n : Int64) : zmag b64 (val64 (FP.l2d n)) < 2 ^ 2000 := by
  have h := Core.l2d_mag n
  obtain ⟨s, c, q, e, k⟩ := mag_bits h (by decide)
  rw [e]
  show inUnits c q b64.qmin < _
  rw [own_inU]
  refine Nat.lt_of_lt_of_le k ?_
  rw [← Nat.pow_add]
  exact Nat.pow_le_pow_right (by decide) (by decide)
/-- a finite double's test of being finite -/
theorem mask_fin {a : UInt64} (h : DFin a) (o : ClassFile.CmpOp) : ¬ (0 < cmpValue (FP.dcmp (a &&& 0x7fffffffffffffff) 9218868437227405311) o) := by
  have q := (le_max h.notNaN).mpr h
  intro r
  rcases q with q | q
  · rw [show FP.dcmp (a &&& 0x7fffffffffffffff) 9218868437227405311 = some .lt from q] at r; cases o <;> exact absurd r (by decide)
  · rw [show FP.dcmp (a &&& 0x7fffffffffffffff) 9218868437227405311 = some .eq from q] at r; cases o <;> exact absurd r (by decide)
end Jvm.OwnFl
namespace Jvm.Pilot.@@N@@
open Jvm Jvm.ClassFile Sem Op Lib Jvm.Free Jvm.Stand Jvm.LawKit Jvm.RoadKit Jvm.OwnSt Bundle Jvm.Pilot.@@N@@.Jvm.D
def own_P (g i : Int32) (L : List Int32) : Prop := ¬ g < 0 ∧ ¬ i < g ∧ g < 4 ∧ L.getD g.toNatClampNeg 0 = g
def own_ok (g0 g1 g2 g3 : Int32) : Prop := own_P g0 0 [g0, g1, g2, g3] ∧ own_P g1 1 [g0, g1, g2, g3] ∧ own_P g2 2 [g0, g1, g2, g3] ∧ own_P g3 3 [g0, g1, g2, g3]
def own_al (g0 g1 g2 g3 : Int32) : Prop := g0 = 0 ∧ g1 = 1 ∧ g2 = 2 ∧ g3 = 3
theorem own_nal {g0 g1 g2 g3 : Int32} (h : ¬ own_al g0 g1 g2 g3) : (((((1 : Int32) &&& (if g0 = (0 : Int32) then (1 : Int32) else (0 : Int32))) &&& (if g1 = (1 : Int32) then (1 : Int32) else (0 : Int32))) &&& (if g2 = (2 : Int32) then (1 : Int32) else (0 : Int32))) &&& (if g3 = (3 : Int32) then (1 : Int32) else (0 : Int32))) = 0 := by
  unfold own_al at h
  by_cases h0 : g0 = 0 <;> by_cases h1 : g1 = 1 <;> by_cases h2 : g2 = 2 <;> by_cases h3 : g3 = 3 <;> simp only [h0, h1, h2, h3, if_true, if_false] <;> first | decide | (exact absurd ⟨h0, h1, h2, h3⟩ h)
def own_fin4 (m0 m1 m2 m3 : UInt64) : Prop := Jvm.Free.Fl.Fin64 m0 ∧ Jvm.Free.Fl.Fin64 m1 ∧ Jvm.Free.Fl.Fin64 m2 ∧ Jvm.Free.Fl.Fin64 m3
theorem own_nn0 : Jvm.Free.Fl.NoNaN64 (0 : UInt64) := by unfold Jvm.Free.Fl.NoNaN64; decide
theorem own_nnif {c : Prop} [Decidable c] {a b : UInt64} (h1 : Jvm.Free.Fl.NoNaN64 a) (h2 : Jvm.Free.Fl.NoNaN64 b) : Jvm.Free.Fl.NoNaN64 (if c then a else b) := by split <;> assumption
def own_pat (g1 g2 g3 : Int32) : Prop := (g1 = 0 ∧ g2 = 0 ∧ g3 = 0) ∨ (g1 = 0 ∧ g2 = 0 ∧ g3 = 3) ∨ (g1 = 0 ∧ g2 = 2 ∧ g3 = 0) ∨ (g1 = 0 ∧ g2 = 2 ∧ g3 = 2) ∨ (g1 = 0 ∧ g2 = 2 ∧ g3 = 3) ∨ (g1 = 1 ∧ g2 = 0 ∧ g3 = 0) ∨ (g1 = 1 ∧ g2 = 0 ∧ g3 = 1) ∨ (g1 = 1 ∧ g2 = 0 ∧ g3 = 3) ∨ (g1 = 1 ∧ g2 = 1 ∧ g3 = 0) ∨ (g1 = 1 ∧ g2 = 1 ∧ g3 = 1) ∨ (g1 = 1 ∧ g2 = 1 ∧ g3 = 3) ∨ (g1 = 1 ∧ g2 = 2 ∧ g3 = 0) ∨ (g1 = 1 ∧ g2 = 2 ∧ g3 = 1) ∨ (g1 = 1 ∧ g2 = 2 ∧ g3 = 2)
def own_alp (p : Int32) : Prop := (p &&& (1 : Int32)) = 1 ∧ ((((p.toUInt32 >>> ((1 : Int32) &&& 31).toUInt32).toInt32) &&& (3 : Int32)) % (3 : Int32)) = 2 ∧ (((p.toUInt32 >>> ((3 : Int32) &&& 31).toUInt32).toInt32) &&& (3 : Int32)) = 3
instance (p : Int32) : Decidable (own_alp p) := by unfold own_alp; infer_instance
theorem own_cs {p x1 x2 x3 : Int32} (h1 : x1 = (p &&& (1 : Int32))) (h2 : x2 = ((((p.toUInt32 >>> ((1 : Int32) &&& 31).toUInt32).toInt32) &&& (3 : Int32)) % (3 : Int32))) (h3 : x3 = (((p.toUInt32 >>> ((3 : Int32) &&& 31).toUInt32).toInt32) &&& (3 : Int32))) : (x1 = 0 ∨ x1 = 1) ∧ (x2 = 0 ∨ x2 = 1 ∨ x2 = 2) ∧ (x3 = 0 ∨ x3 = 1 ∨ x3 = 2 ∨ x3 = 3) := by
  have k1 : ∀ y : Int32, (y &&& (1 : Int32)).toInt = y.toInt % 2 := fun y => Jvm.Kit.i32_mask y _ (k := 1) (by decide) (by decide)
  have k3 : ∀ y : Int32, (y &&& (3 : Int32)).toInt = y.toInt % 4 := fun y => Jvm.Kit.i32_mask y _ (k := 2) (by decide) (by decide)
  have e1 : x1.toInt = p.toInt % 2 := by rw [h1, k1]
  have e3 := congrArg Int32.toInt h3
  rw [k3] at e3
  have e2 := congrArg Int32.toInt h2
  rw [Jvm.Kit.i32_rem_nonneg (by rw [k3]; omega), k3, show (3 : Int32).toInt = 3 from rfl] at e2
  have z : ∀ (x j : Int32), x.toInt = j.toInt → x = j := fun x j q => Int32.toInt_inj.mp q
  have a1 : x1.toInt = 0 ∨ x1.toInt = 1 := by omega
  have a2 : x2.toInt = 0 ∨ x2.toInt = 1 ∨ x2.toInt = 2 := by omega
  have a3 : x3.toInt = 0 ∨ x3.toInt = 1 ∨ x3.toInt = 2 ∨ x3.toInt = 3 := by omega
  exact ⟨a1.imp (z _ 0) (z _ 1), a2.imp (z _ 0) (Or.imp (z _ 1) (z _ 2)), a3.imp (z _ 0) (Or.imp (z _ 1) (Or.imp (z _ 2) (z _ 3)))⟩
theorem own_np {p x1 x2 x3 g1 g2 g3 : Int32} (h1 : x1 = (p &&& (1 : Int32))) (h2 : x2 = ((((p.toUInt32 >>> ((1 : Int32) &&& 31).toUInt32).toInt32) &&& (3 : Int32)) % (3 : Int32))) (h3 : x3 = (((p.toUInt32 >>> ((3 : Int32) &&& 31).toUInt32).toInt32) &&& (3 : Int32))) (k1 : g1 = (if x1 = (1 : Int32) then (1 : Int32) else (0 : Int32))) (k2 : g2 = (if x2 = (2 : Int32) then (2 : Int32) else (([(0 : Int32), g1, (0 : Int32), (0 : Int32)] : List Int32).getD x2.toNatClampNeg (0 : Int32)))) (k3 : g3 = (if x3 = (3 : Int32) then (3 : Int32) else (([(0 : Int32), g1, g2, (0 : Int32)] : List Int32).getD x3.toNatClampNeg (0 : Int32)))) (hal : ¬ own_alp p) : own_pat g1 g2 g3 := by
  obtain ⟨C1, C2, C3⟩ := own_cs h1 h2 h3
  have hal' : ¬ (x1 = 1 ∧ x2 = 2 ∧ x3 = 3) := fun q => hal ⟨h1 ▸ q.1, h2 ▸ q.2.1, h3 ▸ q.2.2⟩
  clear h1 h2 h3 hal
  subst k1
  subst k2
  subst k3
  rcases C1 with rfl | rfl <;> rcases C2 with rfl | rfl | rfl <;> rcases C3 with rfl | rfl | rfl | rfl <;> first | (unfold own_pat; decide) | (exact absurd ⟨rfl, rfl, rfl⟩ hal')
theorem own_ap {p x1 x2 x3 g1 g2 g3 : Int32} (h1 : x1 = (p &&& (1 : Int32))) (h2 : x2 = ((((p.toUInt32 >>> ((1 : Int32) &&& 31).toUInt32).toInt32) &&& (3 : Int32)) % (3 : Int32))) (h3 : x3 = (((p.toUInt32 >>> ((3 : Int32) &&& 31).toUInt32).toInt32) &&& (3 : Int32))) (k1 : g1 = (if x1 = (1 : Int32) then (1 : Int32) else (0 : Int32))) (k2 : g2 = (if x2 = (2 : Int32) then (2 : Int32) else (([(0 : Int32), g1, (0 : Int32), (0 : Int32)] : List Int32).getD x2.toNatClampNeg (0 : Int32)))) (k3 : g3 = (if x3 = (3 : Int32) then (3 : Int32) else (([(0 : Int32), g1, g2, (0 : Int32)] : List Int32).getD x3.toNatClampNeg (0 : Int32)))) (hal : own_alp p) : g1 = 1 ∧ g2 = 2 ∧ g3 = 3 := by
  obtain ⟨q1, q2, q3⟩ := hal
  rw [← h1] at q1; rw [← h2] at q2; rw [← h3] at q3
  refine ⟨by rw [k1, if_pos q1], by rw [k2, if_pos q2], by rw [k3, if_pos q3]⟩
def own_S0 (g1 g2 g3 : Int32) (m0 m1 m2 m3 : UInt64) : UInt64 := if g3 = 0 then FP.dadd (if g2 = 0 then FP.dadd (if g1 = 0 then FP.dadd m0 m1 else m0) m2 else (if g1 = 0 then FP.dadd m0 m1 else m0)) m3 else (if g2 = 0 then FP.dadd (if g1 = 0 then FP.dadd m0 m1 else m0) m2 else (if g1 = 0 then FP.dadd m0 m1 else m0))
def own_S1 (g2 g3 : Int32) (m1 m2 m3 : UInt64) : UInt64 := if g3 = 1 then FP.dadd (if g2 = 1 then FP.dadd m1 m2 else m1) m3 else (if g2 = 1 then FP.dadd m1 m2 else m1)
def own_S2 (g3 : Int32) (m2 m3 : UInt64) : UInt64 := if g3 = 2 then FP.dadd m2 m3 else m2
def own_x0 (g1 g2 g3 : Int32) (m0 m1 m2 m3 : UInt64) : UInt64 := own_S0 g1 g2 g3 m0 m1 m2 m3
def own_x1 (g1 g2 g3 : Int32) (m0 m1 m2 m3 : UInt64) : UInt64 := if g1 = 0 then own_S0 g1 g2 g3 m0 m1 m2 m3 else own_S1 g2 g3 m1 m2 m3
def own_x2 (g1 g2 g3 : Int32) (m0 m1 m2 m3 : UInt64) : UInt64 := if g2 = 0 then own_S0 g1 g2 g3 m0 m1 m2 m3 else if g2 = 1 then own_S1 g2 g3 m1 m2 m3 else own_S2 g3 m2 m3
def own_x3 (g1 g2 g3 : Int32) (m0 m1 m2 m3 : UInt64) : UInt64 := if g3 = 0 then own_S0 g1 g2 g3 m0 m1 m2 m3 else if g3 = 1 then own_S1 g2 g3 m1 m2 m3 else if g3 = 2 then own_S2 g3 m2 m3 else m3
theorem pd_0 : parseMethodDescriptor "(D)D" = some ⟨[.double], some .double⟩ := by decide +kernel
theorem d3_0 : decode jdk_117_method_8_code 0 = .ok (.dload_n 0, 1) := by decide +kernel
theorem d3_1 : decode jdk_117_method_8_code 1 = .ok (.invokestatic 38, 3) := by decide +kernel
theorem d3_4 : decode jdk_117_method_8_code 4 = .ok (.ldc2_w 111, 3) := by decide +kernel
theorem d3_7 : decode jdk_117_method_8_code 7 = .ok (.dcmp .g, 1) := by decide +kernel
theorem d3_8 : decode jdk_117_method_8_code 8 = .ok (.ifCond .gt 7, 3) := by decide +kernel
theorem d3_11 : decode jdk_117_method_8_code 11 = .ok (.iconst 1, 1) := by decide +kernel
theorem d3_12 : decode jdk_117_method_8_code 12 = .ok (.goto 4, 3) := by decide +kernel
theorem d3_15 : decode jdk_117_method_8_code 15 = .ok (.iconst 0, 1) := by decide +kernel
theorem d3_16 : decode jdk_117_method_8_code 16 = .ok (.ireturn, 1) := by decide +kernel
theorem pn_3 : plainName "java/lang/Double" = true := by first | (simp [plainName, overriddenIn]; done) | decide +kernel
theorem ef3 (m : MethodId) (d0 : UInt64) : entryFrame m #[(.double d0)] 2 = mkF m 0 #[dv d0, .second] [] := by first | (simp [entryFrame, mkF, argsToLocals, Value.category]; done) | rfl
abbrev room_of_3 : Room := { frames := 1, cells := 0, slots := 0, locals := 13 }
def rv3 (d0 : UInt64) : Int32 := (if (0 : Int32) < (cmpValue (FP.dcmp (d0 &&& (0x7fffffffffffffff : UInt64)) (9218868437227405311 : UInt64)) .g) then (0 : Int32) else (1 : Int32))
def Q3 (Z : State) (d0 : UInt64) (h0 : Heap) (n0 : Nat) (v : Option Value) (h : Heap) (L : List Loc) : Prop := v = some (.int (rv3 d0)) ∧ L = [] ∧ h = h0
set_option maxRecDepth 65536 in
set_option maxHeartbeats 40000000 in
theorem rm3 (l : Launch) (Z : State) (a0 : Array Value) (hw : ∀ d ∈ tables_1, d.before a0 Z = true) (ws : List Jvm.Cond) (d0 : UInt64)  (h0 : Heap) (n0 : Nat) (Z0 : n0 ≤ h0.size) (hnn1 : Jvm.Free.Fl.NoNaN64 d0) :
    MetFree l (⟨"java/lang/Double", "isFinite", "(D)Z"⟩ : MethodName) (head1 (Jvm.Cond.code (⟨"java/lang/Double", "isFinite", "(D)Z"⟩ : MethodName) jdk_117_method_8_code 2 (some .boolean) :: ws) (room_of_3)) (fun a U => a = #[(.double d0)] ∧ Z.Warmed39 U.vm ∧ U.heap = h0) (fun _ _ _ _ _ => True) (fun _ U o U' => ∃ v L, o = .returned v ∧ Q3 Z d0 h0 n0 v U'.heap L ∧ FrameEnd U o U' L (room_of_3).cells (room_of_3).slots) := by
  refine MetFree.of_bodySF (plainFor_of_name pn_3) hisR ?_
  intro p e s m args below meth c s₁ Bd hml0 hP hK
  obtain ⟨rfl, hZ, hh⟩ := hP
  have hx := Bd.exec
  have hby := Bd.bytes
  have hml : c.maxLocals = 2 := hml0
  have hown : s.vm.findClass "java/lang/Double" = some m.cls := findClass_of_methodNamed Bd.named
  have hnm := (name_of_methodNamed Bd.named Bd.method).1
  have X0 : Stand p l e (room_of_3) s m #[(.double d0)] below meth c s₁ [] 0 0 := Stand.of_body Bd
  have e0 : s₁.heap = h0 := by rw [← hh, Bd.state]; rfl
  have N0 := Fr.nil n0
  have G0 := gd X0 hx hby
  have pre0 : ∀ t, Steps p.tables e below (s₁.setTop (mkF m 0 #[dv d0, .second] [])) t → Steps p.tables e below (s₁.setTop (entryFrame m #[(.double d0)] 2)) t := fun t k => castTop (ef3 m d0) k
  obtain ⟨T1, X1, e1, st1⟩ := natS X0 hx hZ (y := (⟨"java/lang/Math", "abs", "(D)D"⟩ : MethodName)) hown (wd hw 16 rfl) (wd hw 17 rfl) (wd hw 18 rfl) (wd hw 19 rfl) (by decide) e0 (W := 0) (F := fun a' => a' = #[.double d0] ∧ Jvm.Free.Fl.NoNaN64 d0) (fun h => Jvm.Free.Fl.Abs.absD_pays d0 h (by decide) (by decide)) (g := (mkF m 1 #[dv d0, .second] [(.double d0)])) rfl (by rw [hml]; rfl) (argsL := [(.double d0)]) (rest := []) (lenOf pd_0 rfl) rfl (by show 2 * 0 + _ ≤ _; exact Nat.le_of_eq rfl) (hb hby d3_1) (by decide) (by decide) ⟨rfl, (hnn1)⟩ rfl
  have G1 := gd X1 hx hby
  obtain ⟨T3, X3, e3, st3⟩ : ∃ T' : State, Stand p l e (room_of_3) s m #[(.double d0)] below meth c T' [] 0 0 ∧ T'.heap = h0 ∧ ∀ target, Steps p.tables e below (T'.setTop (mkF m 16 #[dv d0, .second] [(.int (if (0 : Int32) < (cmpValue (FP.dcmp (d0 &&& (0x7fffffffffffffff : UInt64)) (9218868437227405311 : UInt64)) .g) then (0 : Int32) else (1 : Int32)))])) target → Steps p.tables e below (T1.setTop (mkF m 8 #[dv d0, .second] [(.int (cmpValue (FP.dcmp (d0 &&& (0x7fffffffffffffff : UInt64)) (9218868437227405311 : UInt64)) .g))])) target := by
    by_cases hc8_2 : (0 : Int32) < (cmpValue (FP.dcmp (d0 &&& (0x7fffffffffffffff : UInt64)) (9218868437227405311 : UInt64)) .g)
    · refine ⟨T1, X1, e1, fun target kt => ?_⟩
      refine mifYes 15 G1 d3_8 ((if0 _ _).trans (tlt hc8_2).2.2.1) (by decide) rfl ?_
      refine miconst 16 G1 d3_15 (v := (0 : Int32)) rfl rfl ?_
      exact castTop (g' := (mkF m 16 #[dv d0, .second] [(.int (if (0 : Int32) < (cmpValue (FP.dcmp (d0 &&& (0x7fffffffffffffff : UInt64)) (9218868437227405311 : UInt64)) .g) then (0 : Int32) else (1 : Int32)))])) (by simp only [if_pos hc8_2]) kt
    · refine ⟨T1, X1, e1, fun target kt => ?_⟩
      refine mifNo 11 G1 d3_8 ((if0 _ _).trans (flt hc8_2).2.2.1) rfl ?_
      refine miconst 12 G1 d3_11 (v := (1 : Int32)) rfl rfl ?_
      refine mgoto 16 G1 d3_12 (by decide) rfl ?_
      exact castTop (g' := (mkF m 16 #[dv d0, .second] [(.int (if (0 : Int32) < (cmpValue (FP.dcmp (d0 &&& (0x7fffffffffffffff : UInt64)) (9218868437227405311 : UInt64)) .g) then (0 : Int32) else (1 : Int32)))])) (by simp only [if_neg hc8_2]) kt
  have G3 := gd X3 hx hby
  obtain ⟨fs, hr, hrun, hended, hW, hsame⟩ := X3.leave (v := some (.int (if (0 : Int32) < (cmpValue (FP.dcmp (d0 &&& (0x7fffffffffffffff : UInt64)) (9218868437227405311 : UInt64)) .g) then (0 : Int32) else (1 : Int32)))) (fun h => by rw [Bd.returns] at h; cases h)
  refine ⟨_, _, pre0 _ ?_, hrun, hended, _, _, rfl, ?_, ⟨_, rfl⟩, hW, hsame.mono (by decide) (by decide)⟩
  · show Steps p.tables e below (s₁.setTop (mkF m 0 #[dv d0, .second] [])) _
    refine mdloadN 1 G0 d3_0 rfl rfl ?_
    refine st1 _ ?_
    show Steps p.tables e below (T1.setTop (mkF m 4 #[dv d0, .second] [(.double (d0 &&& (0x7fffffffffffffff : UInt64)))])) _
    refine X1.ldc2DoubleC hx hown (mvT hZ (wd hw 20 rfl)) (g := (mkF m 4 #[dv d0, .second] [(.double (d0 &&& (0x7fffffffffffffff : UInt64)))])) rfl (hb hby d3_4) _ ?_
    show Steps p.tables e below (T1.setTop (mkF m 7 #[dv d0, .second] [(.double (9218868437227405311 : UInt64)), (.double (d0 &&& (0x7fffffffffffffff : UInt64)))])) _
    refine mdcmp 8 G1 d3_7 rfl ?_
    refine st3 _ ?_
    exact retOut X3 hx Bd.returns (by first | rfl | ((repeat' split) <;> rfl)) (Or.inl ⟨rfl, by simp, _, rfl⟩) (hb hby d3_16) hr
  · show Q3 Z d0 h0 n0 _ T3.heap _
    rw [e3]
    exact ⟨by simp only [rv3], rfl, rfl⟩
theorem pd_1 : parseMethodDescriptor "(D)Z" = some ⟨[.double], some .boolean⟩ := by decide +kernel
theorem d1_0 : decode prog_115_method_2_code 0 = .ok (.aload_n 0, 1) := by decide +kernel
theorem d1_1 : decode prog_115_method_2_code 1 = .ok (.invokespecial 7, 3) := by decide +kernel
theorem d1_4 : decode prog_115_method_2_code 4 = .ok (.aload_n 1, 1) := by decide +kernel
theorem d1_5 : decode prog_115_method_2_code 5 = .ok (.arraylength, 1) := by decide +kernel
theorem d1_6 : decode prog_115_method_2_code 6 = .ok (.aload_n 2, 1) := by decide +kernel
theorem d1_7 : decode prog_115_method_2_code 7 = .ok (.arraylength, 1) := by decide +kernel
theorem d1_8 : decode prog_115_method_2_code 8 = .ok (.if_icmp .ne 14, 3) := by decide +kernel
theorem d1_11 : decode prog_115_method_2_code 11 = .ok (.aload_n 3, 1) := by decide +kernel
theorem d1_12 : decode prog_115_method_2_code 12 = .ok (.ifnull 43, 3) := by decide +kernel
theorem d1_15 : decode prog_115_method_2_code 15 = .ok (.aload_n 3, 1) := by decide +kernel
theorem d1_16 : decode prog_115_method_2_code 16 = .ok (.arraylength, 1) := by decide +kernel
theorem d1_17 : decode prog_115_method_2_code 17 = .ok (.aload_n 1, 1) := by decide +kernel
theorem d1_18 : decode prog_115_method_2_code 18 = .ok (.arraylength, 1) := by decide +kernel
theorem d1_19 : decode prog_115_method_2_code 19 = .ok (.if_icmp .eq 36, 3) := by decide +kernel
theorem d1_55 : decode prog_115_method_2_code 55 = .ok (.iconst 0, 1) := by decide +kernel
theorem d1_56 : decode prog_115_method_2_code 56 = .ok (.istore 4, 2) := by decide +kernel
theorem d1_58 : decode prog_115_method_2_code 58 = .ok (.iload 4, 2) := by decide +kernel
theorem d1_60 : decode prog_115_method_2_code 60 = .ok (.aload_n 1, 1) := by decide +kernel
theorem d1_61 : decode prog_115_method_2_code 61 = .ok (.arraylength, 1) := by decide +kernel
theorem d1_62 : decode prog_115_method_2_code 62 = .ok (.if_icmp .ge 115, 3) := by decide +kernel
theorem d1_65 : decode prog_115_method_2_code 65 = .ok (.aload_n 1, 1) := by decide +kernel
theorem d1_66 : decode prog_115_method_2_code 66 = .ok (.iload 4, 2) := by decide +kernel
theorem d1_68 : decode prog_115_method_2_code 68 = .ok (.daload, 1) := by decide +kernel
theorem d1_69 : decode prog_115_method_2_code 69 = .ok (.dconst 0, 1) := by decide +kernel
theorem d1_70 : decode prog_115_method_2_code 70 = .ok (.dcmp .l, 1) := by decide +kernel
theorem d1_71 : decode prog_115_method_2_code 71 = .ok (.ifCond .le 27, 3) := by decide +kernel
theorem d1_74 : decode prog_115_method_2_code 74 = .ok (.aload_n 2, 1) := by decide +kernel
theorem d1_75 : decode prog_115_method_2_code 75 = .ok (.iload 4, 2) := by decide +kernel
theorem d1_77 : decode prog_115_method_2_code 77 = .ok (.daload, 1) := by decide +kernel
theorem d1_78 : decode prog_115_method_2_code 78 = .ok (.dconst 0, 1) := by decide +kernel
theorem d1_79 : decode prog_115_method_2_code 79 = .ok (.dcmp .l, 1) := by decide +kernel
theorem d1_80 : decode prog_115_method_2_code 80 = .ok (.ifCond .le 18, 3) := by decide +kernel
theorem d1_83 : decode prog_115_method_2_code 83 = .ok (.aload_n 1, 1) := by decide +kernel
theorem d1_84 : decode prog_115_method_2_code 84 = .ok (.iload 4, 2) := by decide +kernel
theorem d1_86 : decode prog_115_method_2_code 86 = .ok (.daload, 1) := by decide +kernel
theorem d1_87 : decode prog_115_method_2_code 87 = .ok (.aload_n 2, 1) := by decide +kernel
theorem d1_88 : decode prog_115_method_2_code 88 = .ok (.iload 4, 2) := by decide +kernel
theorem d1_90 : decode prog_115_method_2_code 90 = .ok (.daload, 1) := by decide +kernel
theorem d1_91 : decode prog_115_method_2_code 91 = .ok (.dadd, 1) := by decide +kernel
theorem d1_92 : decode prog_115_method_2_code 92 = .ok (.invokestatic 26, 3) := by decide +kernel
theorem d1_95 : decode prog_115_method_2_code 95 = .ok (.ifCond .ne 24, 3) := by decide +kernel
theorem d1_119 : decode prog_115_method_2_code 119 = .ok (.aload_n 3, 1) := by decide +kernel
theorem d1_120 : decode prog_115_method_2_code 120 = .ok (.ifnull 51, 3) := by decide +kernel
theorem d1_123 : decode prog_115_method_2_code 123 = .ok (.aload_n 3, 1) := by decide +kernel
theorem d1_124 : decode prog_115_method_2_code 124 = .ok (.iload 4, 2) := by decide +kernel
theorem d1_126 : decode prog_115_method_2_code 126 = .ok (.iaload, 1) := by decide +kernel
theorem d1_127 : decode prog_115_method_2_code 127 = .ok (.ifCond .lt 25, 3) := by decide +kernel
theorem d1_130 : decode prog_115_method_2_code 130 = .ok (.aload_n 3, 1) := by decide +kernel
theorem d1_131 : decode prog_115_method_2_code 131 = .ok (.iload 4, 2) := by decide +kernel
theorem d1_133 : decode prog_115_method_2_code 133 = .ok (.iaload, 1) := by decide +kernel
theorem d1_134 : decode prog_115_method_2_code 134 = .ok (.iload 4, 2) := by decide +kernel
theorem d1_136 : decode prog_115_method_2_code 136 = .ok (.if_icmp .gt 16, 3) := by decide +kernel
theorem d1_139 : decode prog_115_method_2_code 139 = .ok (.aload_n 3, 1) := by decide +kernel
theorem d1_140 : decode prog_115_method_2_code 140 = .ok (.aload_n 3, 1) := by decide +kernel
theorem d1_141 : decode prog_115_method_2_code 141 = .ok (.iload 4, 2) := by decide +kernel
theorem d1_143 : decode prog_115_method_2_code 143 = .ok (.iaload, 1) := by decide +kernel
theorem d1_144 : decode prog_115_method_2_code 144 = .ok (.iaload, 1) := by decide +kernel
theorem d1_145 : decode prog_115_method_2_code 145 = .ok (.aload_n 3, 1) := by decide +kernel
theorem d1_146 : decode prog_115_method_2_code 146 = .ok (.iload 4, 2) := by decide +kernel
theorem d1_148 : decode prog_115_method_2_code 148 = .ok (.iaload, 1) := by decide +kernel
theorem d1_149 : decode prog_115_method_2_code 149 = .ok (.if_icmp .eq 22, 3) := by decide +kernel
theorem d1_171 : decode prog_115_method_2_code 171 = .ok (.iinc 4 1, 3) := by decide +kernel
theorem d1_174 : decode prog_115_method_2_code 174 = .ok (.goto (-116), 3) := by decide +kernel
theorem d1_177 : decode prog_115_method_2_code 177 = .ok (.iconst 1, 1) := by decide +kernel
theorem d1_178 : decode prog_115_method_2_code 178 = .ok (.istore 4, 2) := by decide +kernel
theorem d1_180 : decode prog_115_method_2_code 180 = .ok (.iconst 0, 1) := by decide +kernel
theorem d1_181 : decode prog_115_method_2_code 181 = .ok (.istore 5, 2) := by decide +kernel
theorem d1_183 : decode prog_115_method_2_code 183 = .ok (.aload_n 3, 1) := by decide +kernel
theorem d1_184 : decode prog_115_method_2_code 184 = .ok (.ifnull 35, 3) := by decide +kernel
theorem d1_187 : decode prog_115_method_2_code 187 = .ok (.iload 5, 2) := by decide +kernel
theorem d1_189 : decode prog_115_method_2_code 189 = .ok (.aload_n 3, 1) := by decide +kernel
theorem d1_190 : decode prog_115_method_2_code 190 = .ok (.arraylength, 1) := by decide +kernel
theorem d1_191 : decode prog_115_method_2_code 191 = .ok (.if_icmp .ge 28, 3) := by decide +kernel
theorem d1_194 : decode prog_115_method_2_code 194 = .ok (.iload 4, 2) := by decide +kernel
theorem d1_196 : decode prog_115_method_2_code 196 = .ok (.aload_n 3, 1) := by decide +kernel
theorem d1_197 : decode prog_115_method_2_code 197 = .ok (.iload 5, 2) := by decide +kernel
theorem d1_199 : decode prog_115_method_2_code 199 = .ok (.iaload, 1) := by decide +kernel
theorem d1_200 : decode prog_115_method_2_code 200 = .ok (.iload 5, 2) := by decide +kernel
theorem d1_202 : decode prog_115_method_2_code 202 = .ok (.if_icmp .ne 7, 3) := by decide +kernel
theorem d1_205 : decode prog_115_method_2_code 205 = .ok (.iconst 1, 1) := by decide +kernel
theorem d1_206 : decode prog_115_method_2_code 206 = .ok (.goto 4, 3) := by decide +kernel
theorem d1_209 : decode prog_115_method_2_code 209 = .ok (.iconst 0, 1) := by decide +kernel
theorem d1_210 : decode prog_115_method_2_code 210 = .ok (.iand, 1) := by decide +kernel
theorem d1_211 : decode prog_115_method_2_code 211 = .ok (.istore 4, 2) := by decide +kernel
theorem d1_213 : decode prog_115_method_2_code 213 = .ok (.iinc 5 1, 3) := by decide +kernel
theorem d1_216 : decode prog_115_method_2_code 216 = .ok (.goto (-33), 3) := by decide +kernel
theorem d1_219 : decode prog_115_method_2_code 219 = .ok (.aload_n 0, 1) := by decide +kernel
theorem d1_220 : decode prog_115_method_2_code 220 = .ok (.aload_n 1, 1) := by decide +kernel
theorem d1_221 : decode prog_115_method_2_code 221 = .ok (.invokevirtual 38, 3) := by decide +kernel
theorem d1_224 : decode prog_115_method_2_code 224 = .ok (.checkcast 39, 3) := by decide +kernel
theorem d1_227 : decode prog_115_method_2_code 227 = .ok (.putfield 44, 3) := by decide +kernel
theorem d1_230 : decode prog_115_method_2_code 230 = .ok (.aload_n 0, 1) := by decide +kernel
theorem d1_231 : decode prog_115_method_2_code 231 = .ok (.aload_n 2, 1) := by decide +kernel
theorem d1_232 : decode prog_115_method_2_code 232 = .ok (.invokevirtual 38, 3) := by decide +kernel
theorem d1_235 : decode prog_115_method_2_code 235 = .ok (.checkcast 39, 3) := by decide +kernel
theorem d1_238 : decode prog_115_method_2_code 238 = .ok (.putfield 47, 3) := by decide +kernel
theorem d1_241 : decode prog_115_method_2_code 241 = .ok (.aload_n 0, 1) := by decide +kernel
theorem d1_242 : decode prog_115_method_2_code 242 = .ok (.iload 4, 2) := by decide +kernel
theorem d1_244 : decode prog_115_method_2_code 244 = .ok (.ifCond .eq 7, 3) := by decide +kernel
theorem d1_247 : decode prog_115_method_2_code 247 = .ok (.aconst_null, 1) := by decide +kernel
theorem d1_248 : decode prog_115_method_2_code 248 = .ok (.goto 10, 3) := by decide +kernel
theorem d1_258 : decode prog_115_method_2_code 258 = .ok (.putfield 53, 3) := by decide +kernel
theorem d1_261 : decode prog_115_method_2_code 261 = .ok (.return_, 1) := by decide +kernel
theorem pn_1 : plainName "com/example/oceanus/oceanus/numerics/Tolerances" = true := by first | (simp [plainName, overriddenIn]; done) | decide +kernel
theorem ef1_al (m : MethodId) (o0 : Addr) (o1 : Addr) (o2 : Addr) (o3 : Addr) : entryFrame m #[(.ref o0), (.ref o1), (.ref o2), (.ref o3)] 6 = mkF m 0 #[rv o0, rv o1, rv o2, rv o3, .unset, .unset] [] := by first | (simp [entryFrame, mkF, argsToLocals, Value.category]; done) | rfl
abbrev room_of_1_al : Room := { frames := 2, cells := 2, slots := 8, locals := 26 }
def Q1_al (Z : State) (o0 : Addr) (o1 : Addr) (o2 : Addr) (o3 : Addr) (g0_ : Int32) (g1_ : Int32) (g2_ : Int32) (g3_ : Int32) (k1 : ClassId) (k2 : ClassId) (k3 : ClassId) (h0 : Heap) (n0 : Nat) (v : Option Value) (h : Heap) (L : List Loc) : Prop := v = none ∧ Fr n0 L ∧ Keep h0 h [o0] ∧ Exa Z h o0 "com/example/oceanus/oceanus/numerics/Tolerances" ∧ Fld Z h o0 "com/example/oceanus/oceanus/numerics/Tolerances" "groups" "[I" .null
theorem own_rm1_al_fc71 (o0 : Addr) (o1 : Addr) (o2 : Addr) (o3 : Addr) (g0_ : Int32) (g1_ : Int32) (g2_ : Int32) (g3_ : Int32) (k1 : ClassId) (k2 : ClassId) (k3 : ClassId) (hok : own_ok g0_ g1_ g2_ g3_) (hal : own_al g0_ g1_ g2_ g3_) : (0 : Int32) < (cmpValue (FP.dcmp (4607182418800017408 : UInt64) (0 : UInt64)) .l) := by decide +kernel
theorem own_rm1_al_fc80 (o0 : Addr) (o1 : Addr) (o2 : Addr) (o3 : Addr) (g0_ : Int32) (g1_ : Int32) (g2_ : Int32) (g3_ : Int32) (k1 : ClassId) (k2 : ClassId) (k3 : ClassId) (hok : own_ok g0_ g1_ g2_ g3_) (hal : own_al g0_ g1_ g2_ g3_) : (0 : Int32) < (cmpValue (FP.dcmp (4607182418800017408 : UInt64) (0 : UInt64)) .l) := by decide +kernel
theorem own_rm1_al_hn91 (o0 : Addr) (o1 : Addr) (o2 : Addr) (o3 : Addr) (g0_ : Int32) (g1_ : Int32) (g2_ : Int32) (g3_ : Int32) (k1 : ClassId) (k2 : ClassId) (k3 : ClassId) (hok : own_ok g0_ g1_ g2_ g3_) (hal : own_al g0_ g1_ g2_ g3_) : Jvm.Free.Fl.NoNaN64 (FP.dadd (4607182418800017408 : UInt64) (4607182418800017408 : UInt64)) := by unfold Jvm.Free.Fl.NoNaN64; decide +kernel
theorem own_rm1_al_hp_hnn1_92 (o0 : Addr) (o1 : Addr) (o2 : Addr) (o3 : Addr) (g0_ : Int32) (g1_ : Int32) (g2_ : Int32) (g3_ : Int32) (k1 : ClassId) (k2 : ClassId) (k3 : ClassId) (hok : own_ok g0_ g1_ g2_ g3_) (hal : own_al g0_ g1_ g2_ g3_) : Jvm.Free.Fl.NoNaN64 (FP.dadd (4607182418800017408 : UInt64) (4607182418800017408 : UInt64)) := by unfold Jvm.Free.Fl.NoNaN64; decide +kernel
theorem own_rm1_al_fc95 (o0 : Addr) (o1 : Addr) (o2 : Addr) (o3 : Addr) (g0_ : Int32) (g1_ : Int32) (g2_ : Int32) (g3_ : Int32) (k1 : ClassId) (k2 : ClassId) (k3 : ClassId) (hok : own_ok g0_ g1_ g2_ g3_) (hal : own_al g0_ g1_ g2_ g3_) : ¬ ((rv3 (FP.dadd (4607182418800017408 : UInt64) (4607182418800017408 : UInt64))) = (0 : Int32)) := by unfold rv3; decide +kernel
theorem own_rm1_al_fc127 (o0 : Addr) (o1 : Addr) (o2 : Addr) (o3 : Addr) (g0_ : Int32) (g1_ : Int32) (g2_ : Int32) (g3_ : Int32) (k1 : ClassId) (k2 : ClassId) (k3 : ClassId) (hok : own_ok g0_ g1_ g2_ g3_) (hal : own_al g0_ g1_ g2_ g3_) : ¬ (g0_ < (0 : Int32)) := hok.1.1
theorem own_rm1_al_fc136 (o0 : Addr) (o1 : Addr) (o2 : Addr) (o3 : Addr) (g0_ : Int32) (g1_ : Int32) (g2_ : Int32) (g3_ : Int32) (k1 : ClassId) (k2 : ClassId) (k3 : ClassId) (hok : own_ok g0_ g1_ g2_ g3_) (hal : own_al g0_ g1_ g2_ g3_) : ¬ ((0 : Int32) < g0_) := hok.1.2.1
theorem own_rm1_al_hin144 (o0 : Addr) (o1 : Addr) (o2 : Addr) (o3 : Addr) (g0_ : Int32) (g1_ : Int32) (g2_ : Int32) (g3_ : Int32) (k1 : ClassId) (k2 : ClassId) (k3 : ClassId) (hok : own_ok g0_ g1_ g2_ g3_) (hal : own_al g0_ g1_ g2_ g3_) : ¬ g0_ < 0 ∧ g0_ < (4 : Int32) := ⟨hok.1.1, hok.1.2.2.1⟩
theorem own_rm1_al_fc149 (o0 : Addr) (o1 : Addr) (o2 : Addr) (o3 : Addr) (g0_ : Int32) (g1_ : Int32) (g2_ : Int32) (g3_ : Int32) (k1 : ClassId) (k2 : ClassId) (k3 : ClassId) (hok : own_ok g0_ g1_ g2_ g3_) (hal : own_al g0_ g1_ g2_ g3_) : (([g0_, g1_, g2_, g3_] : List Int32).getD g0_.toNatClampNeg (0 : Int32)) = g0_ := hok.1.2.2.2
theorem own_rm1_al_fc127_1 (o0 : Addr) (o1 : Addr) (o2 : Addr) (o3 : Addr) (g0_ : Int32) (g1_ : Int32) (g2_ : Int32) (g3_ : Int32) (k1 : ClassId) (k2 : ClassId) (k3 : ClassId) (hok : own_ok g0_ g1_ g2_ g3_) (hal : own_al g0_ g1_ g2_ g3_) : ¬ (g1_ < (0 : Int32)) := hok.2.1.1
theorem own_rm1_al_fc136_1 (o0 : Addr) (o1 : Addr) (o2 : Addr) (o3 : Addr) (g0_ : Int32) (g1_ : Int32) (g2_ : Int32) (g3_ : Int32) (k1 : ClassId) (k2 : ClassId) (k3 : ClassId) (hok : own_ok g0_ g1_ g2_ g3_) (hal : own_al g0_ g1_ g2_ g3_) : ¬ ((1 : Int32) < g1_) := hok.2.1.2.1
theorem own_rm1_al_hin144_1 (o0 : Addr) (o1 : Addr) (o2 : Addr) (o3 : Addr) (g0_ : Int32) (g1_ : Int32) (g2_ : Int32) (g3_ : Int32) (k1 : ClassId) (k2 : ClassId) (k3 : ClassId) (hok : own_ok g0_ g1_ g2_ g3_) (hal : own_al g0_ g1_ g2_ g3_) : ¬ g1_ < 0 ∧ g1_ < (4 : Int32) := ⟨hok.2.1.1, hok.2.1.2.2.1⟩
theorem own_rm1_al_fc149_1 (o0 : Addr) (o1 : Addr) (o2 : Addr) (o3 : Addr) (g0_ : Int32) (g1_ : Int32) (g2_ : Int32) (g3_ : Int32) (k1 : ClassId) (k2 : ClassId) (k3 : ClassId) (hok : own_ok g0_ g1_ g2_ g3_) (hal : own_al g0_ g1_ g2_ g3_) : (([g0_, g1_, g2_, g3_] : List Int32).getD g1_.toNatClampNeg (0 : Int32)) = g1_ := hok.2.1.2.2.2
theorem own_rm1_al_fc127_2 (o0 : Addr) (o1 : Addr) (o2 : Addr) (o3 : Addr) (g0_ : Int32) (g1_ : Int32) (g2_ : Int32) (g3_ : Int32) (k1 : ClassId) (k2 : ClassId) (k3 : ClassId) (hok : own_ok g0_ g1_ g2_ g3_) (hal : own_al g0_ g1_ g2_ g3_) : ¬ (g2_ < (0 : Int32)) := hok.2.2.1.1
theorem own_rm1_al_fc136_2 (o0 : Addr) (o1 : Addr) (o2 : Addr) (o3 : Addr) (g0_ : Int32) (g1_ : Int32) (g2_ : Int32) (g3_ : Int32) (k1 : ClassId) (k2 : ClassId) (k3 : ClassId) (hok : own_ok g0_ g1_ g2_ g3_) (hal : own_al g0_ g1_ g2_ g3_) : ¬ ((2 : Int32) < g2_) := hok.2.2.1.2.1
theorem own_rm1_al_hin144_2 (o0 : Addr) (o1 : Addr) (o2 : Addr) (o3 : Addr) (g0_ : Int32) (g1_ : Int32) (g2_ : Int32) (g3_ : Int32) (k1 : ClassId) (k2 : ClassId) (k3 : ClassId) (hok : own_ok g0_ g1_ g2_ g3_) (hal : own_al g0_ g1_ g2_ g3_) : ¬ g2_ < 0 ∧ g2_ < (4 : Int32) := ⟨hok.2.2.1.1, hok.2.2.1.2.2.1⟩
theorem own_rm1_al_fc149_2 (o0 : Addr) (o1 : Addr) (o2 : Addr) (o3 : Addr) (g0_ : Int32) (g1_ : Int32) (g2_ : Int32) (g3_ : Int32) (k1 : ClassId) (k2 : ClassId) (k3 : ClassId) (hok : own_ok g0_ g1_ g2_ g3_) (hal : own_al g0_ g1_ g2_ g3_) : (([g0_, g1_, g2_, g3_] : List Int32).getD g2_.toNatClampNeg (0 : Int32)) = g2_ := hok.2.2.1.2.2.2
theorem own_rm1_al_fc127_3 (o0 : Addr) (o1 : Addr) (o2 : Addr) (o3 : Addr) (g0_ : Int32) (g1_ : Int32) (g2_ : Int32) (g3_ : Int32) (k1 : ClassId) (k2 : ClassId) (k3 : ClassId) (hok : own_ok g0_ g1_ g2_ g3_) (hal : own_al g0_ g1_ g2_ g3_) : ¬ (g3_ < (0 : Int32)) := hok.2.2.2.1
theorem own_rm1_al_fc136_3 (o0 : Addr) (o1 : Addr) (o2 : Addr) (o3 : Addr) (g0_ : Int32) (g1_ : Int32) (g2_ : Int32) (g3_ : Int32) (k1 : ClassId) (k2 : ClassId) (k3 : ClassId) (hok : own_ok g0_ g1_ g2_ g3_) (hal : own_al g0_ g1_ g2_ g3_) : ¬ ((3 : Int32) < g3_) := hok.2.2.2.2.1
theorem own_rm1_al_hin144_3 (o0 : Addr) (o1 : Addr) (o2 : Addr) (o3 : Addr) (g0_ : Int32) (g1_ : Int32) (g2_ : Int32) (g3_ : Int32) (k1 : ClassId) (k2 : ClassId) (k3 : ClassId) (hok : own_ok g0_ g1_ g2_ g3_) (hal : own_al g0_ g1_ g2_ g3_) : ¬ g3_ < 0 ∧ g3_ < (4 : Int32) := ⟨hok.2.2.2.1, hok.2.2.2.2.2.1⟩
theorem own_rm1_al_fc149_3 (o0 : Addr) (o1 : Addr) (o2 : Addr) (o3 : Addr) (g0_ : Int32) (g1_ : Int32) (g2_ : Int32) (g3_ : Int32) (k1 : ClassId) (k2 : ClassId) (k3 : ClassId) (hok : own_ok g0_ g1_ g2_ g3_) (hal : own_al g0_ g1_ g2_ g3_) : (([g0_, g1_, g2_, g3_] : List Int32).getD g3_.toNatClampNeg (0 : Int32)) = g3_ := hok.2.2.2.2.2.2
theorem own_rm1_al_fc244 (o0 : Addr) (o1 : Addr) (o2 : Addr) (o3 : Addr) (g0_ : Int32) (g1_ : Int32) (g2_ : Int32) (g3_ : Int32) (k1 : ClassId) (k2 : ClassId) (k3 : ClassId) (hok : own_ok g0_ g1_ g2_ g3_) (hal : own_al g0_ g1_ g2_ g3_) : ¬ ((if g3_ = (3 : Int32) then ((if g2_ = (2 : Int32) then ((if g1_ = (1 : Int32) then ((if g0_ = (0 : Int32) then (1 : Int32) else (0 : Int32)) &&& (1 : Int32)) else ((if g0_ = (0 : Int32) then (1 : Int32) else (0 : Int32)) &&& (0 : Int32))) &&& (1 : Int32)) else ((if g1_ = (1 : Int32) then ((if g0_ = (0 : Int32) then (1 : Int32) else (0 : Int32)) &&& (1 : Int32)) else ((if g0_ = (0 : Int32) then (1 : Int32) else (0 : Int32)) &&& (0 : Int32))) &&& (0 : Int32))) &&& (1 : Int32)) else ((if g2_ = (2 : Int32) then ((if g1_ = (1 : Int32) then ((if g0_ = (0 : Int32) then (1 : Int32) else (0 : Int32)) &&& (1 : Int32)) else ((if g0_ = (0 : Int32) then (1 : Int32) else (0 : Int32)) &&& (0 : Int32))) &&& (1 : Int32)) else ((if g1_ = (1 : Int32) then ((if g0_ = (0 : Int32) then (1 : Int32) else (0 : Int32)) &&& (1 : Int32)) else ((if g0_ = (0 : Int32) then (1 : Int32) else (0 : Int32)) &&& (0 : Int32))) &&& (0 : Int32))) &&& (0 : Int32))) = (0 : Int32)) := by unfold own_al at hal; obtain ⟨rfl, rfl, rfl, rfl⟩ := hal; decide
set_option maxRecDepth 65536 in
set_option maxHeartbeats 40000000 in
theorem rm1_al (l : Launch) (Z : State) (a0 : Array Value) (hw : ∀ d ∈ tables_1, d.before a0 Z = true) (ws : List Jvm.Cond) (o0 : Addr) (o1 : Addr) (o2 : Addr) (o3 : Addr) {g0_ : Int32} {g1_ : Int32} {g2_ : Int32} {g3_ : Int32} {k1 : ClassId} {k2 : ClassId} {k3 : ClassId} (h0 : Heap) (n0 : Nat) (Z0 : n0 ≤ h0.size) (hok : own_ok g0_ g1_ g2_ g3_) (hal : own_al g0_ g1_ g2_ g3_) (E_o0 : Exa Z h0 o0 "com/example/oceanus/oceanus/numerics/Tolerances") (g_o0 : n0 ≤ o0) (F_absolute_o0 : Fld Z h0 o0 "com/example/oceanus/oceanus/numerics/Tolerances" "absolute" "[D" .null) (F_relative_o0 : Fld Z h0 o0 "com/example/oceanus/oceanus/numerics/Tolerances" "relative" "[D" .null) (F_groups_o0 : Fld Z h0 o0 "com/example/oceanus/oceanus/numerics/Tolerances" "groups" "[I" .null) (ne_o0_o1 : o0 ≠ o1) (ne_o0_o2 : o0 ≠ o2) (ne_o0_o3 : o0 ≠ o3) (E_o1 : Exa Z h0 o1 "[D") (E_o2 : Exa Z h0 o2 "[D") (E_o3 : Exa Z h0 o3 "[I") (V_o1 : Arv Z h0 o1 k1 .double (4 : Int32) [(.double (4607182418800017408 : UInt64)), (.double (4607182418800017408 : UInt64)), (.double (4607182418800017408 : UInt64)), (.double (4607182418800017408 : UInt64))] (.double (0 : UInt64))) (V_o2 : Arv Z h0 o2 k2 .double (4 : Int32) [(.double (4607182418800017408 : UInt64)), (.double (4607182418800017408 : UInt64)), (.double (4607182418800017408 : UInt64)), (.double (4607182418800017408 : UInt64))] (.double (0 : UInt64))) (V_o3 : Arv Z h0 o3 k3 .int (4 : Int32) [(.int g0_), (.int g1_), (.int g2_), (.int g3_)] (.int (0 : Int32))) :
    MetFree l (⟨"com/example/oceanus/oceanus/numerics/Tolerances", "<init>", "([D[D[I)V"⟩ : MethodName) (head1 (Jvm.Cond.code (⟨"com/example/oceanus/oceanus/numerics/Tolerances", "<init>", "([D[D[I)V"⟩ : MethodName) prog_115_method_2_code 6 none :: ws) (room_of_1_al)) (fun a U => a = #[(.ref o0), (.ref o1), (.ref o2), (.ref o3)] ∧ Z.Warmed39 U.vm ∧ U.heap = h0) (fun _ _ _ _ _ => True) (fun _ U o U' => ∃ v L, o = .returned v ∧ Q1_al Z o0 o1 o2 o3 g0_ g1_ g2_ g3_ k1 k2 k3 h0 n0 v U'.heap L ∧ FrameEnd U o U' L (room_of_1_al).cells (room_of_1_al).slots) := by
  refine MetFree.of_bodySF (plainFor_of_name pn_1) hisR ?_
  intro p e s m args below meth c s₁ Bd hml0 hP hK
  obtain ⟨rfl, hZ, hh⟩ := hP
  have hx := Bd.exec
  have hby := Bd.bytes
  have hml : c.maxLocals = 6 := hml0
  have hown : s.vm.findClass "com/example/oceanus/oceanus/numerics/Tolerances" = some m.cls := findClass_of_methodNamed Bd.named
  have hnm := (name_of_methodNamed Bd.named Bd.method).1
  have X0 : Stand p l e (room_of_1_al) s m #[(.ref o0), (.ref o1), (.ref o2), (.ref o3)] below meth c s₁ [] 0 0 := Stand.of_body Bd
  have e0 : s₁.heap = h0 := by rw [← hh, Bd.state]; rfl
  have N0 := Fr.nil n0
  have G0 := gd X0 hx hby
  have pre0 : ∀ t, Steps p.tables e below (s₁.setTop (mkF m 0 #[rv o0, rv o1, rv o2, rv o3, .unset, .unset] [])) t → Steps p.tables e below (s₁.setTop (entryFrame m #[(.ref o0), (.ref o1), (.ref o2), (.ref o3)] 6)) t := fun t k => castTop (ef1_al m o0 o1 o2 o3) k
  obtain ⟨T1, X1, e1, st1⟩ := initO X0 hx hZ hown (wd hw 9 rfl) (wd hw 10 rfl) (wd hw 11 rfl) e0 (g := (mkF m 1 #[rv o0, rv o1, rv o2, rv o3, .unset, .unset] [(.ref o0)])) rfl (by rw [hml]; rfl) rfl (hb hby d1_1) (by decide) (W := 0) (by show 2 * 0 + _ ≤ _; exact Nat.le_of_eq rfl) (by decide)
  have G1 := gd X1 hx hby
  obtain ⟨_, _, ⟨T2, L2, k2, n2⟩, -, X2, ⟨Lc2, hQ2, l2, y2, z2⟩, st2⟩ := Jvm.LawKit.callS X1 hx (y := (⟨"java/lang/Double", "isFinite", "(D)Z"⟩ : MethodName)) hown (mvT hZ (wd hw 12 rfl)) (mvT hZ (wd hw 13 rfl)) (mvT hZ (wd hw 14 rfl)) (mvT hZ (wd hw 15 rfl)) (by decide) (backOf (W := 0) (rm3 l Z a0 hw [] ((FP.dadd (4607182418800017408 : UInt64) (4607182418800017408 : UInt64))) h0 n0 Z0 (own_rm1_al_hp_hnn1_92 o0 o1 o2 o3 g0_ g1_ g2_ g3_ k1 k2 k3 hok hal)) hZ (wd hw 15 rfl) (wd hw 14 rfl) (by decide) (by decide)) (g := (mkF m 92 #[rv o0, rv o1, rv o2, rv o3, iv (0 : Int32), .unset] [(.double (FP.dadd (4607182418800017408 : UInt64) (4607182418800017408 : UInt64)))])) rfl (by rw [hml]; rfl) (argsL := [(.double (FP.dadd (4607182418800017408 : UInt64) (4607182418800017408 : UInt64)))]) (rest := []) (lenOf pd_1 rfl) rfl (by show 2 * 0 + _ ≤ _; exact Nat.le_of_eq rfl) (hb hby d1_92) (fun _ _ => ⟨rfl, e1, (by decide : 0 + 0 ≤ _), (by decide : 0 + 0 ≤ _)⟩)
  dsimp only [Pt.U, Pt.locs, Pt.cells, Pt.slots] at X2 l2 y2 z2 st2 hQ2
  replace l2 : ([] ++ Lc2) = L2 := l2.symm
  subst l2 y2 z2
  obtain ⟨rfl, rfl, e2⟩ := hQ2
  simp only [List.append_nil, Nat.add_zero] at X2
  have G2 := gd X2 hx hby
  obtain ⟨_, _, ⟨T3, L3, k3, n3⟩, -, X3, ⟨Lc3, hQ3, l3, y3, z3⟩, st3⟩ := Jvm.LawKit.callS X2 hx (y := (⟨"java/lang/Double", "isFinite", "(D)Z"⟩ : MethodName)) hown (mvT hZ (wd hw 12 rfl)) (mvT hZ (wd hw 13 rfl)) (mvT hZ (wd hw 14 rfl)) (mvT hZ (wd hw 15 rfl)) (by decide) (backOf (W := 0) (rm3 l Z a0 hw [] ((FP.dadd (4607182418800017408 : UInt64) (4607182418800017408 : UInt64))) h0 n0 Z0 (own_rm1_al_hp_hnn1_92 o0 o1 o2 o3 g0_ g1_ g2_ g3_ k1 k2 k3 hok hal)) hZ (wd hw 15 rfl) (wd hw 14 rfl) (by decide) (by decide)) (g := (mkF m 92 #[rv o0, rv o1, rv o2, rv o3, iv (1 : Int32), .unset] [(.double (FP.dadd (4607182418800017408 : UInt64) (4607182418800017408 : UInt64)))])) rfl (by rw [hml]; rfl) (argsL := [(.double (FP.dadd (4607182418800017408 : UInt64) (4607182418800017408 : UInt64)))]) (rest := []) (lenOf pd_1 rfl) rfl (by show 2 * 0 + _ ≤ _; exact Nat.le_of_eq rfl) (hb hby d1_92) (fun _ _ => ⟨rfl, e2, (by decide : 0 + 0 ≤ _), (by decide : 0 + 0 ≤ _)⟩)
  dsimp only [Pt.U, Pt.locs, Pt.cells, Pt.slots] at X3 l3 y3 z3 st3 hQ3
  replace l3 : ([] ++ Lc3) = L3 := l3.symm
  subst l3 y3 z3
  obtain ⟨rfl, rfl, e3⟩ := hQ3
  simp only [List.append_nil, Nat.add_zero] at X3
  have G3 := gd X3 hx hby
  obtain ⟨_, _, ⟨T4, L4, k4, n4⟩, -, X4, ⟨Lc4, hQ4, l4, y4, z4⟩, st4⟩ := Jvm.LawKit.callS X3 hx (y := (⟨"java/lang/Double", "isFinite", "(D)Z"⟩ : MethodName)) hown (mvT hZ (wd hw 12 rfl)) (mvT hZ (wd hw 13 rfl)) (mvT hZ (wd hw 14 rfl)) (mvT hZ (wd hw 15 rfl)) (by decide) (backOf (W := 0) (rm3 l Z a0 hw [] ((FP.dadd (4607182418800017408 : UInt64) (4607182418800017408 : UInt64))) h0 n0 Z0 (own_rm1_al_hp_hnn1_92 o0 o1 o2 o3 g0_ g1_ g2_ g3_ k1 k2 k3 hok hal)) hZ (wd hw 15 rfl) (wd hw 14 rfl) (by decide) (by decide)) (g := (mkF m 92 #[rv o0, rv o1, rv o2, rv o3, iv (2 : Int32), .unset] [(.double (FP.dadd (4607182418800017408 : UInt64) (4607182418800017408 : UInt64)))])) rfl (by rw [hml]; rfl) (argsL := [(.double (FP.dadd (4607182418800017408 : UInt64) (4607182418800017408 : UInt64)))]) (rest := []) (lenOf pd_1 rfl) rfl (by show 2 * 0 + _ ≤ _; exact Nat.le_of_eq rfl) (hb hby d1_92) (fun _ _ => ⟨rfl, e3, (by decide : 0 + 0 ≤ _), (by decide : 0 + 0 ≤ _)⟩)
  dsimp only [Pt.U, Pt.locs, Pt.cells, Pt.slots] at X4 l4 y4 z4 st4 hQ4
  replace l4 : ([] ++ Lc4) = L4 := l4.symm
  subst l4 y4 z4
  obtain ⟨rfl, rfl, e4⟩ := hQ4
  simp only [List.append_nil, Nat.add_zero] at X4
  have G4 := gd X4 hx hby
  obtain ⟨_, _, ⟨T5, L5, k5, n5⟩, -, X5, ⟨Lc5, hQ5, l5, y5, z5⟩, st5⟩ := Jvm.LawKit.callS X4 hx (y := (⟨"java/lang/Double", "isFinite", "(D)Z"⟩ : MethodName)) hown (mvT hZ (wd hw 12 rfl)) (mvT hZ (wd hw 13 rfl)) (mvT hZ (wd hw 14 rfl)) (mvT hZ (wd hw 15 rfl)) (by decide) (backOf (W := 0) (rm3 l Z a0 hw [] ((FP.dadd (4607182418800017408 : UInt64) (4607182418800017408 : UInt64))) h0 n0 Z0 (own_rm1_al_hp_hnn1_92 o0 o1 o2 o3 g0_ g1_ g2_ g3_ k1 k2 k3 hok hal)) hZ (wd hw 15 rfl) (wd hw 14 rfl) (by decide) (by decide)) (g := (mkF m 92 #[rv o0, rv o1, rv o2, rv o3, iv (3 : Int32), .unset] [(.double (FP.dadd (4607182418800017408 : UInt64) (4607182418800017408 : UInt64)))])) rfl (by rw [hml]; rfl) (argsL := [(.double (FP.dadd (4607182418800017408 : UInt64) (4607182418800017408 : UInt64)))]) (rest := []) (lenOf pd_1 rfl) rfl (by show 2 * 0 + _ ≤ _; exact Nat.le_of_eq rfl) (hb hby d1_92) (fun _ _ => ⟨rfl, e4, (by decide : 0 + 0 ≤ _), (by decide : 0 + 0 ≤ _)⟩)
  dsimp only [Pt.U, Pt.locs, Pt.cells, Pt.slots] at X5 l5 y5 z5 st5 hQ5
  replace l5 : ([] ++ Lc5) = L5 := l5.symm
  subst l5 y5 z5
  obtain ⟨rfl, rfl, e5⟩ := hQ5
  simp only [List.append_nil, Nat.add_zero] at X5
  have G5 := gd X5 hx hby
  obtain ⟨T7, X7, e7, st7⟩ : ∃ T' : State, Stand p l e (room_of_1_al) s m #[(.ref o0), (.ref o1), (.ref o2), (.ref o3)] below meth c T' [] 0 0 ∧ T'.heap = h0 ∧ ∀ target, Steps p.tables e below (T'.setTop (mkF m 183 #[rv o0, rv o1, rv o2, rv o3, iv (if g0_ = (0 : Int32) then (1 : Int32) else (0 : Int32)), iv (1 : Int32)] [])) target → Steps p.tables e below (T5.setTop (mkF m 202 #[rv o0, rv o1, rv o2, rv o3, iv (1 : Int32), iv (0 : Int32)] [(.int (0 : Int32)), (.int g0_), (.int (1 : Int32))])) target := by
    by_cases hc202_6 : g0_ = (0 : Int32)
    · refine ⟨T5, X5, e5, fun target kt => ?_⟩
      refine micmpNo 205 G5 d1_202 (teq hc202_6).2 rfl ?_
      refine miconst 206 G5 d1_205 (v := (1 : Int32)) rfl rfl ?_
      refine mgoto 210 G5 d1_206 (by decide) rfl ?_
      refine miand 211 G5 d1_210 (v := (1 : Int32)) rfl rfl ?_
      refine mistore 213 G5 d1_211 #[rv o0, rv o1, rv o2, rv o3, iv (1 : Int32), iv (0 : Int32)] rfl rfl ?_
      refine miinc 216 G5 d1_213 rfl #[rv o0, rv o1, rv o2, rv o3, iv (1 : Int32), iv (1 : Int32)] rfl rfl ?_
      refine mgoto 183 G5 d1_216 (by decide) rfl ?_
      exact castTop (g' := (mkF m 183 #[rv o0, rv o1, rv o2, rv o3, iv (if g0_ = (0 : Int32) then (1 : Int32) else (0 : Int32)), iv (1 : Int32)] [])) (by simp only [if_pos hc202_6]) kt
    · refine ⟨T5, X5, e5, fun target kt => ?_⟩
      refine micmpYes 209 G5 d1_202 (feq hc202_6).2 (by decide) rfl ?_
      refine miconst 210 G5 d1_209 (v := (0 : Int32)) rfl rfl ?_
      refine miand 211 G5 d1_210 (v := (0 : Int32)) rfl rfl ?_
      refine mistore 213 G5 d1_211 #[rv o0, rv o1, rv o2, rv o3, iv (0 : Int32), iv (0 : Int32)] rfl rfl ?_
      refine miinc 216 G5 d1_213 rfl #[rv o0, rv o1, rv o2, rv o3, iv (0 : Int32), iv (1 : Int32)] rfl rfl ?_
      refine mgoto 183 G5 d1_216 (by decide) rfl ?_
      exact castTop (g' := (mkF m 183 #[rv o0, rv o1, rv o2, rv o3, iv (if g0_ = (0 : Int32) then (1 : Int32) else (0 : Int32)), iv (1 : Int32)] [])) (by simp only [if_neg hc202_6]) kt
  have G7 := gd X7 hx hby
  obtain ⟨T9, X9, e9, st9⟩ : ∃ T' : State, Stand p l e (room_of_1_al) s m #[(.ref o0), (.ref o1), (.ref o2), (.ref o3)] below meth c T' [] 0 0 ∧ T'.heap = h0 ∧ ∀ target, Steps p.tables e below (T'.setTop (mkF m 183 #[rv o0, rv o1, rv o2, rv o3, iv (if g1_ = (1 : Int32) then ((if g0_ = (0 : Int32) then (1 : Int32) else (0 : Int32)) &&& (1 : Int32)) else ((if g0_ = (0 : Int32) then (1 : Int32) else (0 : Int32)) &&& (0 : Int32))), iv (2 : Int32)] [])) target → Steps p.tables e below (T7.setTop (mkF m 202 #[rv o0, rv o1, rv o2, rv o3, iv (if g0_ = (0 : Int32) then (1 : Int32) else (0 : Int32)), iv (1 : Int32)] [(.int (1 : Int32)), (.int g1_), (.int (if g0_ = (0 : Int32) then (1 : Int32) else (0 : Int32)))])) target := by
    by_cases hc202_8 : g1_ = (1 : Int32)
    · refine ⟨T7, X7, e7, fun target kt => ?_⟩
      refine micmpNo 205 G7 d1_202 (teq hc202_8).2 rfl ?_
      refine miconst 206 G7 d1_205 (v := (1 : Int32)) rfl rfl ?_
      refine mgoto 210 G7 d1_206 (by decide) rfl ?_
      refine miand 211 G7 d1_210 rfl rfl ?_
      refine mistore 213 G7 d1_211 #[rv o0, rv o1, rv o2, rv o3, iv ((if g0_ = (0 : Int32) then (1 : Int32) else (0 : Int32)) &&& (1 : Int32)), iv (1 : Int32)] rfl rfl ?_
      refine miinc 216 G7 d1_213 rfl #[rv o0, rv o1, rv o2, rv o3, iv ((if g0_ = (0 : Int32) then (1 : Int32) else (0 : Int32)) &&& (1 : Int32)), iv (2 : Int32)] rfl rfl ?_
      refine mgoto 183 G7 d1_216 (by decide) rfl ?_
      exact castTop (g' := (mkF m 183 #[rv o0, rv o1, rv o2, rv o3, iv (if g1_ = (1 : Int32) then ((if g0_ = (0 : Int32) then (1 : Int32) else (0 : Int32)) &&& (1 : Int32)) else ((if g0_ = (0 : Int32) then (1 : Int32) else (0 : Int32)) &&& (0 : Int32))), iv (2 : Int32)] [])) (by simp only [if_pos hc202_8]) kt
    · refine ⟨T7, X7, e7, fun target kt => ?_⟩
      refine micmpYes 209 G7 d1_202 (feq hc202_8).2 (by decide) rfl ?_
      refine miconst 210 G7 d1_209 (v := (0 : Int32)) rfl rfl ?_
      refine miand 211 G7 d1_210 rfl rfl ?_
      refine mistore 213 G7 d1_211 #[rv o0, rv o1, rv o2, rv o3, iv ((if g0_ = (0 : Int32) then (1 : Int32) else (0 : Int32)) &&& (0 : Int32)), iv (1 : Int32)] rfl rfl ?_
      refine miinc 216 G7 d1_213 rfl #[rv o0, rv o1, rv o2, rv o3, iv ((if g0_ = (0 : Int32) then (1 : Int32) else (0 : Int32)) &&& (0 : Int32)), iv (2 : Int32)] rfl rfl ?_
      refine mgoto 183 G7 d1_216 (by decide) rfl ?_
      exact castTop (g' := (mkF m 183 #[rv o0, rv o1, rv o2, rv o3, iv (if g1_ = (1 : Int32) then ((if g0_ = (0 : Int32) then (1 : Int32) else (0 : Int32)) &&& (1 : Int32)) else ((if g0_ = (0 : Int32) then (1 : Int32) else (0 : Int32)) &&& (0 : Int32))), iv (2 : Int32)] [])) (by simp only [if_neg hc202_8]) kt
  have G9 := gd X9 hx hby
  obtain ⟨T11, X11, e11, st11⟩ : ∃ T' : State, Stand p l e (room_of_1_al) s m #[(.ref o0), (.ref o1), (.ref o2), (.ref o3)] below meth c T' [] 0 0 ∧ T'.heap = h0 ∧ ∀ target, Steps p.tables e below (T'.setTop (mkF m 183 #[rv o0, rv o1, rv o2, rv o3, iv (if g2_ = (2 : Int32) then ((if g1_ = (1 : Int32) then ((if g0_ = (0 : Int32) then (1 : Int32) else (0 : Int32)) &&& (1 : Int32)) else ((if g0_ = (0 : Int32) then (1 : Int32) else (0 : Int32)) &&& (0 : Int32))) &&& (1 : Int32)) else ((if g1_ = (1 : Int32) then ((if g0_ = (0 : Int32) then (1 : Int32) else (0 : Int32)) &&& (1 : Int32)) else ((if g0_ = (0 : Int32) then (1 : Int32) else (0 : Int32)) &&& (0 : Int32))) &&& (0 : Int32))), iv (3 : Int32)] [])) target → Steps p.tables e below (T9.setTop (mkF m 202 #[rv o0, rv o1, rv o2, rv o3, iv (if g1_ = (1 : Int32) then ((if g0_ = (0 : Int32) then (1 : Int32) else (0 : Int32)) &&& (1 : Int32)) else ((if g0_ = (0 : Int32) then (1 : Int32) else (0 : Int32)) &&& (0 : Int32))), iv (2 : Int32)] [(.int (2 : Int32)), (.int g2_), (.int (if g1_ = (1 : Int32) then ((if g0_ = (0 : Int32) then (1 : Int32) else (0 : Int32)) &&& (1 : Int32)) else ((if g0_ = (0 : Int32) then (1 : Int32) else (0 : Int32)) &&& (0 : Int32))))])) target := by
    by_cases hc202_10 : g2_ = (2 : Int32)
    · refine ⟨T9, X9, e9, fun target kt => ?_⟩
      refine micmpNo 205 G9 d1_202 (teq hc202_10).2 rfl ?_
      refine miconst 206 G9 d1_205 (v := (1 : Int32)) rfl rfl ?_
      refine mgoto 210 G9 d1_206 (by decide) rfl ?_
      refine miand 211 G9 d1_210 rfl rfl ?_
      refine mistore 213 G9 d1_211 #[rv o0, rv o1, rv o2, rv o3, iv ((if g1_ = (1 : Int32) then ((if g0_ = (0 : Int32) then (1 : Int32) else (0 : Int32)) &&& (1 : Int32)) else ((if g0_ = (0 : Int32) then (1 : Int32) else (0 : Int32)) &&& (0 : Int32))) &&& (1 : Int32)), iv (2 : Int32)] rfl rfl ?_
      refine miinc 216 G9 d1_213 rfl #[rv o0, rv o1, rv o2, rv o3, iv ((if g1_ = (1 : Int32) then ((if g0_ = (0 : Int32) then (1 : Int32) else (0 : Int32)) &&& (1 : Int32)) else ((if g0_ = (0 : Int32) then (1 : Int32) else (0 : Int32)) &&& (0 : Int32))) &&& (1 : Int32)), iv (3 : Int32)] rfl rfl ?_
      refine mgoto 183 G9 d1_216 (by decide) rfl ?_
      exact castTop (g' := (mkF m 183 #[rv o0, rv o1, rv o2, rv o3, iv (if g2_ = (2 : Int32) then ((if g1_ = (1 : Int32) then ((if g0_ = (0 : Int32) then (1 : Int32) else (0 : Int32)) &&& (1 : Int32)) else ((if g0_ = (0 : Int32) then (1 : Int32) else (0 : Int32)) &&& (0 : Int32))) &&& (1 : Int32)) else ((if g1_ = (1 : Int32) then ((if g0_ = (0 : Int32) then (1 : Int32) else (0 : Int32)) &&& (1 : Int32)) else ((if g0_ = (0 : Int32) then (1 : Int32) else (0 : Int32)) &&& (0 : Int32))) &&& (0 : Int32))), iv (3 : Int32)] [])) (by simp only [if_pos hc202_10]) kt
    · refine ⟨T9, X9, e9, fun target kt => ?_⟩
      refine micmpYes 209 G9 d1_202 (feq hc202_10).2 (by decide) rfl ?_
      refine miconst 210 G9 d1_209 (v := (0 : Int32)) rfl rfl ?_
      refine miand 211 G9 d1_210 rfl rfl ?_
      refine mistore 213 G9 d1_211 #[rv o0, rv o1, rv o2, rv o3, iv ((if g1_ = (1 : Int32) then ((if g0_ = (0 : Int32) then (1 : Int32) else (0 : Int32)) &&& (1 : Int32)) else ((if g0_ = (0 : Int32) then (1 : Int32) else (0 : Int32)) &&& (0 : Int32))) &&& (0 : Int32)), iv (2 : Int32)] rfl rfl ?_
      refine miinc 216 G9 d1_213 rfl #[rv o0, rv o1, rv o2, rv o3, iv ((if g1_ = (1 : Int32) then ((if g0_ = (0 : Int32) then (1 : Int32) else (0 : Int32)) &&& (1 : Int32)) else ((if g0_ = (0 : Int32) then (1 : Int32) else (0 : Int32)) &&& (0 : Int32))) &&& (0 : Int32)), iv (3 : Int32)] rfl rfl ?_
      refine mgoto 183 G9 d1_216 (by decide) rfl ?_
      exact castTop (g' := (mkF m 183 #[rv o0, rv o1, rv o2, rv o3, iv (if g2_ = (2 : Int32) then ((if g1_ = (1 : Int32) then ((if g0_ = (0 : Int32) then (1 : Int32) else (0 : Int32)) &&& (1 : Int32)) else ((if g0_ = (0 : Int32) then (1 : Int32) else (0 : Int32)) &&& (0 : Int32))) &&& (1 : Int32)) else ((if g1_ = (1 : Int32) then ((if g0_ = (0 : Int32) then (1 : Int32) else (0 : Int32)) &&& (1 : Int32)) else ((if g0_ = (0 : Int32) then (1 : Int32) else (0 : Int32)) &&& (0 : Int32))) &&& (0 : Int32))), iv (3 : Int32)] [])) (by simp only [if_neg hc202_10]) kt
  have G11 := gd X11 hx hby
  obtain ⟨T13, X13, e13, st13⟩ : ∃ T' : State, Stand p l e (room_of_1_al) s m #[(.ref o0), (.ref o1), (.ref o2), (.ref o3)] below meth c T' [] 0 0 ∧ T'.heap = h0 ∧ ∀ target, Steps p.tables e below (T'.setTop (mkF m 183 #[rv o0, rv o1, rv o2, rv o3, iv (if g3_ = (3 : Int32) then ((if g2_ = (2 : Int32) then ((if g1_ = (1 : Int32) then ((if g0_ = (0 : Int32) then (1 : Int32) else (0 : Int32)) &&& (1 : Int32)) else ((if g0_ = (0 : Int32) then (1 : Int32) else (0 : Int32)) &&& (0 : Int32))) &&& (1 : Int32)) else ((if g1_ = (1 : Int32) then ((if g0_ = (0 : Int32) then (1 : Int32) else (0 : Int32)) &&& (1 : Int32)) else ((if g0_ = (0 : Int32) then (1 : Int32) else (0 : Int32)) &&& (0 : Int32))) &&& (0 : Int32))) &&& (1 : Int32)) else ((if g2_ = (2 : Int32) then ((if g1_ = (1 : Int32) then ((if g0_ = (0 : Int32) then (1 : Int32) else (0 : Int32)) &&& (1 : Int32)) else ((if g0_ = (0 : Int32) then (1 : Int32) else (0 : Int32)) &&& (0 : Int32))) &&& (1 : Int32)) else ((if g1_ = (1 : Int32) then ((if g0_ = (0 : Int32) then (1 : Int32) else (0 : Int32)) &&& (1 : Int32)) else ((if g0_ = (0 : Int32) then (1 : Int32) else (0 : Int32)) &&& (0 : Int32))) &&& (0 : Int32))) &&& (0 : Int32))), iv (4 : Int32)] [])) target → Steps p.tables e below (T11.setTop (mkF m 202 #[rv o0, rv o1, rv o2, rv o3, iv (if g2_ = (2 : Int32) then ((if g1_ = (1 : Int32) then ((if g0_ = (0 : Int32) then (1 : Int32) else (0 : Int32)) &&& (1 : Int32)) else ((if g0_ = (0 : Int32) then (1 : Int32) else (0 : Int32)) &&& (0 : Int32))) &&& (1 : Int32)) else ((if g1_ = (1 : Int32) then ((if g0_ = (0 : Int32) then (1 : Int32) else (0 : Int32)) &&& (1 : Int32)) else ((if g0_ = (0 : Int32) then (1 : Int32) else (0 : Int32)) &&& (0 : Int32))) &&& (0 : Int32))), iv (3 : Int32)] [(.int (3 : Int32)), (.int g3_), (.int (if g2_ = (2 : Int32) then ((if g1_ = (1 : Int32) then ((if g0_ = (0 : Int32) then (1 : Int32) else (0 : Int32)) &&& (1 : Int32)) else ((if g0_ = (0 : Int32) then (1 : Int32) else (0 : Int32)) &&& (0 : Int32))) &&& (1 : Int32)) else ((if g1_ = (1 : Int32) then ((if g0_ = (0 : Int32) then (1 : Int32) else (0 : Int32)) &&& (1 : Int32)) else ((if g0_ = (0 : Int32) then (1 : Int32) else (0 : Int32)) &&& (0 : Int32))) &&& (0 : Int32))))])) target := by
    by_cases hc202_12 : g3_ = (3 : Int32)
    · refine ⟨T11, X11, e11, fun target kt => ?_⟩
      refine micmpNo 205 G11 d1_202 (teq hc202_12).2 rfl ?_
      refine miconst 206 G11 d1_205 (v := (1 : Int32)) rfl rfl ?_
      refine mgoto 210 G11 d1_206 (by decide) rfl ?_
      refine miand 211 G11 d1_210 rfl rfl ?_
      refine mistore 213 G11 d1_211 #[rv o0, rv o1, rv o2, rv o3, iv ((if g2_ = (2 : Int32) then ((if g1_ = (1 : Int32) then ((if g0_ = (0 : Int32) then (1 : Int32) else (0 : Int32)) &&& (1 : Int32)) else ((if g0_ = (0 : Int32) then (1 : Int32) else (0 : Int32)) &&& (0 : Int32))) &&& (1 : Int32)) else ((if g1_ = (1 : Int32) then ((if g0_ = (0 : Int32) then (1 : Int32) else (0 : Int32)) &&& (1 : Int32)) else ((if g0_ = (0 : Int32) then (1 : Int32) else (0 : Int32)) &&& (0 : Int32))) &&& (0 : Int32))) &&& (1 : Int32)), iv (3 : Int32)] rfl rfl ?_
      refine miinc 216 G11 d1_213 rfl #[rv o0, rv o1, rv o2, rv o3, iv ((if g2_ = (2 : Int32) then ((if g1_ = (1 : Int32) then ((if g0_ = (0 : Int32) then (1 : Int32) else (0 : Int32)) &&& (1 : Int32)) else ((if g0_ = (0 : Int32) then (1 : Int32) else (0 : Int32)) &&& (0 : Int32))) &&& (1 : Int32)) else ((if g1_ = (1 : Int32) then ((if g0_ = (0 : Int32) then (1 : Int32) else (0 : Int32)) &&& (1 : Int32)) else ((if g0_ = (0 : Int32) then (1 : Int32) else (0 : Int32)) &&& (0 : Int32))) &&& (0 : Int32))) &&& (1 : Int32)), iv (4 : Int32)] rfl rfl ?_
      refine mgoto 183 G11 d1_216 (by decide) rfl ?_
      exact castTop (g' := (mkF m 183 #[rv o0, rv o1, rv o2, rv o3, iv (if g3_ = (3 : Int32) then ((if g2_ = (2 : Int32) then ((if g1_ = (1 : Int32) then ((if g0_ = (0 : Int32) then (1 : Int32) else (0 : Int32)) &&& (1 : Int32)) else ((if g0_ = (0 : Int32) then (1 : Int32) else (0 : Int32)) &&& (0 : Int32))) &&& (1 : Int32)) else ((if g1_ = (1 : Int32) then ((if g0_ = (0 : Int32) then (1 : Int32) else (0 : Int32)) &&& (1 : Int32)) else ((if g0_ = (0 : Int32) then (1 : Int32) else (0 : Int32)) &&& (0 : Int32))) &&& (0 : Int32))) &&& (1 : Int32)) else ((if g2_ = (2 : Int32) then ((if g1_ = (1 : Int32) then ((if g0_ = (0 : Int32) then (1 : Int32) else (0 : Int32)) &&& (1 : Int32)) else ((if g0_ = (0 : Int32) then (1 : Int32) else (0 : Int32)) &&& (0 : Int32))) &&& (1 : Int32)) else ((if g1_ = (1 : Int32) then ((if g0_ = (0 : Int32) then (1 : Int32) else (0 : Int32)) &&& (1 : Int32)) else ((if g0_ = (0 : Int32) then (1 : Int32) else (0 : Int32)) &&& (0 : Int32))) &&& (0 : Int32))) &&& (0 : Int32))), iv (4 : Int32)] [])) (by simp only [if_pos hc202_12]) kt
    · refine ⟨T11, X11, e11, fun target kt => ?_⟩
      refine micmpYes 209 G11 d1_202 (feq hc202_12).2 (by decide) rfl ?_
      refine miconst 210 G11 d1_209 (v := (0 : Int32)) rfl rfl ?_
      refine miand 211 G11 d1_210 rfl rfl ?_
      refine mistore 213 G11 d1_211 #[rv o0, rv o1, rv o2, rv o3, iv ((if g2_ = (2 : Int32) then ((if g1_ = (1 : Int32) then ((if g0_ = (0 : Int32) then (1 : Int32) else (0 : Int32)) &&& (1 : Int32)) else ((if g0_ = (0 : Int32) then (1 : Int32) else (0 : Int32)) &&& (0 : Int32))) &&& (1 : Int32)) else ((if g1_ = (1 : Int32) then ((if g0_ = (0 : Int32) then (1 : Int32) else (0 : Int32)) &&& (1 : Int32)) else ((if g0_ = (0 : Int32) then (1 : Int32) else (0 : Int32)) &&& (0 : Int32))) &&& (0 : Int32))) &&& (0 : Int32)), iv (3 : Int32)] rfl rfl ?_
      refine miinc 216 G11 d1_213 rfl #[rv o0, rv o1, rv o2, rv o3, iv ((if g2_ = (2 : Int32) then ((if g1_ = (1 : Int32) then ((if g0_ = (0 : Int32) then (1 : Int32) else (0 : Int32)) &&& (1 : Int32)) else ((if g0_ = (0 : Int32) then (1 : Int32) else (0 : Int32)) &&& (0 : Int32))) &&& (1 : Int32)) else ((if g1_ = (1 : Int32) then ((if g0_ = (0 : Int32) then (1 : Int32) else (0 : Int32)) &&& (1 : Int32)) else ((if g0_ = (0 : Int32) then (1 : Int32) else (0 : Int32)) &&& (0 : Int32))) &&& (0 : Int32))) &&& (0 : Int32)), iv (4 : Int32)] rfl rfl ?_
      refine mgoto 183 G11 d1_216 (by decide) rfl ?_
      exact castTop (g' := (mkF m 183 #[rv o0, rv o1, rv o2, rv o3, iv (if g3_ = (3 : Int32) then ((if g2_ = (2 : Int32) then ((if g1_ = (1 : Int32) then ((if g0_ = (0 : Int32) then (1 : Int32) else (0 : Int32)) &&& (1 : Int32)) else ((if g0_ = (0 : Int32) then (1 : Int32) else (0 : Int32)) &&& (0 : Int32))) &&& (1 : Int32)) else ((if g1_ = (1 : Int32) then ((if g0_ = (0 : Int32) then (1 : Int32) else (0 : Int32)) &&& (1 : Int32)) else ((if g0_ = (0 : Int32) then (1 : Int32) else (0 : Int32)) &&& (0 : Int32))) &&& (0 : Int32))) &&& (1 : Int32)) else ((if g2_ = (2 : Int32) then ((if g1_ = (1 : Int32) then ((if g0_ = (0 : Int32) then (1 : Int32) else (0 : Int32)) &&& (1 : Int32)) else ((if g0_ = (0 : Int32) then (1 : Int32) else (0 : Int32)) &&& (0 : Int32))) &&& (1 : Int32)) else ((if g1_ = (1 : Int32) then ((if g0_ = (0 : Int32) then (1 : Int32) else (0 : Int32)) &&& (1 : Int32)) else ((if g0_ = (0 : Int32) then (1 : Int32) else (0 : Int32)) &&& (0 : Int32))) &&& (0 : Int32))) &&& (0 : Int32))), iv (4 : Int32)] [])) (by simp only [if_neg hc202_12]) kt
  have G13 := gd X13 hx hby
  obtain ⟨T14, h14, X14, e14, E14, V14, Xa14, st14⟩ := cloneH X13 hx hZ hown (wd hw 21 rfl) (wd hw 22 rfl) (wd hw 26 rfl) (wd hw 24 rfl) (wd hw 25 rfl) (wd hw 27 rfl) e13 (Arv.arh V_o1) E_o1 (g := (mkF m 221 #[rv o0, rv o1, rv o2, rv o3, iv (if g3_ = (3 : Int32) then ((if g2_ = (2 : Int32) then ((if g1_ = (1 : Int32) then ((if g0_ = (0 : Int32) then (1 : Int32) else (0 : Int32)) &&& (1 : Int32)) else ((if g0_ = (0 : Int32) then (1 : Int32) else (0 : Int32)) &&& (0 : Int32))) &&& (1 : Int32)) else ((if g1_ = (1 : Int32) then ((if g0_ = (0 : Int32) then (1 : Int32) else (0 : Int32)) &&& (1 : Int32)) else ((if g0_ = (0 : Int32) then (1 : Int32) else (0 : Int32)) &&& (0 : Int32))) &&& (0 : Int32))) &&& (1 : Int32)) else ((if g2_ = (2 : Int32) then ((if g1_ = (1 : Int32) then ((if g0_ = (0 : Int32) then (1 : Int32) else (0 : Int32)) &&& (1 : Int32)) else ((if g0_ = (0 : Int32) then (1 : Int32) else (0 : Int32)) &&& (0 : Int32))) &&& (1 : Int32)) else ((if g1_ = (1 : Int32) then ((if g0_ = (0 : Int32) then (1 : Int32) else (0 : Int32)) &&& (1 : Int32)) else ((if g0_ = (0 : Int32) then (1 : Int32) else (0 : Int32)) &&& (0 : Int32))) &&& (0 : Int32))) &&& (0 : Int32))), iv (4 : Int32)] [(.ref o1), (.ref o0)])) rfl (by rw [hml]; rfl) rfl (hb hby d1_221) (by decide) (W := 1) (cap := 4) (by show 2 * 0 + _ ≤ _; exact Nat.le_of_eq rfl) (by decide) (by decide) (by decide) (by decide)
  have G14 := gd X14 hx hby
  obtain ⟨b14, g14⟩ : ∃ z, z = h0.size := ⟨_, rfl⟩
  rw [← g14] at V14 Xa14 st14
  have ne_o0_b14 : o0 ≠ b14 := Nat.ne_of_lt (Nat.lt_of_lt_of_le E_o0.lt (Nat.le_of_eq g14.symm))
  have ne_o1_b14 : o1 ≠ b14 := Nat.ne_of_lt (Nat.lt_of_lt_of_le E_o1.lt (Nat.le_of_eq g14.symm))
  have ne_o2_b14 : o2 ≠ b14 := Nat.ne_of_lt (Nat.lt_of_lt_of_le E_o2.lt (Nat.le_of_eq g14.symm))
  have ne_o3_b14 : o3 ≠ b14 := Nat.ne_of_lt (Nat.lt_of_lt_of_le E_o3.lt (Nat.le_of_eq g14.symm))
  have g_b14 : n0 ≤ b14 := Nat.le_trans Z0 (Nat.le_of_eq g14.symm)
  have sz_b14 : h0.size ≤ b14 := Nat.le_trans (Keep.refl h0 [o0]).1 (Nat.le_of_eq g14.symm)
  have f15 := E_o0.ext E14
  have f16 := F_absolute_o0.ext E14
  have f17 := F_relative_o0.ext E14
  have f18 := F_groups_o0.ext E14
  have f19 := E_o1.ext E14
  have f20 := E_o2.ext E14
  have f21 := E_o3.ext E14
  have f22 := V_o1.ext E14
  have f23 := V_o2.ext E14
  have f24 := V_o3.ext E14
  have Z14 := Nat.le_trans Z0 E14.1
  have K14 : Keep h0 h14 [o0] := (Keep.refl h0 [o0]).ext E14
  have V_b14 : Arv Z h14 b14 k1 .double (4 : Int32) [(.double (4607182418800017408 : UInt64)), (.double (4607182418800017408 : UInt64)), (.double (4607182418800017408 : UInt64)), (.double (4607182418800017408 : UInt64))] (.double (0 : UInt64)) := V14
  obtain ⟨T25, X25, e25, st25⟩ := castY X14 hx hZ hown (wd hw 28 rfl) e14 (Ins.self Xa14) (g := (mkF m 224 #[rv o0, rv o1, rv o2, rv o3, iv (if g3_ = (3 : Int32) then ((if g2_ = (2 : Int32) then ((if g1_ = (1 : Int32) then ((if g0_ = (0 : Int32) then (1 : Int32) else (0 : Int32)) &&& (1 : Int32)) else ((if g0_ = (0 : Int32) then (1 : Int32) else (0 : Int32)) &&& (0 : Int32))) &&& (1 : Int32)) else ((if g1_ = (1 : Int32) then ((if g0_ = (0 : Int32) then (1 : Int32) else (0 : Int32)) &&& (1 : Int32)) else ((if g0_ = (0 : Int32) then (1 : Int32) else (0 : Int32)) &&& (0 : Int32))) &&& (0 : Int32))) &&& (1 : Int32)) else ((if g2_ = (2 : Int32) then ((if g1_ = (1 : Int32) then ((if g0_ = (0 : Int32) then (1 : Int32) else (0 : Int32)) &&& (1 : Int32)) else ((if g0_ = (0 : Int32) then (1 : Int32) else (0 : Int32)) &&& (0 : Int32))) &&& (1 : Int32)) else ((if g1_ = (1 : Int32) then ((if g0_ = (0 : Int32) then (1 : Int32) else (0 : Int32)) &&& (1 : Int32)) else ((if g0_ = (0 : Int32) then (1 : Int32) else (0 : Int32)) &&& (0 : Int32))) &&& (0 : Int32))) &&& (0 : Int32))), iv (4 : Int32)] [(.ref b14), (.ref o0)])) rfl rfl (hb hby d1_224)
  have G25 := gd X25 hx hby
  obtain ⟨T26, h26, X26, e26, W26, st26⟩ := putF X25 hx hZ hown (host := "") (Or.inl (wd hw 30 rfl)) Via.refl e25 f16 f15 (Or.inr ⟨(wd hw 31 rfl), rfl, hnm⟩) (wd hw 4 rfl) (ty := (.array .double)) (by decide) rfl rfl (g := (mkF m 227 #[rv o0, rv o1, rv o2, rv o3, iv (if g3_ = (3 : Int32) then ((if g2_ = (2 : Int32) then ((if g1_ = (1 : Int32) then ((if g0_ = (0 : Int32) then (1 : Int32) else (0 : Int32)) &&& (1 : Int32)) else ((if g0_ = (0 : Int32) then (1 : Int32) else (0 : Int32)) &&& (0 : Int32))) &&& (1 : Int32)) else ((if g1_ = (1 : Int32) then ((if g0_ = (0 : Int32) then (1 : Int32) else (0 : Int32)) &&& (1 : Int32)) else ((if g0_ = (0 : Int32) then (1 : Int32) else (0 : Int32)) &&& (0 : Int32))) &&& (0 : Int32))) &&& (1 : Int32)) else ((if g2_ = (2 : Int32) then ((if g1_ = (1 : Int32) then ((if g0_ = (0 : Int32) then (1 : Int32) else (0 : Int32)) &&& (1 : Int32)) else ((if g0_ = (0 : Int32) then (1 : Int32) else (0 : Int32)) &&& (0 : Int32))) &&& (1 : Int32)) else ((if g1_ = (1 : Int32) then ((if g0_ = (0 : Int32) then (1 : Int32) else (0 : Int32)) &&& (1 : Int32)) else ((if g0_ = (0 : Int32) then (1 : Int32) else (0 : Int32)) &&& (0 : Int32))) &&& (0 : Int32))) &&& (0 : Int32))), iv (4 : Int32)] [(.ref b14), (.ref o0)])) rfl rfl (hb hby d1_227)
  have G26 := gd X26 hx hby
  have N26 := Fr.snoc X26 N0 g_o0
  have f27 := f15.wr W26
  have f30 := f17.other W26 (Or.inr (slot_ne (Or.inr (wd hw 33 rfl)) (Or.inr (wd hw 31 rfl)) (by decide) (t := (.array .double)) (t' := (.array .double)) (by decide) (by decide)))
  have f31 := f18.other W26 (Or.inr (slot_ne (Or.inr (wd hw 41 rfl)) (Or.inr (wd hw 31 rfl)) (by decide) (t := (.array .int)) (t' := (.array .double)) (by decide) (by decide)))
  have f35 := f19.wr W26
  have f36 := f20.wr W26
  have f37 := f21.wr W26
  have f38 := f22.other W26 (Ne.symm ne_o0_o1)
  have f39 := f23.other W26 (Ne.symm ne_o0_o2)
  have f40 := f24.other W26 (Ne.symm ne_o0_o3)
  have f47 := V_b14.other W26 (Ne.symm ne_o0_b14)
  have f48 := Xa14.wr W26
  have Z26 := Nat.le_trans Z14 (Keep.of_wr W26).1
  have K26 : Keep h0 h26 [o0] := K14.wr W26 (Or.inl (List.mem_of_getElem? (i := 0) rfl))
  have Fw26 := f16.same W26
  obtain ⟨T49, h49, X49, e49, E49, V49, Xa49, st49⟩ := cloneH X26 hx hZ hown (wd hw 21 rfl) (wd hw 22 rfl) (wd hw 26 rfl) (wd hw 24 rfl) (wd hw 25 rfl) (wd hw 27 rfl) e26 (Arv.arh f39) f36 (g := (mkF m 232 #[rv o0, rv o1, rv o2, rv o3, iv (if g3_ = (3 : Int32) then ((if g2_ = (2 : Int32) then ((if g1_ = (1 : Int32) then ((if g0_ = (0 : Int32) then (1 : Int32) else (0 : Int32)) &&& (1 : Int32)) else ((if g0_ = (0 : Int32) then (1 : Int32) else (0 : Int32)) &&& (0 : Int32))) &&& (1 : Int32)) else ((if g1_ = (1 : Int32) then ((if g0_ = (0 : Int32) then (1 : Int32) else (0 : Int32)) &&& (1 : Int32)) else ((if g0_ = (0 : Int32) then (1 : Int32) else (0 : Int32)) &&& (0 : Int32))) &&& (0 : Int32))) &&& (1 : Int32)) else ((if g2_ = (2 : Int32) then ((if g1_ = (1 : Int32) then ((if g0_ = (0 : Int32) then (1 : Int32) else (0 : Int32)) &&& (1 : Int32)) else ((if g0_ = (0 : Int32) then (1 : Int32) else (0 : Int32)) &&& (0 : Int32))) &&& (1 : Int32)) else ((if g1_ = (1 : Int32) then ((if g0_ = (0 : Int32) then (1 : Int32) else (0 : Int32)) &&& (1 : Int32)) else ((if g0_ = (0 : Int32) then (1 : Int32) else (0 : Int32)) &&& (0 : Int32))) &&& (0 : Int32))) &&& (0 : Int32))), iv (4 : Int32)] [(.ref o2), (.ref o0)])) rfl (by rw [hml]; rfl) rfl (hb hby d1_232) (by decide) (W := 1) (cap := 4) (by show 2 * 0 + _ ≤ _; exact Nat.le_of_eq rfl) (by decide) (by decide) (by decide) (by decide)
  have G49 := gd X49 hx hby
  obtain ⟨b49, g49⟩ : ∃ z, z = h26.size := ⟨_, rfl⟩
  rw [← g49] at V49 Xa49 st49
  have ne_o0_b49 : o0 ≠ b49 := Nat.ne_of_lt (Nat.lt_of_lt_of_le f27.lt (Nat.le_of_eq g49.symm))
  have ne_o1_b49 : o1 ≠ b49 := Nat.ne_of_lt (Nat.lt_of_lt_of_le f35.lt (Nat.le_of_eq g49.symm))
  have ne_o2_b49 : o2 ≠ b49 := Nat.ne_of_lt (Nat.lt_of_lt_of_le f36.lt (Nat.le_of_eq g49.symm))
  have ne_o3_b49 : o3 ≠ b49 := Nat.ne_of_lt (Nat.lt_of_lt_of_le f37.lt (Nat.le_of_eq g49.symm))
  have ne_b14_b49 : b14 ≠ b49 := Nat.ne_of_lt (Nat.lt_of_lt_of_le f47.lt (Nat.le_of_eq g49.symm))
  have g_b49 : n0 ≤ b49 := Nat.le_trans Z26 (Nat.le_of_eq g49.symm)
  have sz_b49 : h0.size ≤ b49 := Nat.le_trans K26.1 (Nat.le_of_eq g49.symm)
  have f50 := f27.ext E49
  have f51 := Fw26.ext E49
  have f52 := f30.ext E49
  have f53 := f31.ext E49
  have f54 := f35.ext E49
  have f55 := f36.ext E49
  have f56 := f37.ext E49
  have f57 := f38.ext E49
  have f58 := f39.ext E49
  have f59 := f40.ext E49
  have f60 := f47.ext E49
  have f61 := f48.ext E49
  have Z49 := Nat.le_trans Z26 E49.1
  have K49 : Keep h0 h49 [o0] := K26.ext E49
  have V_b49 : Arv Z h49 b49 k2 .double (4 : Int32) [(.double (4607182418800017408 : UInt64)), (.double (4607182418800017408 : UInt64)), (.double (4607182418800017408 : UInt64)), (.double (4607182418800017408 : UInt64))] (.double (0 : UInt64)) := V49
  obtain ⟨T62, X62, e62, st62⟩ := castY X49 hx hZ hown (wd hw 28 rfl) e49 (Ins.self Xa49) (g := (mkF m 235 #[rv o0, rv o1, rv o2, rv o3, iv (if g3_ = (3 : Int32) then ((if g2_ = (2 : Int32) then ((if g1_ = (1 : Int32) then ((if g0_ = (0 : Int32) then (1 : Int32) else (0 : Int32)) &&& (1 : Int32)) else ((if g0_ = (0 : Int32) then (1 : Int32) else (0 : Int32)) &&& (0 : Int32))) &&& (1 : Int32)) else ((if g1_ = (1 : Int32) then ((if g0_ = (0 : Int32) then (1 : Int32) else (0 : Int32)) &&& (1 : Int32)) else ((if g0_ = (0 : Int32) then (1 : Int32) else (0 : Int32)) &&& (0 : Int32))) &&& (0 : Int32))) &&& (1 : Int32)) else ((if g2_ = (2 : Int32) then ((if g1_ = (1 : Int32) then ((if g0_ = (0 : Int32) then (1 : Int32) else (0 : Int32)) &&& (1 : Int32)) else ((if g0_ = (0 : Int32) then (1 : Int32) else (0 : Int32)) &&& (0 : Int32))) &&& (1 : Int32)) else ((if g1_ = (1 : Int32) then ((if g0_ = (0 : Int32) then (1 : Int32) else (0 : Int32)) &&& (1 : Int32)) else ((if g0_ = (0 : Int32) then (1 : Int32) else (0 : Int32)) &&& (0 : Int32))) &&& (0 : Int32))) &&& (0 : Int32))), iv (4 : Int32)] [(.ref b49), (.ref o0)])) rfl rfl (hb hby d1_235)
  have G62 := gd X62 hx hby
  obtain ⟨T63, h63, X63, e63, W63, st63⟩ := putF X62 hx hZ hown (host := "") (Or.inl (wd hw 32 rfl)) Via.refl e62 f52 f50 (Or.inr ⟨(wd hw 33 rfl), rfl, hnm⟩) (wd hw 4 rfl) (ty := (.array .double)) (by decide) rfl rfl (g := (mkF m 238 #[rv o0, rv o1, rv o2, rv o3, iv (if g3_ = (3 : Int32) then ((if g2_ = (2 : Int32) then ((if g1_ = (1 : Int32) then ((if g0_ = (0 : Int32) then (1 : Int32) else (0 : Int32)) &&& (1 : Int32)) else ((if g0_ = (0 : Int32) then (1 : Int32) else (0 : Int32)) &&& (0 : Int32))) &&& (1 : Int32)) else ((if g1_ = (1 : Int32) then ((if g0_ = (0 : Int32) then (1 : Int32) else (0 : Int32)) &&& (1 : Int32)) else ((if g0_ = (0 : Int32) then (1 : Int32) else (0 : Int32)) &&& (0 : Int32))) &&& (0 : Int32))) &&& (1 : Int32)) else ((if g2_ = (2 : Int32) then ((if g1_ = (1 : Int32) then ((if g0_ = (0 : Int32) then (1 : Int32) else (0 : Int32)) &&& (1 : Int32)) else ((if g0_ = (0 : Int32) then (1 : Int32) else (0 : Int32)) &&& (0 : Int32))) &&& (1 : Int32)) else ((if g1_ = (1 : Int32) then ((if g0_ = (0 : Int32) then (1 : Int32) else (0 : Int32)) &&& (1 : Int32)) else ((if g0_ = (0 : Int32) then (1 : Int32) else (0 : Int32)) &&& (0 : Int32))) &&& (0 : Int32))) &&& (0 : Int32))), iv (4 : Int32)] [(.ref b49), (.ref o0)])) rfl rfl (hb hby d1_238)
  have G63 := gd X63 hx hby
  have N63 := Fr.snoc X63 N26 g_o0
  have f64 := f50.wr W63
  have f66 := f51.other W63 (Or.inr (slot_ne (Or.inr (wd hw 31 rfl)) (Or.inr (wd hw 33 rfl)) (by decide) (t := (.array .double)) (t' := (.array .double)) (by decide) (by decide)))
  have f68 := f53.other W63 (Or.inr (slot_ne (Or.inr (wd hw 41 rfl)) (Or.inr (wd hw 33 rfl)) (by decide) (t := (.array .int)) (t' := (.array .double)) (by decide) (by decide)))
  have f72 := f54.wr W63
  have f73 := f55.wr W63
  have f74 := f56.wr W63
  have f75 := f57.other W63 (Ne.symm ne_o0_o1)
  have f76 := f58.other W63 (Ne.symm ne_o0_o2)
  have f77 := f59.other W63 (Ne.symm ne_o0_o3)
  have f84 := f60.other W63 (Ne.symm ne_o0_b14)
  have f85 := f61.wr W63
  have f93 := V_b49.other W63 (Ne.symm ne_o0_b49)
  have f94 := Xa49.wr W63
  have Z63 := Nat.le_trans Z49 (Keep.of_wr W63).1
  have K63 : Keep h0 h63 [o0] := K49.wr W63 (Or.inl (List.mem_of_getElem? (i := 0) rfl))
  have Fw63 := f52.same W63
  obtain ⟨T95, h95, X95, e95, W95, st95⟩ := putF X63 hx hZ hown (host := "") (Or.inl (wd hw 40 rfl)) Via.refl e63 f68 f64 (Or.inr ⟨(wd hw 41 rfl), rfl, hnm⟩) (wd hw 4 rfl) (ty := (.array .int)) (by decide) rfl rfl (g := (mkF m 258 #[rv o0, rv o1, rv o2, rv o3, iv (if g3_ = (3 : Int32) then ((if g2_ = (2 : Int32) then ((if g1_ = (1 : Int32) then ((if g0_ = (0 : Int32) then (1 : Int32) else (0 : Int32)) &&& (1 : Int32)) else ((if g0_ = (0 : Int32) then (1 : Int32) else (0 : Int32)) &&& (0 : Int32))) &&& (1 : Int32)) else ((if g1_ = (1 : Int32) then ((if g0_ = (0 : Int32) then (1 : Int32) else (0 : Int32)) &&& (1 : Int32)) else ((if g0_ = (0 : Int32) then (1 : Int32) else (0 : Int32)) &&& (0 : Int32))) &&& (0 : Int32))) &&& (1 : Int32)) else ((if g2_ = (2 : Int32) then ((if g1_ = (1 : Int32) then ((if g0_ = (0 : Int32) then (1 : Int32) else (0 : Int32)) &&& (1 : Int32)) else ((if g0_ = (0 : Int32) then (1 : Int32) else (0 : Int32)) &&& (0 : Int32))) &&& (1 : Int32)) else ((if g1_ = (1 : Int32) then ((if g0_ = (0 : Int32) then (1 : Int32) else (0 : Int32)) &&& (1 : Int32)) else ((if g0_ = (0 : Int32) then (1 : Int32) else (0 : Int32)) &&& (0 : Int32))) &&& (0 : Int32))) &&& (0 : Int32))), iv (4 : Int32)] [.null, (.ref o0)])) rfl rfl (hb hby d1_258)
  have G95 := gd X95 hx hby
  have N95 := Fr.snoc X95 N63 g_o0
  have f96 := f64.wr W95
  have f98 := f66.other W95 (Or.inr (slot_ne (Or.inr (wd hw 31 rfl)) (Or.inr (wd hw 41 rfl)) (by decide) (t := (.array .double)) (t' := (.array .int)) (by decide) (by decide)))
  have f99 := Fw63.other W95 (Or.inr (slot_ne (Or.inr (wd hw 33 rfl)) (Or.inr (wd hw 41 rfl)) (by decide) (t := (.array .double)) (t' := (.array .int)) (by decide) (by decide)))
  have f104 := f72.wr W95
  have f105 := f73.wr W95
  have f106 := f74.wr W95
  have f107 := f75.other W95 (Ne.symm ne_o0_o1)
  have f108 := f76.other W95 (Ne.symm ne_o0_o2)
  have f109 := f77.other W95 (Ne.symm ne_o0_o3)
  have f116 := f84.other W95 (Ne.symm ne_o0_b14)
  have f117 := f85.wr W95
  have f125 := f93.other W95 (Ne.symm ne_o0_b49)
  have f126 := f94.wr W95
  have Z95 := Nat.le_trans Z63 (Keep.of_wr W95).1
  have K95 : Keep h0 h95 [o0] := K63.wr W95 (Or.inl (List.mem_of_getElem? (i := 0) rfl))
  have Fw95 := f68.same W95
  obtain ⟨fs, hr, hrun, hended, hW, hsame⟩ := X95.leave (v := none) (fun _ => rfl)
  refine ⟨_, _, pre0 _ ?_, hrun, hended, _, _, rfl, ?_, ⟨_, rfl⟩, hW, hsame.mono (by decide) (by decide)⟩
  · show Steps p.tables e below (s₁.setTop (mkF m 0 #[rv o0, rv o1, rv o2, rv o3, .unset, .unset] [])) _
    refine maloadN 1 G0 d1_0 rfl rfl rfl ?_
    refine st1 _ ?_
    show Steps p.tables e below (T1.setTop (mkF m 4 #[rv o0, rv o1, rv o2, rv o3, .unset, .unset] [])) _
    refine maloadN 5 G1 d1_4 rfl rfl rfl ?_
    refine mlen 6 X1 hx hby hZ e1 V_o1 d1_5 rfl ?_
    refine maloadN 7 G1 d1_6 rfl rfl rfl ?_
    refine mlen 8 X1 hx hby hZ e1 V_o2 d1_7 rfl ?_
    refine micmpNo 11 G1 d1_8 (teq (by decide : (4 : Int32) = (4 : Int32))).2 rfl ?_
    refine maloadN 12 G1 d1_11 rfl rfl rfl ?_
    refine XS.ifnullNo X1.here hx rfl (hb hby d1_12) rfl ?_
    show Steps p.tables e below (T1.setTop (mkF m 15 #[rv o0, rv o1, rv o2, rv o3, .unset, .unset] [])) _
    refine maloadN 16 G1 d1_15 rfl rfl rfl ?_
    refine mlen 17 X1 hx hby hZ e1 V_o3 d1_16 rfl ?_
    refine maloadN 18 G1 d1_17 rfl rfl rfl ?_
    refine mlen 19 X1 hx hby hZ e1 V_o1 d1_18 rfl ?_
    refine micmpYes 55 G1 d1_19 (teq (by decide : (4 : Int32) = (4 : Int32))).1 (by decide) rfl ?_
    refine miconst 56 G1 d1_55 (v := (0 : Int32)) rfl rfl ?_
    refine mistore 58 G1 d1_56 #[rv o0, rv o1, rv o2, rv o3, iv (0 : Int32), .unset] rfl rfl ?_
    refine miload 60 G1 d1_58 rfl rfl ?_
    refine maloadN 61 G1 d1_60 rfl rfl rfl ?_
    refine mlen 62 X1 hx hby hZ e1 V_o1 d1_61 rfl ?_
    refine micmpNo 65 G1 d1_62 (tlt (by decide : (0 : Int32) < (4 : Int32))).2.1 rfl ?_
    refine maloadN 66 G1 d1_65 rfl rfl rfl ?_
    refine miload 68 G1 d1_66 rfl rfl ?_
    refine mdaload 69 X1 hx hby hZ e1 V_o1 (v := (4607182418800017408 : UInt64)) d1_68 ⟨by decide, by decide⟩ rfl rfl ?_
    refine mdconst0 70 G1 d1_69 (v := (0 : UInt64)) rfl rfl ?_
    refine mdcmp 71 G1 d1_70 rfl ?_
    refine mifNo 74 G1 d1_71 ((if0 _ _).trans (tlt (own_rm1_al_fc71 o0 o1 o2 o3 g0_ g1_ g2_ g3_ k1 k2 k3 hok hal)).2.2.2) rfl ?_
    refine maloadN 75 G1 d1_74 rfl rfl rfl ?_
    refine miload 77 G1 d1_75 rfl rfl ?_
    refine mdaload 78 X1 hx hby hZ e1 V_o2 (v := (4607182418800017408 : UInt64)) d1_77 ⟨by decide, by decide⟩ rfl rfl ?_
    refine mdconst0 79 G1 d1_78 (v := (0 : UInt64)) rfl rfl ?_
    refine mdcmp 80 G1 d1_79 rfl ?_
    refine mifNo 83 G1 d1_80 ((if0 _ _).trans (tlt (own_rm1_al_fc80 o0 o1 o2 o3 g0_ g1_ g2_ g3_ k1 k2 k3 hok hal)).2.2.2) rfl ?_
    refine maloadN 84 G1 d1_83 rfl rfl rfl ?_
    refine miload 86 G1 d1_84 rfl rfl ?_
    refine mdaload 87 X1 hx hby hZ e1 V_o1 (v := (4607182418800017408 : UInt64)) d1_86 ⟨by decide, by decide⟩ rfl rfl ?_
    refine maloadN 88 G1 d1_87 rfl rfl rfl ?_
    refine miload 90 G1 d1_88 rfl rfl ?_
    refine mdaload 91 X1 hx hby hZ e1 V_o2 (v := (4607182418800017408 : UInt64)) d1_90 ⟨by decide, by decide⟩ rfl rfl ?_
    refine mdadd 92 G1 d1_91 (own_rm1_al_hn91 o0 o1 o2 o3 g0_ g1_ g2_ g3_ k1 k2 k3 hok hal) rfl ?_
    refine st2 _ ?_
    show Steps p.tables e below (T2.setTop (mkF m 95 #[rv o0, rv o1, rv o2, rv o3, iv (0 : Int32), .unset] [(.int (rv3 (FP.dadd (4607182418800017408 : UInt64) (4607182418800017408 : UInt64))))])) _
    refine mifYes 119 G2 d1_95 ((if0 _ _).trans (feq (own_rm1_al_fc95 o0 o1 o2 o3 g0_ g1_ g2_ g3_ k1 k2 k3 hok hal)).2) (by decide) rfl ?_
    refine maloadN 120 G2 d1_119 rfl rfl rfl ?_
    refine XS.ifnullNo X2.here hx rfl (hb hby d1_120) rfl ?_
    show Steps p.tables e below (T2.setTop (mkF m 123 #[rv o0, rv o1, rv o2, rv o3, iv (0 : Int32), .unset] [])) _
    refine maloadN 124 G2 d1_123 rfl rfl rfl ?_
    refine miload 126 G2 d1_124 rfl rfl ?_
    refine miaload 127 X2 hx hby hZ e2 V_o3 (v := g0_) d1_126 ⟨by decide, by decide⟩ rfl rfl ?_
    refine mifNo 130 G2 d1_127 ((if0 _ _).trans (flt (own_rm1_al_fc127 o0 o1 o2 o3 g0_ g1_ g2_ g3_ k1 k2 k3 hok hal)).1) rfl ?_
    refine maloadN 131 G2 d1_130 rfl rfl rfl ?_
    refine miload 133 G2 d1_131 rfl rfl ?_
    refine miaload 134 X2 hx hby hZ e2 V_o3 (v := g0_) d1_133 ⟨by decide, by decide⟩ rfl rfl ?_
    refine miload 136 G2 d1_134 rfl rfl ?_
    refine micmpNo 139 G2 d1_136 (flt (own_rm1_al_fc136 o0 o1 o2 o3 g0_ g1_ g2_ g3_ k1 k2 k3 hok hal)).2.2.1 rfl ?_
    refine maloadN 140 G2 d1_139 rfl rfl rfl ?_
    refine maloadN 141 G2 d1_140 rfl rfl rfl ?_
    refine miload 143 G2 d1_141 rfl rfl ?_
    refine miaload 144 X2 hx hby hZ e2 V_o3 (v := g0_) d1_143 ⟨by decide, by decide⟩ rfl rfl ?_
    refine miaload 145 X2 hx hby hZ e2 V_o3 (v := (([g0_, g1_, g2_, g3_] : List Int32).getD g0_.toNatClampNeg (0 : Int32))) d1_144 (own_rm1_al_hin144 o0 o1 o2 o3 g0_ g1_ g2_ g3_ k1 k2 k3 hok hal) (own_getDI ([g0_, g1_, g2_, g3_] : List Int32) _ _) rfl ?_
    refine maloadN 146 G2 d1_145 rfl rfl rfl ?_
    refine miload 148 G2 d1_146 rfl rfl ?_
    refine miaload 149 X2 hx hby hZ e2 V_o3 (v := g0_) d1_148 ⟨by decide, by decide⟩ rfl rfl ?_
    refine micmpYes 171 G2 d1_149 (teq (own_rm1_al_fc149 o0 o1 o2 o3 g0_ g1_ g2_ g3_ k1 k2 k3 hok hal)).1 (by decide) rfl ?_
    refine miinc 174 G2 d1_171 rfl #[rv o0, rv o1, rv o2, rv o3, iv (1 : Int32), .unset] rfl rfl ?_
    refine mgoto 58 G2 d1_174 (by decide) rfl ?_
    refine miload 60 G2 d1_58 rfl rfl ?_
    refine maloadN 61 G2 d1_60 rfl rfl rfl ?_
    refine mlen 62 X2 hx hby hZ e2 V_o1 d1_61 rfl ?_
    refine micmpNo 65 G2 d1_62 (tlt (by decide : (1 : Int32) < (4 : Int32))).2.1 rfl ?_
    refine maloadN 66 G2 d1_65 rfl rfl rfl ?_
    refine miload 68 G2 d1_66 rfl rfl ?_
    refine mdaload 69 X2 hx hby hZ e2 V_o1 (v := (4607182418800017408 : UInt64)) d1_68 ⟨by decide, by decide⟩ rfl rfl ?_
    refine mdconst0 70 G2 d1_69 (v := (0 : UInt64)) rfl rfl ?_
    refine mdcmp 71 G2 d1_70 rfl ?_
    refine mifNo 74 G2 d1_71 ((if0 _ _).trans (tlt (own_rm1_al_fc71 o0 o1 o2 o3 g0_ g1_ g2_ g3_ k1 k2 k3 hok hal)).2.2.2) rfl ?_
    refine maloadN 75 G2 d1_74 rfl rfl rfl ?_
    refine miload 77 G2 d1_75 rfl rfl ?_
    refine mdaload 78 X2 hx hby hZ e2 V_o2 (v := (4607182418800017408 : UInt64)) d1_77 ⟨by decide, by decide⟩ rfl rfl ?_
    refine mdconst0 79 G2 d1_78 (v := (0 : UInt64)) rfl rfl ?_
    refine mdcmp 80 G2 d1_79 rfl ?_
    refine mifNo 83 G2 d1_80 ((if0 _ _).trans (tlt (own_rm1_al_fc80 o0 o1 o2 o3 g0_ g1_ g2_ g3_ k1 k2 k3 hok hal)).2.2.2) rfl ?_
    refine maloadN 84 G2 d1_83 rfl rfl rfl ?_
    refine miload 86 G2 d1_84 rfl rfl ?_
    refine mdaload 87 X2 hx hby hZ e2 V_o1 (v := (4607182418800017408 : UInt64)) d1_86 ⟨by decide, by decide⟩ rfl rfl ?_
    refine maloadN 88 G2 d1_87 rfl rfl rfl ?_
    refine miload 90 G2 d1_88 rfl rfl ?_
    refine mdaload 91 X2 hx hby hZ e2 V_o2 (v := (4607182418800017408 : UInt64)) d1_90 ⟨by decide, by decide⟩ rfl rfl ?_
    refine mdadd 92 G2 d1_91 (own_rm1_al_hn91 o0 o1 o2 o3 g0_ g1_ g2_ g3_ k1 k2 k3 hok hal) rfl ?_
    refine st3 _ ?_
    show Steps p.tables e below (T3.setTop (mkF m 95 #[rv o0, rv o1, rv o2, rv o3, iv (1 : Int32), .unset] [(.int (rv3 (FP.dadd (4607182418800017408 : UInt64) (4607182418800017408 : UInt64))))])) _
    refine mifYes 119 G3 d1_95 ((if0 _ _).trans (feq (own_rm1_al_fc95 o0 o1 o2 o3 g0_ g1_ g2_ g3_ k1 k2 k3 hok hal)).2) (by decide) rfl ?_
    refine maloadN 120 G3 d1_119 rfl rfl rfl ?_
    refine XS.ifnullNo X3.here hx rfl (hb hby d1_120) rfl ?_
    show Steps p.tables e below (T3.setTop (mkF m 123 #[rv o0, rv o1, rv o2, rv o3, iv (1 : Int32), .unset] [])) _
    refine maloadN 124 G3 d1_123 rfl rfl rfl ?_
    refine miload 126 G3 d1_124 rfl rfl ?_
    refine miaload 127 X3 hx hby hZ e3 V_o3 (v := g1_) d1_126 ⟨by decide, by decide⟩ rfl rfl ?_
    refine mifNo 130 G3 d1_127 ((if0 _ _).trans (flt (own_rm1_al_fc127_1 o0 o1 o2 o3 g0_ g1_ g2_ g3_ k1 k2 k3 hok hal)).1) rfl ?_
    refine maloadN 131 G3 d1_130 rfl rfl rfl ?_
    refine miload 133 G3 d1_131 rfl rfl ?_
    refine miaload 134 X3 hx hby hZ e3 V_o3 (v := g1_) d1_133 ⟨by decide, by decide⟩ rfl rfl ?_
    refine miload 136 G3 d1_134 rfl rfl ?_
    refine micmpNo 139 G3 d1_136 (flt (own_rm1_al_fc136_1 o0 o1 o2 o3 g0_ g1_ g2_ g3_ k1 k2 k3 hok hal)).2.2.1 rfl ?_
    refine maloadN 140 G3 d1_139 rfl rfl rfl ?_
    refine maloadN 141 G3 d1_140 rfl rfl rfl ?_
    refine miload 143 G3 d1_141 rfl rfl ?_
    refine miaload 144 X3 hx hby hZ e3 V_o3 (v := g1_) d1_143 ⟨by decide, by decide⟩ rfl rfl ?_
    refine miaload 145 X3 hx hby hZ e3 V_o3 (v := (([g0_, g1_, g2_, g3_] : List Int32).getD g1_.toNatClampNeg (0 : Int32))) d1_144 (own_rm1_al_hin144_1 o0 o1 o2 o3 g0_ g1_ g2_ g3_ k1 k2 k3 hok hal) (own_getDI ([g0_, g1_, g2_, g3_] : List Int32) _ _) rfl ?_
    refine maloadN 146 G3 d1_145 rfl rfl rfl ?_
    refine miload 148 G3 d1_146 rfl rfl ?_
    refine miaload 149 X3 hx hby hZ e3 V_o3 (v := g1_) d1_148 ⟨by decide, by decide⟩ rfl rfl ?_
    refine micmpYes 171 G3 d1_149 (teq (own_rm1_al_fc149_1 o0 o1 o2 o3 g0_ g1_ g2_ g3_ k1 k2 k3 hok hal)).1 (by decide) rfl ?_
    refine miinc 174 G3 d1_171 rfl #[rv o0, rv o1, rv o2, rv o3, iv (2 : Int32), .unset] rfl rfl ?_
    refine mgoto 58 G3 d1_174 (by decide) rfl ?_
    refine miload 60 G3 d1_58 rfl rfl ?_
    refine maloadN 61 G3 d1_60 rfl rfl rfl ?_
    refine mlen 62 X3 hx hby hZ e3 V_o1 d1_61 rfl ?_
    refine micmpNo 65 G3 d1_62 (tlt (by decide : (2 : Int32) < (4 : Int32))).2.1 rfl ?_
    refine maloadN 66 G3 d1_65 rfl rfl rfl ?_
    refine miload 68 G3 d1_66 rfl rfl ?_
    refine mdaload 69 X3 hx hby hZ e3 V_o1 (v := (4607182418800017408 : UInt64)) d1_68 ⟨by decide, by decide⟩ rfl rfl ?_
    refine mdconst0 70 G3 d1_69 (v := (0 : UInt64)) rfl rfl ?_
    refine mdcmp 71 G3 d1_70 rfl ?_
    refine mifNo 74 G3 d1_71 ((if0 _ _).trans (tlt (own_rm1_al_fc71 o0 o1 o2 o3 g0_ g1_ g2_ g3_ k1 k2 k3 hok hal)).2.2.2) rfl ?_
    refine maloadN 75 G3 d1_74 rfl rfl rfl ?_
    refine miload 77 G3 d1_75 rfl rfl ?_
    refine mdaload 78 X3 hx hby hZ e3 V_o2 (v := (4607182418800017408 : UInt64)) d1_77 ⟨by decide, by decide⟩ rfl rfl ?_
    refine mdconst0 79 G3 d1_78 (v := (0 : UInt64)) rfl rfl ?_
    refine mdcmp 80 G3 d1_79 rfl ?_
    refine mifNo 83 G3 d1_80 ((if0 _ _).trans (tlt (own_rm1_al_fc80 o0 o1 o2 o3 g0_ g1_ g2_ g3_ k1 k2 k3 hok hal)).2.2.2) rfl ?_
    refine maloadN 84 G3 d1_83 rfl rfl rfl ?_
    refine miload 86 G3 d1_84 rfl rfl ?_
    refine mdaload 87 X3 hx hby hZ e3 V_o1 (v := (4607182418800017408 : UInt64)) d1_86 ⟨by decide, by decide⟩ rfl rfl ?_
    refine maloadN 88 G3 d1_87 rfl rfl rfl ?_
    refine miload 90 G3 d1_88 rfl rfl ?_
    refine mdaload 91 X3 hx hby hZ e3 V_o2 (v := (4607182418800017408 : UInt64)) d1_90 ⟨by decide, by decide⟩ rfl rfl ?_
    refine mdadd 92 G3 d1_91 (own_rm1_al_hn91 o0 o1 o2 o3 g0_ g1_ g2_ g3_ k1 k2 k3 hok hal) rfl ?_
    refine st4 _ ?_
    show Steps p.tables e below (T4.setTop (mkF m 95 #[rv o0, rv o1, rv o2, rv o3, iv (2 : Int32), .unset] [(.int (rv3 (FP.dadd (4607182418800017408 : UInt64) (4607182418800017408 : UInt64))))])) _
    refine mifYes 119 G4 d1_95 ((if0 _ _).trans (feq (own_rm1_al_fc95 o0 o1 o2 o3 g0_ g1_ g2_ g3_ k1 k2 k3 hok hal)).2) (by decide) rfl ?_
    refine maloadN 120 G4 d1_119 rfl rfl rfl ?_
    refine XS.ifnullNo X4.here hx rfl (hb hby d1_120) rfl ?_
    show Steps p.tables e below (T4.setTop (mkF m 123 #[rv o0, rv o1, rv o2, rv o3, iv (2 : Int32), .unset] [])) _
    refine maloadN 124 G4 d1_123 rfl rfl rfl ?_
    refine miload 126 G4 d1_124 rfl rfl ?_
    refine miaload 127 X4 hx hby hZ e4 V_o3 (v := g2_) d1_126 ⟨by decide, by decide⟩ rfl rfl ?_
    refine mifNo 130 G4 d1_127 ((if0 _ _).trans (flt (own_rm1_al_fc127_2 o0 o1 o2 o3 g0_ g1_ g2_ g3_ k1 k2 k3 hok hal)).1) rfl ?_
    refine maloadN 131 G4 d1_130 rfl rfl rfl ?_
    refine miload 133 G4 d1_131 rfl rfl ?_
    refine miaload 134 X4 hx hby hZ e4 V_o3 (v := g2_) d1_133 ⟨by decide, by decide⟩ rfl rfl ?_
    refine miload 136 G4 d1_134 rfl rfl ?_
    refine micmpNo 139 G4 d1_136 (flt (own_rm1_al_fc136_2 o0 o1 o2 o3 g0_ g1_ g2_ g3_ k1 k2 k3 hok hal)).2.2.1 rfl ?_
    refine maloadN 140 G4 d1_139 rfl rfl rfl ?_
    refine maloadN 141 G4 d1_140 rfl rfl rfl ?_
    refine miload 143 G4 d1_141 rfl rfl ?_
    refine miaload 144 X4 hx hby hZ e4 V_o3 (v := g2_) d1_143 ⟨by decide, by decide⟩ rfl rfl ?_
    refine miaload 145 X4 hx hby hZ e4 V_o3 (v := (([g0_, g1_, g2_, g3_] : List Int32).getD g2_.toNatClampNeg (0 : Int32))) d1_144 (own_rm1_al_hin144_2 o0 o1 o2 o3 g0_ g1_ g2_ g3_ k1 k2 k3 hok hal) (own_getDI ([g0_, g1_, g2_, g3_] : List Int32) _ _) rfl ?_
    refine maloadN 146 G4 d1_145 rfl rfl rfl ?_
    refine miload 148 G4 d1_146 rfl rfl ?_
    refine miaload 149 X4 hx hby hZ e4 V_o3 (v := g2_) d1_148 ⟨by decide, by decide⟩ rfl rfl ?_
    refine micmpYes 171 G4 d1_149 (teq (own_rm1_al_fc149_2 o0 o1 o2 o3 g0_ g1_ g2_ g3_ k1 k2 k3 hok hal)).1 (by decide) rfl ?_
    refine miinc 174 G4 d1_171 rfl #[rv o0, rv o1, rv o2, rv o3, iv (3 : Int32), .unset] rfl rfl ?_
    refine mgoto 58 G4 d1_174 (by decide) rfl ?_
    refine miload 60 G4 d1_58 rfl rfl ?_
    refine maloadN 61 G4 d1_60 rfl rfl rfl ?_
    refine mlen 62 X4 hx hby hZ e4 V_o1 d1_61 rfl ?_
    refine micmpNo 65 G4 d1_62 (tlt (by decide : (3 : Int32) < (4 : Int32))).2.1 rfl ?_
    refine maloadN 66 G4 d1_65 rfl rfl rfl ?_
    refine miload 68 G4 d1_66 rfl rfl ?_
    refine mdaload 69 X4 hx hby hZ e4 V_o1 (v := (4607182418800017408 : UInt64)) d1_68 ⟨by decide, by decide⟩ rfl rfl ?_
    refine mdconst0 70 G4 d1_69 (v := (0 : UInt64)) rfl rfl ?_
    refine mdcmp 71 G4 d1_70 rfl ?_
    refine mifNo 74 G4 d1_71 ((if0 _ _).trans (tlt (own_rm1_al_fc71 o0 o1 o2 o3 g0_ g1_ g2_ g3_ k1 k2 k3 hok hal)).2.2.2) rfl ?_
    refine maloadN 75 G4 d1_74 rfl rfl rfl ?_
    refine miload 77 G4 d1_75 rfl rfl ?_
    refine mdaload 78 X4 hx hby hZ e4 V_o2 (v := (4607182418800017408 : UInt64)) d1_77 ⟨by decide, by decide⟩ rfl rfl ?_
    refine mdconst0 79 G4 d1_78 (v := (0 : UInt64)) rfl rfl ?_
    refine mdcmp 80 G4 d1_79 rfl ?_
    refine mifNo 83 G4 d1_80 ((if0 _ _).trans (tlt (own_rm1_al_fc80 o0 o1 o2 o3 g0_ g1_ g2_ g3_ k1 k2 k3 hok hal)).2.2.2) rfl ?_
    refine maloadN 84 G4 d1_83 rfl rfl rfl ?_
    refine miload 86 G4 d1_84 rfl rfl ?_
    refine mdaload 87 X4 hx hby hZ e4 V_o1 (v := (4607182418800017408 : UInt64)) d1_86 ⟨by decide, by decide⟩ rfl rfl ?_
    refine maloadN 88 G4 d1_87 rfl rfl rfl ?_
    refine miload 90 G4 d1_88 rfl rfl ?_
    refine mdaload 91 X4 hx hby hZ e4 V_o2 (v := (4607182418800017408 : UInt64)) d1_90 ⟨by decide, by decide⟩ rfl rfl ?_
    refine mdadd 92 G4 d1_91 (own_rm1_al_hn91 o0 o1 o2 o3 g0_ g1_ g2_ g3_ k1 k2 k3 hok hal) rfl ?_
    refine st5 _ ?_
    show Steps p.tables e below (T5.setTop (mkF m 95 #[rv o0, rv o1, rv o2, rv o3, iv (3 : Int32), .unset] [(.int (rv3 (FP.dadd (4607182418800017408 : UInt64) (4607182418800017408 : UInt64))))])) _
    refine mifYes 119 G5 d1_95 ((if0 _ _).trans (feq (own_rm1_al_fc95 o0 o1 o2 o3 g0_ g1_ g2_ g3_ k1 k2 k3 hok hal)).2) (by decide) rfl ?_
    refine maloadN 120 G5 d1_119 rfl rfl rfl ?_
    refine XS.ifnullNo X5.here hx rfl (hb hby d1_120) rfl ?_
    show Steps p.tables e below (T5.setTop (mkF m 123 #[rv o0, rv o1, rv o2, rv o3, iv (3 : Int32), .unset] [])) _
    refine maloadN 124 G5 d1_123 rfl rfl rfl ?_
    refine miload 126 G5 d1_124 rfl rfl ?_
    refine miaload 127 X5 hx hby hZ e5 V_o3 (v := g3_) d1_126 ⟨by decide, by decide⟩ rfl rfl ?_
    refine mifNo 130 G5 d1_127 ((if0 _ _).trans (flt (own_rm1_al_fc127_3 o0 o1 o2 o3 g0_ g1_ g2_ g3_ k1 k2 k3 hok hal)).1) rfl ?_
    refine maloadN 131 G5 d1_130 rfl rfl rfl ?_
    refine miload 133 G5 d1_131 rfl rfl ?_
    refine miaload 134 X5 hx hby hZ e5 V_o3 (v := g3_) d1_133 ⟨by decide, by decide⟩ rfl rfl ?_
    refine miload 136 G5 d1_134 rfl rfl ?_
    refine micmpNo 139 G5 d1_136 (flt (own_rm1_al_fc136_3 o0 o1 o2 o3 g0_ g1_ g2_ g3_ k1 k2 k3 hok hal)).2.2.1 rfl ?_
    refine maloadN 140 G5 d1_139 rfl rfl rfl ?_
    refine maloadN 141 G5 d1_140 rfl rfl rfl ?_
    refine miload 143 G5 d1_141 rfl rfl ?_
    refine miaload 144 X5 hx hby hZ e5 V_o3 (v := g3_) d1_143 ⟨by decide, by decide⟩ rfl rfl ?_
    refine miaload 145 X5 hx hby hZ e5 V_o3 (v := (([g0_, g1_, g2_, g3_] : List Int32).getD g3_.toNatClampNeg (0 : Int32))) d1_144 (own_rm1_al_hin144_3 o0 o1 o2 o3 g0_ g1_ g2_ g3_ k1 k2 k3 hok hal) (own_getDI ([g0_, g1_, g2_, g3_] : List Int32) _ _) rfl ?_
    refine maloadN 146 G5 d1_145 rfl rfl rfl ?_
    refine miload 148 G5 d1_146 rfl rfl ?_
    refine miaload 149 X5 hx hby hZ e5 V_o3 (v := g3_) d1_148 ⟨by decide, by decide⟩ rfl rfl ?_
    refine micmpYes 171 G5 d1_149 (teq (own_rm1_al_fc149_3 o0 o1 o2 o3 g0_ g1_ g2_ g3_ k1 k2 k3 hok hal)).1 (by decide) rfl ?_
    refine miinc 174 G5 d1_171 rfl #[rv o0, rv o1, rv o2, rv o3, iv (4 : Int32), .unset] rfl rfl ?_
    refine mgoto 58 G5 d1_174 (by decide) rfl ?_
    refine miload 60 G5 d1_58 rfl rfl ?_
    refine maloadN 61 G5 d1_60 rfl rfl rfl ?_
    refine mlen 62 X5 hx hby hZ e5 V_o1 d1_61 rfl ?_
    refine micmpYes 177 G5 d1_62 (flt (by decide : ¬ ((4 : Int32) < (4 : Int32)))).2.1 (by decide) rfl ?_
    refine miconst 178 G5 d1_177 (v := (1 : Int32)) rfl rfl ?_
    refine mistore 180 G5 d1_178 #[rv o0, rv o1, rv o2, rv o3, iv (1 : Int32), .unset] rfl rfl ?_
    refine miconst 181 G5 d1_180 (v := (0 : Int32)) rfl rfl ?_
    refine mistore 183 G5 d1_181 #[rv o0, rv o1, rv o2, rv o3, iv (1 : Int32), iv (0 : Int32)] rfl rfl ?_
    refine maloadN 184 G5 d1_183 rfl rfl rfl ?_
    refine XS.ifnullNo X5.here hx rfl (hb hby d1_184) rfl ?_
    show Steps p.tables e below (T5.setTop (mkF m 187 #[rv o0, rv o1, rv o2, rv o3, iv (1 : Int32), iv (0 : Int32)] [])) _
    refine miload 189 G5 d1_187 rfl rfl ?_
    refine maloadN 190 G5 d1_189 rfl rfl rfl ?_
    refine mlen 191 X5 hx hby hZ e5 V_o3 d1_190 rfl ?_
    refine micmpNo 194 G5 d1_191 (tlt (by decide : (0 : Int32) < (4 : Int32))).2.1 rfl ?_
    refine miload 196 G5 d1_194 rfl rfl ?_
    refine maloadN 197 G5 d1_196 rfl rfl rfl ?_
    refine miload 199 G5 d1_197 rfl rfl ?_
    refine miaload 200 X5 hx hby hZ e5 V_o3 (v := g0_) d1_199 ⟨by decide, by decide⟩ rfl rfl ?_
    refine miload 202 G5 d1_200 rfl rfl ?_
    refine st7 _ ?_
    refine maloadN 184 G7 d1_183 rfl rfl rfl ?_
    refine XS.ifnullNo X7.here hx rfl (hb hby d1_184) rfl ?_
    show Steps p.tables e below (T7.setTop (mkF m 187 #[rv o0, rv o1, rv o2, rv o3, iv (if g0_ = (0 : Int32) then (1 : Int32) else (0 : Int32)), iv (1 : Int32)] [])) _
    refine miload 189 G7 d1_187 rfl rfl ?_
    refine maloadN 190 G7 d1_189 rfl rfl rfl ?_
    refine mlen 191 X7 hx hby hZ e7 V_o3 d1_190 rfl ?_
    refine micmpNo 194 G7 d1_191 (tlt (by decide : (1 : Int32) < (4 : Int32))).2.1 rfl ?_
    refine miload 196 G7 d1_194 rfl rfl ?_
    refine maloadN 197 G7 d1_196 rfl rfl rfl ?_
    refine miload 199 G7 d1_197 rfl rfl ?_
    refine miaload 200 X7 hx hby hZ e7 V_o3 (v := g1_) d1_199 ⟨by decide, by decide⟩ rfl rfl ?_
    refine miload 202 G7 d1_200 rfl rfl ?_
    refine st9 _ ?_
    refine maloadN 184 G9 d1_183 rfl rfl rfl ?_
    refine XS.ifnullNo X9.here hx rfl (hb hby d1_184) rfl ?_
    show Steps p.tables e below (T9.setTop (mkF m 187 #[rv o0, rv o1, rv o2, rv o3, iv (if g1_ = (1 : Int32) then ((if g0_ = (0 : Int32) then (1 : Int32) else (0 : Int32)) &&& (1 : Int32)) else ((if g0_ = (0 : Int32) then (1 : Int32) else (0 : Int32)) &&& (0 : Int32))), iv (2 : Int32)] [])) _
    refine miload 189 G9 d1_187 rfl rfl ?_
    refine maloadN 190 G9 d1_189 rfl rfl rfl ?_
    refine mlen 191 X9 hx hby hZ e9 V_o3 d1_190 rfl ?_
    refine micmpNo 194 G9 d1_191 (tlt (by decide : (2 : Int32) < (4 : Int32))).2.1 rfl ?_
    refine miload 196 G9 d1_194 rfl rfl ?_
    refine maloadN 197 G9 d1_196 rfl rfl rfl ?_
    refine miload 199 G9 d1_197 rfl rfl ?_
    refine miaload 200 X9 hx hby hZ e9 V_o3 (v := g2_) d1_199 ⟨by decide, by decide⟩ rfl rfl ?_
    refine miload 202 G9 d1_200 rfl rfl ?_
    refine st11 _ ?_
    refine maloadN 184 G11 d1_183 rfl rfl rfl ?_
    refine XS.ifnullNo X11.here hx rfl (hb hby d1_184) rfl ?_
    show Steps p.tables e below (T11.setTop (mkF m 187 #[rv o0, rv o1, rv o2, rv o3, iv (if g2_ = (2 : Int32) then ((if g1_ = (1 : Int32) then ((if g0_ = (0 : Int32) then (1 : Int32) else (0 : Int32)) &&& (1 : Int32)) else ((if g0_ = (0 : Int32) then (1 : Int32) else (0 : Int32)) &&& (0 : Int32))) &&& (1 : Int32)) else ((if g1_ = (1 : Int32) then ((if g0_ = (0 : Int32) then (1 : Int32) else (0 : Int32)) &&& (1 : Int32)) else ((if g0_ = (0 : Int32) then (1 : Int32) else (0 : Int32)) &&& (0 : Int32))) &&& (0 : Int32))), iv (3 : Int32)] [])) _
    refine miload 189 G11 d1_187 rfl rfl ?_
    refine maloadN 190 G11 d1_189 rfl rfl rfl ?_
    refine mlen 191 X11 hx hby hZ e11 V_o3 d1_190 rfl ?_
    refine micmpNo 194 G11 d1_191 (tlt (by decide : (3 : Int32) < (4 : Int32))).2.1 rfl ?_
    refine miload 196 G11 d1_194 rfl rfl ?_
    refine maloadN 197 G11 d1_196 rfl rfl rfl ?_
    refine miload 199 G11 d1_197 rfl rfl ?_
    refine miaload 200 X11 hx hby hZ e11 V_o3 (v := g3_) d1_199 ⟨by decide, by decide⟩ rfl rfl ?_
    refine miload 202 G11 d1_200 rfl rfl ?_
    refine st13 _ ?_
    refine maloadN 184 G13 d1_183 rfl rfl rfl ?_
    refine XS.ifnullNo X13.here hx rfl (hb hby d1_184) rfl ?_
    show Steps p.tables e below (T13.setTop (mkF m 187 #[rv o0, rv o1, rv o2, rv o3, iv (if g3_ = (3 : Int32) then ((if g2_ = (2 : Int32) then ((if g1_ = (1 : Int32) then ((if g0_ = (0 : Int32) then (1 : Int32) else (0 : Int32)) &&& (1 : Int32)) else ((if g0_ = (0 : Int32) then (1 : Int32) else (0 : Int32)) &&& (0 : Int32))) &&& (1 : Int32)) else ((if g1_ = (1 : Int32) then ((if g0_ = (0 : Int32) then (1 : Int32) else (0 : Int32)) &&& (1 : Int32)) else ((if g0_ = (0 : Int32) then (1 : Int32) else (0 : Int32)) &&& (0 : Int32))) &&& (0 : Int32))) &&& (1 : Int32)) else ((if g2_ = (2 : Int32) then ((if g1_ = (1 : Int32) then ((if g0_ = (0 : Int32) then (1 : Int32) else (0 : Int32)) &&& (1 : Int32)) else ((if g0_ = (0 : Int32) then (1 : Int32) else (0 : Int32)) &&& (0 : Int32))) &&& (1 : Int32)) else ((if g1_ = (1 : Int32) then ((if g0_ = (0 : Int32) then (1 : Int32) else (0 : Int32)) &&& (1 : Int32)) else ((if g0_ = (0 : Int32) then (1 : Int32) else (0 : Int32)) &&& (0 : Int32))) &&& (0 : Int32))) &&& (0 : Int32))), iv (4 : Int32)] [])) _
    refine miload 189 G13 d1_187 rfl rfl ?_
    refine maloadN 190 G13 d1_189 rfl rfl rfl ?_
    refine mlen 191 X13 hx hby hZ e13 V_o3 d1_190 rfl ?_
    refine micmpYes 219 G13 d1_191 (flt (by decide : ¬ ((4 : Int32) < (4 : Int32)))).2.1 (by decide) rfl ?_
    refine maloadN 220 G13 d1_219 rfl rfl rfl ?_
    refine maloadN 221 G13 d1_220 rfl rfl rfl ?_
    refine st14 _ ?_
    show Steps p.tables e below (T14.setTop (mkF m 224 #[rv o0, rv o1, rv o2, rv o3, iv (if g3_ = (3 : Int32) then ((if g2_ = (2 : Int32) then ((if g1_ = (1 : Int32) then ((if g0_ = (0 : Int32) then (1 : Int32) else (0 : Int32)) &&& (1 : Int32)) else ((if g0_ = (0 : Int32) then (1 : Int32) else (0 : Int32)) &&& (0 : Int32))) &&& (1 : Int32)) else ((if g1_ = (1 : Int32) then ((if g0_ = (0 : Int32) then (1 : Int32) else (0 : Int32)) &&& (1 : Int32)) else ((if g0_ = (0 : Int32) then (1 : Int32) else (0 : Int32)) &&& (0 : Int32))) &&& (0 : Int32))) &&& (1 : Int32)) else ((if g2_ = (2 : Int32) then ((if g1_ = (1 : Int32) then ((if g0_ = (0 : Int32) then (1 : Int32) else (0 : Int32)) &&& (1 : Int32)) else ((if g0_ = (0 : Int32) then (1 : Int32) else (0 : Int32)) &&& (0 : Int32))) &&& (1 : Int32)) else ((if g1_ = (1 : Int32) then ((if g0_ = (0 : Int32) then (1 : Int32) else (0 : Int32)) &&& (1 : Int32)) else ((if g0_ = (0 : Int32) then (1 : Int32) else (0 : Int32)) &&& (0 : Int32))) &&& (0 : Int32))) &&& (0 : Int32))), iv (4 : Int32)] [(.ref b14), (.ref o0)])) _
    refine st25 _ ?_
    show Steps p.tables e below (T25.setTop (mkF m 227 #[rv o0, rv o1, rv o2, rv o3, iv (if g3_ = (3 : Int32) then ((if g2_ = (2 : Int32) then ((if g1_ = (1 : Int32) then ((if g0_ = (0 : Int32) then (1 : Int32) else (0 : Int32)) &&& (1 : Int32)) else ((if g0_ = (0 : Int32) then (1 : Int32) else (0 : Int32)) &&& (0 : Int32))) &&& (1 : Int32)) else ((if g1_ = (1 : Int32) then ((if g0_ = (0 : Int32) then (1 : Int32) else (0 : Int32)) &&& (1 : Int32)) else ((if g0_ = (0 : Int32) then (1 : Int32) else (0 : Int32)) &&& (0 : Int32))) &&& (0 : Int32))) &&& (1 : Int32)) else ((if g2_ = (2 : Int32) then ((if g1_ = (1 : Int32) then ((if g0_ = (0 : Int32) then (1 : Int32) else (0 : Int32)) &&& (1 : Int32)) else ((if g0_ = (0 : Int32) then (1 : Int32) else (0 : Int32)) &&& (0 : Int32))) &&& (1 : Int32)) else ((if g1_ = (1 : Int32) then ((if g0_ = (0 : Int32) then (1 : Int32) else (0 : Int32)) &&& (1 : Int32)) else ((if g0_ = (0 : Int32) then (1 : Int32) else (0 : Int32)) &&& (0 : Int32))) &&& (0 : Int32))) &&& (0 : Int32))), iv (4 : Int32)] [(.ref b14), (.ref o0)])) _
    refine st26 _ ?_
    show Steps p.tables e below (T26.setTop (mkF m 230 #[rv o0, rv o1, rv o2, rv o3, iv (if g3_ = (3 : Int32) then ((if g2_ = (2 : Int32) then ((if g1_ = (1 : Int32) then ((if g0_ = (0 : Int32) then (1 : Int32) else (0 : Int32)) &&& (1 : Int32)) else ((if g0_ = (0 : Int32) then (1 : Int32) else (0 : Int32)) &&& (0 : Int32))) &&& (1 : Int32)) else ((if g1_ = (1 : Int32) then ((if g0_ = (0 : Int32) then (1 : Int32) else (0 : Int32)) &&& (1 : Int32)) else ((if g0_ = (0 : Int32) then (1 : Int32) else (0 : Int32)) &&& (0 : Int32))) &&& (0 : Int32))) &&& (1 : Int32)) else ((if g2_ = (2 : Int32) then ((if g1_ = (1 : Int32) then ((if g0_ = (0 : Int32) then (1 : Int32) else (0 : Int32)) &&& (1 : Int32)) else ((if g0_ = (0 : Int32) then (1 : Int32) else (0 : Int32)) &&& (0 : Int32))) &&& (1 : Int32)) else ((if g1_ = (1 : Int32) then ((if g0_ = (0 : Int32) then (1 : Int32) else (0 : Int32)) &&& (1 : Int32)) else ((if g0_ = (0 : Int32) then (1 : Int32) else (0 : Int32)) &&& (0 : Int32))) &&& (0 : Int32))) &&& (0 : Int32))), iv (4 : Int32)] [])) _
    refine maloadN 231 G26 d1_230 rfl rfl rfl ?_
    refine maloadN 232 G26 d1_231 rfl rfl rfl ?_
    refine st49 _ ?_
    show Steps p.tables e below (T49.setTop (mkF m 235 #[rv o0, rv o1, rv o2, rv o3, iv (if g3_ = (3 : Int32) then ((if g2_ = (2 : Int32) then ((if g1_ = (1 : Int32) then ((if g0_ = (0 : Int32) then (1 : Int32) else (0 : Int32)) &&& (1 : Int32)) else ((if g0_ = (0 : Int32) then (1 : Int32) else (0 : Int32)) &&& (0 : Int32))) &&& (1 : Int32)) else ((if g1_ = (1 : Int32) then ((if g0_ = (0 : Int32) then (1 : Int32) else (0 : Int32)) &&& (1 : Int32)) else ((if g0_ = (0 : Int32) then (1 : Int32) else (0 : Int32)) &&& (0 : Int32))) &&& (0 : Int32))) &&& (1 : Int32)) else ((if g2_ = (2 : Int32) then ((if g1_ = (1 : Int32) then ((if g0_ = (0 : Int32) then (1 : Int32) else (0 : Int32)) &&& (1 : Int32)) else ((if g0_ = (0 : Int32) then (1 : Int32) else (0 : Int32)) &&& (0 : Int32))) &&& (1 : Int32)) else ((if g1_ = (1 : Int32) then ((if g0_ = (0 : Int32) then (1 : Int32) else (0 : Int32)) &&& (1 : Int32)) else ((if g0_ = (0 : Int32) then (1 : Int32) else (0 : Int32)) &&& (0 : Int32))) &&& (0 : Int32))) &&& (0 : Int32))), iv (4 : Int32)] [(.ref b49), (.ref o0)])) _
    refine st62 _ ?_
    show Steps p.tables e below (T62.setTop (mkF m 238 #[rv o0, rv o1, rv o2, rv o3, iv (if g3_ = (3 : Int32) then ((if g2_ = (2 : Int32) then ((if g1_ = (1 : Int32) then ((if g0_ = (0 : Int32) then (1 : Int32) else (0 : Int32)) &&& (1 : Int32)) else ((if g0_ = (0 : Int32) then (1 : Int32) else (0 : Int32)) &&& (0 : Int32))) &&& (1 : Int32)) else ((if g1_ = (1 : Int32) then ((if g0_ = (0 : Int32) then (1 : Int32) else (0 : Int32)) &&& (1 : Int32)) else ((if g0_ = (0 : Int32) then (1 : Int32) else (0 : Int32)) &&& (0 : Int32))) &&& (0 : Int32))) &&& (1 : Int32)) else ((if g2_ = (2 : Int32) then ((if g1_ = (1 : Int32) then ((if g0_ = (0 : Int32) then (1 : Int32) else (0 : Int32)) &&& (1 : Int32)) else ((if g0_ = (0 : Int32) then (1 : Int32) else (0 : Int32)) &&& (0 : Int32))) &&& (1 : Int32)) else ((if g1_ = (1 : Int32) then ((if g0_ = (0 : Int32) then (1 : Int32) else (0 : Int32)) &&& (1 : Int32)) else ((if g0_ = (0 : Int32) then (1 : Int32) else (0 : Int32)) &&& (0 : Int32))) &&& (0 : Int32))) &&& (0 : Int32))), iv (4 : Int32)] [(.ref b49), (.ref o0)])) _
    refine st63 _ ?_
    show Steps p.tables e below (T63.setTop (mkF m 241 #[rv o0, rv o1, rv o2, rv o3, iv (if g3_ = (3 : Int32) then ((if g2_ = (2 : Int32) then ((if g1_ = (1 : Int32) then ((if g0_ = (0 : Int32) then (1 : Int32) else (0 : Int32)) &&& (1 : Int32)) else ((if g0_ = (0 : Int32) then (1 : Int32) else (0 : Int32)) &&& (0 : Int32))) &&& (1 : Int32)) else ((if g1_ = (1 : Int32) then ((if g0_ = (0 : Int32) then (1 : Int32) else (0 : Int32)) &&& (1 : Int32)) else ((if g0_ = (0 : Int32) then (1 : Int32) else (0 : Int32)) &&& (0 : Int32))) &&& (0 : Int32))) &&& (1 : Int32)) else ((if g2_ = (2 : Int32) then ((if g1_ = (1 : Int32) then ((if g0_ = (0 : Int32) then (1 : Int32) else (0 : Int32)) &&& (1 : Int32)) else ((if g0_ = (0 : Int32) then (1 : Int32) else (0 : Int32)) &&& (0 : Int32))) &&& (1 : Int32)) else ((if g1_ = (1 : Int32) then ((if g0_ = (0 : Int32) then (1 : Int32) else (0 : Int32)) &&& (1 : Int32)) else ((if g0_ = (0 : Int32) then (1 : Int32) else (0 : Int32)) &&& (0 : Int32))) &&& (0 : Int32))) &&& (0 : Int32))), iv (4 : Int32)] [])) _
    refine maloadN 242 G63 d1_241 rfl rfl rfl ?_
    refine miload 244 G63 d1_242 rfl rfl ?_
    refine mifNo 247 G63 d1_244 ((if0 _ _).trans (feq (own_rm1_al_fc244 o0 o1 o2 o3 g0_ g1_ g2_ g3_ k1 k2 k3 hok hal)).1) rfl ?_
    refine maconst_null 248 G63 d1_247 rfl ?_
    refine mgoto 258 G63 d1_248 (by decide) rfl ?_
    refine st95 _ ?_
    show Steps p.tables e below (T95.setTop (mkF m 261 #[rv o0, rv o1, rv o2, rv o3, iv (if g3_ = (3 : Int32) then ((if g2_ = (2 : Int32) then ((if g1_ = (1 : Int32) then ((if g0_ = (0 : Int32) then (1 : Int32) else (0 : Int32)) &&& (1 : Int32)) else ((if g0_ = (0 : Int32) then (1 : Int32) else (0 : Int32)) &&& (0 : Int32))) &&& (1 : Int32)) else ((if g1_ = (1 : Int32) then ((if g0_ = (0 : Int32) then (1 : Int32) else (0 : Int32)) &&& (1 : Int32)) else ((if g0_ = (0 : Int32) then (1 : Int32) else (0 : Int32)) &&& (0 : Int32))) &&& (0 : Int32))) &&& (1 : Int32)) else ((if g2_ = (2 : Int32) then ((if g1_ = (1 : Int32) then ((if g0_ = (0 : Int32) then (1 : Int32) else (0 : Int32)) &&& (1 : Int32)) else ((if g0_ = (0 : Int32) then (1 : Int32) else (0 : Int32)) &&& (0 : Int32))) &&& (1 : Int32)) else ((if g1_ = (1 : Int32) then ((if g0_ = (0 : Int32) then (1 : Int32) else (0 : Int32)) &&& (1 : Int32)) else ((if g0_ = (0 : Int32) then (1 : Int32) else (0 : Int32)) &&& (0 : Int32))) &&& (0 : Int32))) &&& (0 : Int32))), iv (4 : Int32)] [])) _
    exact X95.returnOut hx Bd.returns (hb hby d1_261) hr
  · show Q1_al Z o0 o1 o2 o3 g0_ g1_ g2_ g3_ k1 k2 k3 h0 n0 _ T95.heap _
    rw [e95]
    exact ⟨rfl, N95, K95, f96, Fw95⟩
theorem d1_251 : decode prog_115_method_2_code 251 = .ok (.aload_n 3, 1) := by decide +kernel
theorem d1_252 : decode prog_115_method_2_code 252 = .ok (.invokevirtual 50, 3) := by decide +kernel
theorem d1_255 : decode prog_115_method_2_code 255 = .ok (.checkcast 51, 3) := by decide +kernel
theorem ef1_not (m : MethodId) (o0 : Addr) (o1 : Addr) (o2 : Addr) (o3 : Addr) : entryFrame m #[(.ref o0), (.ref o1), (.ref o2), (.ref o3)] 6 = mkF m 0 #[rv o0, rv o1, rv o2, rv o3, .unset, .unset] [] := by first | (simp [entryFrame, mkF, argsToLocals, Value.category]; done) | rfl
abbrev room_of_1_not : Room := { frames := 2, cells := 3, slots := 12, locals := 26 }
def Q1_not (Z : State) (o0 : Addr) (o1 : Addr) (o2 : Addr) (o3 : Addr) (g0_ : Int32) (g1_ : Int32) (g2_ : Int32) (g3_ : Int32) (k1 : ClassId) (k2 : ClassId) (k3 : ClassId) (h0 : Heap) (n0 : Nat) (v : Option Value) (h : Heap) (L : List Loc) : Prop := ∃ (b95 : Addr) (kb95 : ClassId), v = none ∧ Fr n0 L ∧ Keep h0 h [o0] ∧ Exa Z h o0 "com/example/oceanus/oceanus/numerics/Tolerances" ∧ Fld Z h o0 "com/example/oceanus/oceanus/numerics/Tolerances" "groups" "[I" (.ref b95) ∧ n0 ≤ b95 ∧ h0.size ≤ b95 ∧ Arv Z h b95 kb95 .int (4 : Int32) [(.int g0_), (.int g1_), (.int g2_), (.int g3_)] (.int (0 : Int32))
theorem own_rm1_not_fc71 (o0 : Addr) (o1 : Addr) (o2 : Addr) (o3 : Addr) (g0_ : Int32) (g1_ : Int32) (g2_ : Int32) (g3_ : Int32) (k1 : ClassId) (k2 : ClassId) (k3 : ClassId) (hok : own_ok g0_ g1_ g2_ g3_) (hal : ¬ own_al g0_ g1_ g2_ g3_) : (0 : Int32) < (cmpValue (FP.dcmp (4607182418800017408 : UInt64) (0 : UInt64)) .l) := by decide +kernel
theorem own_rm1_not_fc80 (o0 : Addr) (o1 : Addr) (o2 : Addr) (o3 : Addr) (g0_ : Int32) (g1_ : Int32) (g2_ : Int32) (g3_ : Int32) (k1 : ClassId) (k2 : ClassId) (k3 : ClassId) (hok : own_ok g0_ g1_ g2_ g3_) (hal : ¬ own_al g0_ g1_ g2_ g3_) : (0 : Int32) < (cmpValue (FP.dcmp (4607182418800017408 : UInt64) (0 : UInt64)) .l) := by decide +kernel
theorem own_rm1_not_hn91 (o0 : Addr) (o1 : Addr) (o2 : Addr) (o3 : Addr) (g0_ : Int32) (g1_ : Int32) (g2_ : Int32) (g3_ : Int32) (k1 : ClassId) (k2 : ClassId) (k3 : ClassId) (hok : own_ok g0_ g1_ g2_ g3_) (hal : ¬ own_al g0_ g1_ g2_ g3_) : Jvm.Free.Fl.NoNaN64 (FP.dadd (4607182418800017408 : UInt64) (4607182418800017408 : UInt64)) := by unfold Jvm.Free.Fl.NoNaN64; decide +kernel
theorem own_rm1_not_hp_hnn1_92 (o0 : Addr) (o1 : Addr) (o2 : Addr) (o3 : Addr) (g0_ : Int32) (g1_ : Int32) (g2_ : Int32) (g3_ : Int32) (k1 : ClassId) (k2 : ClassId) (k3 : ClassId) (hok : own_ok g0_ g1_ g2_ g3_) (hal : ¬ own_al g0_ g1_ g2_ g3_) : Jvm.Free.Fl.NoNaN64 (FP.dadd (4607182418800017408 : UInt64) (4607182418800017408 : UInt64)) := by unfold Jvm.Free.Fl.NoNaN64; decide +kernel
theorem own_rm1_not_fc95 (o0 : Addr) (o1 : Addr) (o2 : Addr) (o3 : Addr) (g0_ : Int32) (g1_ : Int32) (g2_ : Int32) (g3_ : Int32) (k1 : ClassId) (k2 : ClassId) (k3 : ClassId) (hok : own_ok g0_ g1_ g2_ g3_) (hal : ¬ own_al g0_ g1_ g2_ g3_) : ¬ ((rv3 (FP.dadd (4607182418800017408 : UInt64) (4607182418800017408 : UInt64))) = (0 : Int32)) := by unfold rv3; decide +kernel
theorem own_rm1_not_fc127 (o0 : Addr) (o1 : Addr) (o2 : Addr) (o3 : Addr) (g0_ : Int32) (g1_ : Int32) (g2_ : Int32) (g3_ : Int32) (k1 : ClassId) (k2 : ClassId) (k3 : ClassId) (hok : own_ok g0_ g1_ g2_ g3_) (hal : ¬ own_al g0_ g1_ g2_ g3_) : ¬ (g0_ < (0 : Int32)) := hok.1.1
theorem own_rm1_not_fc136 (o0 : Addr) (o1 : Addr) (o2 : Addr) (o3 : Addr) (g0_ : Int32) (g1_ : Int32) (g2_ : Int32) (g3_ : Int32) (k1 : ClassId) (k2 : ClassId) (k3 : ClassId) (hok : own_ok g0_ g1_ g2_ g3_) (hal : ¬ own_al g0_ g1_ g2_ g3_) : ¬ ((0 : Int32) < g0_) := hok.1.2.1
theorem own_rm1_not_hin144 (o0 : Addr) (o1 : Addr) (o2 : Addr) (o3 : Addr) (g0_ : Int32) (g1_ : Int32) (g2_ : Int32) (g3_ : Int32) (k1 : ClassId) (k2 : ClassId) (k3 : ClassId) (hok : own_ok g0_ g1_ g2_ g3_) (hal : ¬ own_al g0_ g1_ g2_ g3_) : ¬ g0_ < 0 ∧ g0_ < (4 : Int32) := ⟨hok.1.1, hok.1.2.2.1⟩
theorem own_rm1_not_fc149 (o0 : Addr) (o1 : Addr) (o2 : Addr) (o3 : Addr) (g0_ : Int32) (g1_ : Int32) (g2_ : Int32) (g3_ : Int32) (k1 : ClassId) (k2 : ClassId) (k3 : ClassId) (hok : own_ok g0_ g1_ g2_ g3_) (hal : ¬ own_al g0_ g1_ g2_ g3_) : (([g0_, g1_, g2_, g3_] : List Int32).getD g0_.toNatClampNeg (0 : Int32)) = g0_ := hok.1.2.2.2
theorem own_rm1_not_fc127_1 (o0 : Addr) (o1 : Addr) (o2 : Addr) (o3 : Addr) (g0_ : Int32) (g1_ : Int32) (g2_ : Int32) (g3_ : Int32) (k1 : ClassId) (k2 : ClassId) (k3 : ClassId) (hok : own_ok g0_ g1_ g2_ g3_) (hal : ¬ own_al g0_ g1_ g2_ g3_) : ¬ (g1_ < (0 : Int32)) := hok.2.1.1
theorem own_rm1_not_fc136_1 (o0 : Addr) (o1 : Addr) (o2 : Addr) (o3 : Addr) (g0_ : Int32) (g1_ : Int32) (g2_ : Int32) (g3_ : Int32) (k1 : ClassId) (k2 : ClassId) (k3 : ClassId) (hok : own_ok g0_ g1_ g2_ g3_) (hal : ¬ own_al g0_ g1_ g2_ g3_) : ¬ ((1 : Int32) < g1_) := hok.2.1.2.1
theorem own_rm1_not_hin144_1 (o0 : Addr) (o1 : Addr) (o2 : Addr) (o3 : Addr) (g0_ : Int32) (g1_ : Int32) (g2_ : Int32) (g3_ : Int32) (k1 : ClassId) (k2 : ClassId) (k3 : ClassId) (hok : own_ok g0_ g1_ g2_ g3_) (hal : ¬ own_al g0_ g1_ g2_ g3_) : ¬ g1_ < 0 ∧ g1_ < (4 : Int32) := ⟨hok.2.1.1, hok.2.1.2.2.1⟩
theorem own_rm1_not_fc149_1 (o0 : Addr) (o1 : Addr) (o2 : Addr) (o3 : Addr) (g0_ : Int32) (g1_ : Int32) (g2_ : Int32) (g3_ : Int32) (k1 : ClassId) (k2 : ClassId) (k3 : ClassId) (hok : own_ok g0_ g1_ g2_ g3_) (hal : ¬ own_al g0_ g1_ g2_ g3_) : (([g0_, g1_, g2_, g3_] : List Int32).getD g1_.toNatClampNeg (0 : Int32)) = g1_ := hok.2.1.2.2.2
theorem own_rm1_not_fc127_2 (o0 : Addr) (o1 : Addr) (o2 : Addr) (o3 : Addr) (g0_ : Int32) (g1_ : Int32) (g2_ : Int32) (g3_ : Int32) (k1 : ClassId) (k2 : ClassId) (k3 : ClassId) (hok : own_ok g0_ g1_ g2_ g3_) (hal : ¬ own_al g0_ g1_ g2_ g3_) : ¬ (g2_ < (0 : Int32)) := hok.2.2.1.1
theorem own_rm1_not_fc136_2 (o0 : Addr) (o1 : Addr) (o2 : Addr) (o3 : Addr) (g0_ : Int32) (g1_ : Int32) (g2_ : Int32) (g3_ : Int32) (k1 : ClassId) (k2 : ClassId) (k3 : ClassId) (hok : own_ok g0_ g1_ g2_ g3_) (hal : ¬ own_al g0_ g1_ g2_ g3_) : ¬ ((2 : Int32) < g2_) := hok.2.2.1.2.1
theorem own_rm1_not_hin144_2 (o0 : Addr) (o1 : Addr) (o2 : Addr) (o3 : Addr) (g0_ : Int32) (g1_ : Int32) (g2_ : Int32) (g3_ : Int32) (k1 : ClassId) (k2 : ClassId) (k3 : ClassId) (hok : own_ok g0_ g1_ g2_ g3_) (hal : ¬ own_al g0_ g1_ g2_ g3_) : ¬ g2_ < 0 ∧ g2_ < (4 : Int32) := ⟨hok.2.2.1.1, hok.2.2.1.2.2.1⟩
theorem own_rm1_not_fc149_2 (o0 : Addr) (o1 : Addr) (o2 : Addr) (o3 : Addr) (g0_ : Int32) (g1_ : Int32) (g2_ : Int32) (g3_ : Int32) (k1 : ClassId) (k2 : ClassId) (k3 : ClassId) (hok : own_ok g0_ g1_ g2_ g3_) (hal : ¬ own_al g0_ g1_ g2_ g3_) : (([g0_, g1_, g2_, g3_] : List Int32).getD g2_.toNatClampNeg (0 : Int32)) = g2_ := hok.2.2.1.2.2.2
theorem own_rm1_not_fc127_3 (o0 : Addr) (o1 : Addr) (o2 : Addr) (o3 : Addr) (g0_ : Int32) (g1_ : Int32) (g2_ : Int32) (g3_ : Int32) (k1 : ClassId) (k2 : ClassId) (k3 : ClassId) (hok : own_ok g0_ g1_ g2_ g3_) (hal : ¬ own_al g0_ g1_ g2_ g3_) : ¬ (g3_ < (0 : Int32)) := hok.2.2.2.1
theorem own_rm1_not_fc136_3 (o0 : Addr) (o1 : Addr) (o2 : Addr) (o3 : Addr) (g0_ : Int32) (g1_ : Int32) (g2_ : Int32) (g3_ : Int32) (k1 : ClassId) (k2 : ClassId) (k3 : ClassId) (hok : own_ok g0_ g1_ g2_ g3_) (hal : ¬ own_al g0_ g1_ g2_ g3_) : ¬ ((3 : Int32) < g3_) := hok.2.2.2.2.1
theorem own_rm1_not_hin144_3 (o0 : Addr) (o1 : Addr) (o2 : Addr) (o3 : Addr) (g0_ : Int32) (g1_ : Int32) (g2_ : Int32) (g3_ : Int32) (k1 : ClassId) (k2 : ClassId) (k3 : ClassId) (hok : own_ok g0_ g1_ g2_ g3_) (hal : ¬ own_al g0_ g1_ g2_ g3_) : ¬ g3_ < 0 ∧ g3_ < (4 : Int32) := ⟨hok.2.2.2.1, hok.2.2.2.2.2.1⟩
theorem own_rm1_not_fc149_3 (o0 : Addr) (o1 : Addr) (o2 : Addr) (o3 : Addr) (g0_ : Int32) (g1_ : Int32) (g2_ : Int32) (g3_ : Int32) (k1 : ClassId) (k2 : ClassId) (k3 : ClassId) (hok : own_ok g0_ g1_ g2_ g3_) (hal : ¬ own_al g0_ g1_ g2_ g3_) : (([g0_, g1_, g2_, g3_] : List Int32).getD g3_.toNatClampNeg (0 : Int32)) = g3_ := hok.2.2.2.2.2.2
theorem own_rm1_not_fc244 (o0 : Addr) (o1 : Addr) (o2 : Addr) (o3 : Addr) (g0_ : Int32) (g1_ : Int32) (g2_ : Int32) (g3_ : Int32) (k1 : ClassId) (k2 : ClassId) (k3 : ClassId) (hok : own_ok g0_ g1_ g2_ g3_) (hal : ¬ own_al g0_ g1_ g2_ g3_) : (if g3_ = (3 : Int32) then ((if g2_ = (2 : Int32) then ((if g1_ = (1 : Int32) then ((if g0_ = (0 : Int32) then (1 : Int32) else (0 : Int32)) &&& (1 : Int32)) else ((if g0_ = (0 : Int32) then (1 : Int32) else (0 : Int32)) &&& (0 : Int32))) &&& (1 : Int32)) else ((if g1_ = (1 : Int32) then ((if g0_ = (0 : Int32) then (1 : Int32) else (0 : Int32)) &&& (1 : Int32)) else ((if g0_ = (0 : Int32) then (1 : Int32) else (0 : Int32)) &&& (0 : Int32))) &&& (0 : Int32))) &&& (1 : Int32)) else ((if g2_ = (2 : Int32) then ((if g1_ = (1 : Int32) then ((if g0_ = (0 : Int32) then (1 : Int32) else (0 : Int32)) &&& (1 : Int32)) else ((if g0_ = (0 : Int32) then (1 : Int32) else (0 : Int32)) &&& (0 : Int32))) &&& (1 : Int32)) else ((if g1_ = (1 : Int32) then ((if g0_ = (0 : Int32) then (1 : Int32) else (0 : Int32)) &&& (1 : Int32)) else ((if g0_ = (0 : Int32) then (1 : Int32) else (0 : Int32)) &&& (0 : Int32))) &&& (0 : Int32))) &&& (0 : Int32))) = (0 : Int32) := by
  unfold own_al at hal
  by_cases a3 : g3_ = 3 <;> by_cases a2 : g2_ = 2 <;> by_cases a1 : g1_ = 1 <;> by_cases a0 : g0_ = 0
  · exact absurd ⟨a0, a1, a2, a3⟩ hal
  all_goals (first | simp only [if_pos a3] | simp only [if_neg a3])
  all_goals (first | simp only [if_pos a2] | simp only [if_neg a2])
  all_goals (first | simp only [if_pos a1] | simp only [if_neg a1])
  all_goals (first | simp only [if_pos a0] | simp only [if_neg a0])
  all_goals decide
set_option maxRecDepth 65536 in
set_option maxHeartbeats 40000000 in
theorem rm1_not (l : Launch) (Z : State) (a0 : Array Value) (hw : ∀ d ∈ tables_1, d.before a0 Z = true) (ws : List Jvm.Cond) (o0 : Addr) (o1 : Addr) (o2 : Addr) (o3 : Addr) {g0_ : Int32} {g1_ : Int32} {g2_ : Int32} {g3_ : Int32} {k1 : ClassId} {k2 : ClassId} {k3 : ClassId} (h0 : Heap) (n0 : Nat) (Z0 : n0 ≤ h0.size) (hok : own_ok g0_ g1_ g2_ g3_) (hal : ¬ own_al g0_ g1_ g2_ g3_) (E_o0 : Exa Z h0 o0 "com/example/oceanus/oceanus/numerics/Tolerances") (g_o0 : n0 ≤ o0) (F_absolute_o0 : Fld Z h0 o0 "com/example/oceanus/oceanus/numerics/Tolerances" "absolute" "[D" .null) (F_relative_o0 : Fld Z h0 o0 "com/example/oceanus/oceanus/numerics/Tolerances" "relative" "[D" .null) (F_groups_o0 : Fld Z h0 o0 "com/example/oceanus/oceanus/numerics/Tolerances" "groups" "[I" .null) (ne_o0_o1 : o0 ≠ o1) (ne_o0_o2 : o0 ≠ o2) (ne_o0_o3 : o0 ≠ o3) (E_o1 : Exa Z h0 o1 "[D") (E_o2 : Exa Z h0 o2 "[D") (E_o3 : Exa Z h0 o3 "[I") (V_o1 : Arv Z h0 o1 k1 .double (4 : Int32) [(.double (4607182418800017408 : UInt64)), (.double (4607182418800017408 : UInt64)), (.double (4607182418800017408 : UInt64)), (.double (4607182418800017408 : UInt64))] (.double (0 : UInt64))) (V_o2 : Arv Z h0 o2 k2 .double (4 : Int32) [(.double (4607182418800017408 : UInt64)), (.double (4607182418800017408 : UInt64)), (.double (4607182418800017408 : UInt64)), (.double (4607182418800017408 : UInt64))] (.double (0 : UInt64))) (V_o3 : Arv Z h0 o3 k3 .int (4 : Int32) [(.int g0_), (.int g1_), (.int g2_), (.int g3_)] (.int (0 : Int32))) :
    MetFree l (⟨"com/example/oceanus/oceanus/numerics/Tolerances", "<init>", "([D[D[I)V"⟩ : MethodName) (head1 (Jvm.Cond.code (⟨"com/example/oceanus/oceanus/numerics/Tolerances", "<init>", "([D[D[I)V"⟩ : MethodName) prog_115_method_2_code 6 none :: ws) (room_of_1_not)) (fun a U => a = #[(.ref o0), (.ref o1), (.ref o2), (.ref o3)] ∧ Z.Warmed39 U.vm ∧ U.heap = h0) (fun _ _ _ _ _ => True) (fun _ U o U' => ∃ v L, o = .returned v ∧ Q1_not Z o0 o1 o2 o3 g0_ g1_ g2_ g3_ k1 k2 k3 h0 n0 v U'.heap L ∧ FrameEnd U o U' L (room_of_1_not).cells (room_of_1_not).slots) := by
  refine MetFree.of_bodySF (plainFor_of_name pn_1) hisR ?_
  intro p e s m args below meth c s₁ Bd hml0 hP hK
  obtain ⟨rfl, hZ, hh⟩ := hP
  have hx := Bd.exec
  have hby := Bd.bytes
  have hml : c.maxLocals = 6 := hml0
  have hown : s.vm.findClass "com/example/oceanus/oceanus/numerics/Tolerances" = some m.cls := findClass_of_methodNamed Bd.named
  have hnm := (name_of_methodNamed Bd.named Bd.method).1
  have X0 : Stand p l e (room_of_1_not) s m #[(.ref o0), (.ref o1), (.ref o2), (.ref o3)] below meth c s₁ [] 0 0 := Stand.of_body Bd
  have e0 : s₁.heap = h0 := by rw [← hh, Bd.state]; rfl
  have N0 := Fr.nil n0
  have G0 := gd X0 hx hby
  have pre0 : ∀ t, Steps p.tables e below (s₁.setTop (mkF m 0 #[rv o0, rv o1, rv o2, rv o3, .unset, .unset] [])) t → Steps p.tables e below (s₁.setTop (entryFrame m #[(.ref o0), (.ref o1), (.ref o2), (.ref o3)] 6)) t := fun t k => castTop (ef1_not m o0 o1 o2 o3) k
  obtain ⟨T1, X1, e1, st1⟩ := initO X0 hx hZ hown (wd hw 9 rfl) (wd hw 10 rfl) (wd hw 11 rfl) e0 (g := (mkF m 1 #[rv o0, rv o1, rv o2, rv o3, .unset, .unset] [(.ref o0)])) rfl (by rw [hml]; rfl) rfl (hb hby d1_1) (by decide) (W := 0) (by show 2 * 0 + _ ≤ _; exact Nat.le_of_eq rfl) (by decide)
  have G1 := gd X1 hx hby
  obtain ⟨_, _, ⟨T2, L2, k2, n2⟩, -, X2, ⟨Lc2, hQ2, l2, y2, z2⟩, st2⟩ := Jvm.LawKit.callS X1 hx (y := (⟨"java/lang/Double", "isFinite", "(D)Z"⟩ : MethodName)) hown (mvT hZ (wd hw 12 rfl)) (mvT hZ (wd hw 13 rfl)) (mvT hZ (wd hw 14 rfl)) (mvT hZ (wd hw 15 rfl)) (by decide) (backOf (W := 0) (rm3 l Z a0 hw [] ((FP.dadd (4607182418800017408 : UInt64) (4607182418800017408 : UInt64))) h0 n0 Z0 (own_rm1_not_hp_hnn1_92 o0 o1 o2 o3 g0_ g1_ g2_ g3_ k1 k2 k3 hok hal)) hZ (wd hw 15 rfl) (wd hw 14 rfl) (by decide) (by decide)) (g := (mkF m 92 #[rv o0, rv o1, rv o2, rv o3, iv (0 : Int32), .unset] [(.double (FP.dadd (4607182418800017408 : UInt64) (4607182418800017408 : UInt64)))])) rfl (by rw [hml]; rfl) (argsL := [(.double (FP.dadd (4607182418800017408 : UInt64) (4607182418800017408 : UInt64)))]) (rest := []) (lenOf pd_1 rfl) rfl (by show 2 * 0 + _ ≤ _; exact Nat.le_of_eq rfl) (hb hby d1_92) (fun _ _ => ⟨rfl, e1, (by decide : 0 + 0 ≤ _), (by decide : 0 + 0 ≤ _)⟩)
  dsimp only [Pt.U, Pt.locs, Pt.cells, Pt.slots] at X2 l2 y2 z2 st2 hQ2
  replace l2 : ([] ++ Lc2) = L2 := l2.symm
  subst l2 y2 z2
  obtain ⟨rfl, rfl, e2⟩ := hQ2
  simp only [List.append_nil, Nat.add_zero] at X2
  have G2 := gd X2 hx hby
  obtain ⟨_, _, ⟨T3, L3, k3, n3⟩, -, X3, ⟨Lc3, hQ3, l3, y3, z3⟩, st3⟩ := Jvm.LawKit.callS X2 hx (y := (⟨"java/lang/Double", "isFinite", "(D)Z"⟩ : MethodName)) hown (mvT hZ (wd hw 12 rfl)) (mvT hZ (wd hw 13 rfl)) (mvT hZ (wd hw 14 rfl)) (mvT hZ (wd hw 15 rfl)) (by decide) (backOf (W := 0) (rm3 l Z a0 hw [] ((FP.dadd (4607182418800017408 : UInt64) (4607182418800017408 : UInt64))) h0 n0 Z0 (own_rm1_not_hp_hnn1_92 o0 o1 o2 o3 g0_ g1_ g2_ g3_ k1 k2 k3 hok hal)) hZ (wd hw 15 rfl) (wd hw 14 rfl) (by decide) (by decide)) (g := (mkF m 92 #[rv o0, rv o1, rv o2, rv o3, iv (1 : Int32), .unset] [(.double (FP.dadd (4607182418800017408 : UInt64) (4607182418800017408 : UInt64)))])) rfl (by rw [hml]; rfl) (argsL := [(.double (FP.dadd (4607182418800017408 : UInt64) (4607182418800017408 : UInt64)))]) (rest := []) (lenOf pd_1 rfl) rfl (by show 2 * 0 + _ ≤ _; exact Nat.le_of_eq rfl) (hb hby d1_92) (fun _ _ => ⟨rfl, e2, (by decide : 0 + 0 ≤ _), (by decide : 0 + 0 ≤ _)⟩)
  dsimp only [Pt.U, Pt.locs, Pt.cells, Pt.slots] at X3 l3 y3 z3 st3 hQ3
  replace l3 : ([] ++ Lc3) = L3 := l3.symm
  subst l3 y3 z3
  obtain ⟨rfl, rfl, e3⟩ := hQ3
  simp only [List.append_nil, Nat.add_zero] at X3
  have G3 := gd X3 hx hby
  obtain ⟨_, _, ⟨T4, L4, k4, n4⟩, -, X4, ⟨Lc4, hQ4, l4, y4, z4⟩, st4⟩ := Jvm.LawKit.callS X3 hx (y := (⟨"java/lang/Double", "isFinite", "(D)Z"⟩ : MethodName)) hown (mvT hZ (wd hw 12 rfl)) (mvT hZ (wd hw 13 rfl)) (mvT hZ (wd hw 14 rfl)) (mvT hZ (wd hw 15 rfl)) (by decide) (backOf (W := 0) (rm3 l Z a0 hw [] ((FP.dadd (4607182418800017408 : UInt64) (4607182418800017408 : UInt64))) h0 n0 Z0 (own_rm1_not_hp_hnn1_92 o0 o1 o2 o3 g0_ g1_ g2_ g3_ k1 k2 k3 hok hal)) hZ (wd hw 15 rfl) (wd hw 14 rfl) (by decide) (by decide)) (g := (mkF m 92 #[rv o0, rv o1, rv o2, rv o3, iv (2 : Int32), .unset] [(.double (FP.dadd (4607182418800017408 : UInt64) (4607182418800017408 : UInt64)))])) rfl (by rw [hml]; rfl) (argsL := [(.double (FP.dadd (4607182418800017408 : UInt64) (4607182418800017408 : UInt64)))]) (rest := []) (lenOf pd_1 rfl) rfl (by show 2 * 0 + _ ≤ _; exact Nat.le_of_eq rfl) (hb hby d1_92) (fun _ _ => ⟨rfl, e3, (by decide : 0 + 0 ≤ _), (by decide : 0 + 0 ≤ _)⟩)
  dsimp only [Pt.U, Pt.locs, Pt.cells, Pt.slots] at X4 l4 y4 z4 st4 hQ4
  replace l4 : ([] ++ Lc4) = L4 := l4.symm
  subst l4 y4 z4
  obtain ⟨rfl, rfl, e4⟩ := hQ4
  simp only [List.append_nil, Nat.add_zero] at X4
  have G4 := gd X4 hx hby
  obtain ⟨_, _, ⟨T5, L5, k5, n5⟩, -, X5, ⟨Lc5, hQ5, l5, y5, z5⟩, st5⟩ := Jvm.LawKit.callS X4 hx (y := (⟨"java/lang/Double", "isFinite", "(D)Z"⟩ : MethodName)) hown (mvT hZ (wd hw 12 rfl)) (mvT hZ (wd hw 13 rfl)) (mvT hZ (wd hw 14 rfl)) (mvT hZ (wd hw 15 rfl)) (by decide) (backOf (W := 0) (rm3 l Z a0 hw [] ((FP.dadd (4607182418800017408 : UInt64) (4607182418800017408 : UInt64))) h0 n0 Z0 (own_rm1_not_hp_hnn1_92 o0 o1 o2 o3 g0_ g1_ g2_ g3_ k1 k2 k3 hok hal)) hZ (wd hw 15 rfl) (wd hw 14 rfl) (by decide) (by decide)) (g := (mkF m 92 #[rv o0, rv o1, rv o2, rv o3, iv (3 : Int32), .unset] [(.double (FP.dadd (4607182418800017408 : UInt64) (4607182418800017408 : UInt64)))])) rfl (by rw [hml]; rfl) (argsL := [(.double (FP.dadd (4607182418800017408 : UInt64) (4607182418800017408 : UInt64)))]) (rest := []) (lenOf pd_1 rfl) rfl (by show 2 * 0 + _ ≤ _; exact Nat.le_of_eq rfl) (hb hby d1_92) (fun _ _ => ⟨rfl, e4, (by decide : 0 + 0 ≤ _), (by decide : 0 + 0 ≤ _)⟩)
  dsimp only [Pt.U, Pt.locs, Pt.cells, Pt.slots] at X5 l5 y5 z5 st5 hQ5
  replace l5 : ([] ++ Lc5) = L5 := l5.symm
  subst l5 y5 z5
  obtain ⟨rfl, rfl, e5⟩ := hQ5
  simp only [List.append_nil, Nat.add_zero] at X5
  have G5 := gd X5 hx hby
  obtain ⟨T7, X7, e7, st7⟩ : ∃ T' : State, Stand p l e (room_of_1_not) s m #[(.ref o0), (.ref o1), (.ref o2), (.ref o3)] below meth c T' [] 0 0 ∧ T'.heap = h0 ∧ ∀ target, Steps p.tables e below (T'.setTop (mkF m 183 #[rv o0, rv o1, rv o2, rv o3, iv (if g0_ = (0 : Int32) then (1 : Int32) else (0 : Int32)), iv (1 : Int32)] [])) target → Steps p.tables e below (T5.setTop (mkF m 202 #[rv o0, rv o1, rv o2, rv o3, iv (1 : Int32), iv (0 : Int32)] [(.int (0 : Int32)), (.int g0_), (.int (1 : Int32))])) target := by
    by_cases hc202_6 : g0_ = (0 : Int32)
    · refine ⟨T5, X5, e5, fun target kt => ?_⟩
      refine micmpNo 205 G5 d1_202 (teq hc202_6).2 rfl ?_
      refine miconst 206 G5 d1_205 (v := (1 : Int32)) rfl rfl ?_
      refine mgoto 210 G5 d1_206 (by decide) rfl ?_
      refine miand 211 G5 d1_210 (v := (1 : Int32)) rfl rfl ?_
      refine mistore 213 G5 d1_211 #[rv o0, rv o1, rv o2, rv o3, iv (1 : Int32), iv (0 : Int32)] rfl rfl ?_
      refine miinc 216 G5 d1_213 rfl #[rv o0, rv o1, rv o2, rv o3, iv (1 : Int32), iv (1 : Int32)] rfl rfl ?_
      refine mgoto 183 G5 d1_216 (by decide) rfl ?_
      exact castTop (g' := (mkF m 183 #[rv o0, rv o1, rv o2, rv o3, iv (if g0_ = (0 : Int32) then (1 : Int32) else (0 : Int32)), iv (1 : Int32)] [])) (by simp only [if_pos hc202_6]) kt
    · refine ⟨T5, X5, e5, fun target kt => ?_⟩
      refine micmpYes 209 G5 d1_202 (feq hc202_6).2 (by decide) rfl ?_
      refine miconst 210 G5 d1_209 (v := (0 : Int32)) rfl rfl ?_
      refine miand 211 G5 d1_210 (v := (0 : Int32)) rfl rfl ?_
      refine mistore 213 G5 d1_211 #[rv o0, rv o1, rv o2, rv o3, iv (0 : Int32), iv (0 : Int32)] rfl rfl ?_
      refine miinc 216 G5 d1_213 rfl #[rv o0, rv o1, rv o2, rv o3, iv (0 : Int32), iv (1 : Int32)] rfl rfl ?_
      refine mgoto 183 G5 d1_216 (by decide) rfl ?_
      exact castTop (g' := (mkF m 183 #[rv o0, rv o1, rv o2, rv o3, iv (if g0_ = (0 : Int32) then (1 : Int32) else (0 : Int32)), iv (1 : Int32)] [])) (by simp only [if_neg hc202_6]) kt
  have G7 := gd X7 hx hby
  obtain ⟨T9, X9, e9, st9⟩ : ∃ T' : State, Stand p l e (room_of_1_not) s m #[(.ref o0), (.ref o1), (.ref o2), (.ref o3)] below meth c T' [] 0 0 ∧ T'.heap = h0 ∧ ∀ target, Steps p.tables e below (T'.setTop (mkF m 183 #[rv o0, rv o1, rv o2, rv o3, iv (if g1_ = (1 : Int32) then ((if g0_ = (0 : Int32) then (1 : Int32) else (0 : Int32)) &&& (1 : Int32)) else ((if g0_ = (0 : Int32) then (1 : Int32) else (0 : Int32)) &&& (0 : Int32))), iv (2 : Int32)] [])) target → Steps p.tables e below (T7.setTop (mkF m 202 #[rv o0, rv o1, rv o2, rv o3, iv (if g0_ = (0 : Int32) then (1 : Int32) else (0 : Int32)), iv (1 : Int32)] [(.int (1 : Int32)), (.int g1_), (.int (if g0_ = (0 : Int32) then (1 : Int32) else (0 : Int32)))])) target := by
    by_cases hc202_8 : g1_ = (1 : Int32)
    · refine ⟨T7, X7, e7, fun target kt => ?_⟩
      refine micmpNo 205 G7 d1_202 (teq hc202_8).2 rfl ?_
      refine miconst 206 G7 d1_205 (v := (1 : Int32)) rfl rfl ?_
      refine mgoto 210 G7 d1_206 (by decide) rfl ?_
      refine miand 211 G7 d1_210 rfl rfl ?_
      refine mistore 213 G7 d1_211 #[rv o0, rv o1, rv o2, rv o3, iv ((if g0_ = (0 : Int32) then (1 : Int32) else (0 : Int32)) &&& (1 : Int32)), iv (1 : Int32)] rfl rfl ?_
      refine miinc 216 G7 d1_213 rfl #[rv o0, rv o1, rv o2, rv o3, iv ((if g0_ = (0 : Int32) then (1 : Int32) else (0 : Int32)) &&& (1 : Int32)), iv (2 : Int32)] rfl rfl ?_
      refine mgoto 183 G7 d1_216 (by decide) rfl ?_
      exact castTop (g' := (mkF m 183 #[rv o0, rv o1, rv o2, rv o3, iv (if g1_ = (1 : Int32) then ((if g0_ = (0 : Int32) then (1 : Int32) else (0 : Int32)) &&& (1 : Int32)) else ((if g0_ = (0 : Int32) then (1 : Int32) else (0 : Int32)) &&& (0 : Int32))), iv (2 : Int32)] [])) (by simp only [if_pos hc202_8]) kt
    · refine ⟨T7, X7, e7, fun target kt => ?_⟩
      refine micmpYes 209 G7 d1_202 (feq hc202_8).2 (by decide) rfl ?_
      refine miconst 210 G7 d1_209 (v := (0 : Int32)) rfl rfl ?_
      refine miand 211 G7 d1_210 rfl rfl ?_
      refine mistore 213 G7 d1_211 #[rv o0, rv o1, rv o2, rv o3, iv ((if g0_ = (0 : Int32) then (1 : Int32) else (0 : Int32)) &&& (0 : Int32)), iv (1 : Int32)] rfl rfl ?_
      refine miinc 216 G7 d1_213 rfl #[rv o0, rv o1, rv o2, rv o3, iv ((if g0_ = (0 : Int32) then (1 : Int32) else (0 : Int32)) &&& (0 : Int32)), iv (2 : Int32)] rfl rfl ?_
      refine mgoto 183 G7 d1_216 (by decide) rfl ?_
      exact castTop (g' := (mkF m 183 #[rv o0, rv o1, rv o2, rv o3, iv (if g1_ = (1 : Int32) then ((if g0_ = (0 : Int32) then (1 : Int32) else (0 : Int32)) &&& (1 : Int32)) else ((if g0_ = (0 : Int32) then (1 : Int32) else (0 : Int32)) &&& (0 : Int32))), iv (2 : Int32)] [])) (by simp only [if_neg hc202_8]) kt
  have G9 := gd X9 hx hby
  obtain ⟨T11, X11, e11, st11⟩ : ∃ T' : State, Stand p l e (room_of_1_not) s m #[(.ref o0), (.ref o1), (.ref o2), (.ref o3)] below meth c T' [] 0 0 ∧ T'.heap = h0 ∧ ∀ target, Steps p.tables e below (T'.setTop (mkF m 183 #[rv o0, rv o1, rv o2, rv o3, iv (if g2_ = (2 : Int32) then ((if g1_ = (1 : Int32) then ((if g0_ = (0 : Int32) then (1 : Int32) else (0 : Int32)) &&& (1 : Int32)) else ((if g0_ = (0 : Int32) then (1 : Int32) else (0 : Int32)) &&& (0 : Int32))) &&& (1 : Int32)) else ((if g1_ = (1 : Int32) then ((if g0_ = (0 : Int32) then (1 : Int32) else (0 : Int32)) &&& (1 : Int32)) else ((if g0_ = (0 : Int32) then (1 : Int32) else (0 : Int32)) &&& (0 : Int32))) &&& (0 : Int32))), iv (3 : Int32)] [])) target → Steps p.tables e below (T9.setTop (mkF m 202 #[rv o0, rv o1, rv o2, rv o3, iv (if g1_ = (1 : Int32) then ((if g0_ = (0 : Int32) then (1 : Int32) else (0 : Int32)) &&& (1 : Int32)) else ((if g0_ = (0 : Int32) then (1 : Int32) else (0 : Int32)) &&& (0 : Int32))), iv (2 : Int32)] [(.int (2 : Int32)), (.int g2_), (.int (if g1_ = (1 : Int32) then ((if g0_ = (0 : Int32) then (1 : Int32) else (0 : Int32)) &&& (1 : Int32)) else ((if g0_ = (0 : Int32) then (1 : Int32) else (0 : Int32)) &&& (0 : Int32))))])) target := by
    by_cases hc202_10 : g2_ = (2 : Int32)
    · refine ⟨T9, X9, e9, fun target kt => ?_⟩
      refine micmpNo 205 G9 d1_202 (teq hc202_10).2 rfl ?_
      refine miconst 206 G9 d1_205 (v := (1 : Int32)) rfl rfl ?_
      refine mgoto 210 G9 d1_206 (by decide) rfl ?_
      refine miand 211 G9 d1_210 rfl rfl ?_
      refine mistore 213 G9 d1_211 #[rv o0, rv o1, rv o2, rv o3, iv ((if g1_ = (1 : Int32) then ((if g0_ = (0 : Int32) then (1 : Int32) else (0 : Int32)) &&& (1 : Int32)) else ((if g0_ = (0 : Int32) then (1 : Int32) else (0 : Int32)) &&& (0 : Int32))) &&& (1 : Int32)), iv (2 : Int32)] rfl rfl ?_
      refine miinc 216 G9 d1_213 rfl #[rv o0, rv o1, rv o2, rv o3, iv ((if g1_ = (1 : Int32) then ((if g0_ = (0 : Int32) then (1 : Int32) else (0 : Int32)) &&& (1 : Int32)) else ((if g0_ = (0 : Int32) then (1 : Int32) else (0 : Int32)) &&& (0 : Int32))) &&& (1 : Int32)), iv (3 : Int32)] rfl rfl ?_
      refine mgoto 183 G9 d1_216 (by decide) rfl ?_
      exact castTop (g' := (mkF m 183 #[rv o0, rv o1, rv o2, rv o3, iv (if g2_ = (2 : Int32) then ((if g1_ = (1 : Int32) then ((if g0_ = (0 : Int32) then (1 : Int32) else (0 : Int32)) &&& (1 : Int32)) else ((if g0_ = (0 : Int32) then (1 : Int32) else (0 : Int32)) &&& (0 : Int32))) &&& (1 : Int32)) else ((if g1_ = (1 : Int32) then ((if g0_ = (0 : Int32) then (1 : Int32) else (0 : Int32)) &&& (1 : Int32)) else ((if g0_ = (0 : Int32) then (1 : Int32) else (0 : Int32)) &&& (0 : Int32))) &&& (0 : Int32))), iv (3 : Int32)] [])) (by simp only [if_pos hc202_10]) kt
    · refine ⟨T9, X9, e9, fun target kt => ?_⟩
      refine micmpYes 209 G9 d1_202 (feq hc202_10).2 (by decide) rfl ?_
      refine miconst 210 G9 d1_209 (v := (0 : Int32)) rfl rfl ?_
      refine miand 211 G9 d1_210 rfl rfl ?_
      refine mistore 213 G9 d1_211 #[rv o0, rv o1, rv o2, rv o3, iv ((if g1_ = (1 : Int32) then ((if g0_ = (0 : Int32) then (1 : Int32) else (0 : Int32)) &&& (1 : Int32)) else ((if g0_ = (0 : Int32) then (1 : Int32) else (0 : Int32)) &&& (0 : Int32))) &&& (0 : Int32)), iv (2 : Int32)] rfl rfl ?_
      refine miinc 216 G9 d1_213 rfl #[rv o0, rv o1, rv o2, rv o3, iv ((if g1_ = (1 : Int32) then ((if g0_ = (0 : Int32) then (1 : Int32) else (0 : Int32)) &&& (1 : Int32)) else ((if g0_ = (0 : Int32) then (1 : Int32) else (0 : Int32)) &&& (0 : Int32))) &&& (0 : Int32)), iv (3 : Int32)] rfl rfl ?_
      refine mgoto 183 G9 d1_216 (by decide) rfl ?_
      exact castTop (g' := (mkF m 183 #[rv o0, rv o1, rv o2, rv o3, iv (if g2_ = (2 : Int32) then ((if g1_ = (1 : Int32) then ((if g0_ = (0 : Int32) then (1 : Int32) else (0 : Int32)) &&& (1 : Int32)) else ((if g0_ = (0 : Int32) then (1 : Int32) else (0 : Int32)) &&& (0 : Int32))) &&& (1 : Int32)) else ((if g1_ = (1 : Int32) then ((if g0_ = (0 : Int32) then (1 : Int32) else (0 : Int32)) &&& (1 : Int32)) else ((if g0_ = (0 : Int32) then (1 : Int32) else (0 : Int32)) &&& (0 : Int32))) &&& (0 : Int32))), iv (3 : Int32)] [])) (by simp only [if_neg hc202_10]) kt
  have G11 := gd X11 hx hby
  obtain ⟨T13, X13, e13, st13⟩ : ∃ T' : State, Stand p l e (room_of_1_not) s m #[(.ref o0), (.ref o1), (.ref o2), (.ref o3)] below meth c T' [] 0 0 ∧ T'.heap = h0 ∧ ∀ target, Steps p.tables e below (T'.setTop (mkF m 183 #[rv o0, rv o1, rv o2, rv o3, iv (if g3_ = (3 : Int32) then ((if g2_ = (2 : Int32) then ((if g1_ = (1 : Int32) then ((if g0_ = (0 : Int32) then (1 : Int32) else (0 : Int32)) &&& (1 : Int32)) else ((if g0_ = (0 : Int32) then (1 : Int32) else (0 : Int32)) &&& (0 : Int32))) &&& (1 : Int32)) else ((if g1_ = (1 : Int32) then ((if g0_ = (0 : Int32) then (1 : Int32) else (0 : Int32)) &&& (1 : Int32)) else ((if g0_ = (0 : Int32) then (1 : Int32) else (0 : Int32)) &&& (0 : Int32))) &&& (0 : Int32))) &&& (1 : Int32)) else ((if g2_ = (2 : Int32) then ((if g1_ = (1 : Int32) then ((if g0_ = (0 : Int32) then (1 : Int32) else (0 : Int32)) &&& (1 : Int32)) else ((if g0_ = (0 : Int32) then (1 : Int32) else (0 : Int32)) &&& (0 : Int32))) &&& (1 : Int32)) else ((if g1_ = (1 : Int32) then ((if g0_ = (0 : Int32) then (1 : Int32) else (0 : Int32)) &&& (1 : Int32)) else ((if g0_ = (0 : Int32) then (1 : Int32) else (0 : Int32)) &&& (0 : Int32))) &&& (0 : Int32))) &&& (0 : Int32))), iv (4 : Int32)] [])) target → Steps p.tables e below (T11.setTop (mkF m 202 #[rv o0, rv o1, rv o2, rv o3, iv (if g2_ = (2 : Int32) then ((if g1_ = (1 : Int32) then ((if g0_ = (0 : Int32) then (1 : Int32) else (0 : Int32)) &&& (1 : Int32)) else ((if g0_ = (0 : Int32) then (1 : Int32) else (0 : Int32)) &&& (0 : Int32))) &&& (1 : Int32)) else ((if g1_ = (1 : Int32) then ((if g0_ = (0 : Int32) then (1 : Int32) else (0 : Int32)) &&& (1 : Int32)) else ((if g0_ = (0 : Int32) then (1 : Int32) else (0 : Int32)) &&& (0 : Int32))) &&& (0 : Int32))), iv (3 : Int32)] [(.int (3 : Int32)), (.int g3_), (.int (if g2_ = (2 : Int32) then ((if g1_ = (1 : Int32) then ((if g0_ = (0 : Int32) then (1 : Int32) else (0 : Int32)) &&& (1 : Int32)) else ((if g0_ = (0 : Int32) then (1 : Int32) else (0 : Int32)) &&& (0 : Int32))) &&& (1 : Int32)) else ((if g1_ = (1 : Int32) then ((if g0_ = (0 : Int32) then (1 : Int32) else (0 : Int32)) &&& (1 : Int32)) else ((if g0_ = (0 : Int32) then (1 : Int32) else (0 : Int32)) &&& (0 : Int32))) &&& (0 : Int32))))])) target := by
    by_cases hc202_12 : g3_ = (3 : Int32)
    · refine ⟨T11, X11, e11, fun target kt => ?_⟩
      refine micmpNo 205 G11 d1_202 (teq hc202_12).2 rfl ?_
      refine miconst 206 G11 d1_205 (v := (1 : Int32)) rfl rfl ?_
      refine mgoto 210 G11 d1_206 (by decide) rfl ?_
      refine miand 211 G11 d1_210 rfl rfl ?_
      refine mistore 213 G11 d1_211 #[rv o0, rv o1, rv o2, rv o3, iv ((if g2_ = (2 : Int32) then ((if g1_ = (1 : Int32) then ((if g0_ = (0 : Int32) then (1 : Int32) else (0 : Int32)) &&& (1 : Int32)) else ((if g0_ = (0 : Int32) then (1 : Int32) else (0 : Int32)) &&& (0 : Int32))) &&& (1 : Int32)) else ((if g1_ = (1 : Int32) then ((if g0_ = (0 : Int32) then (1 : Int32) else (0 : Int32)) &&& (1 : Int32)) else ((if g0_ = (0 : Int32) then (1 : Int32) else (0 : Int32)) &&& (0 : Int32))) &&& (0 : Int32))) &&& (1 : Int32)), iv (3 : Int32)] rfl rfl ?_
      refine miinc 216 G11 d1_213 rfl #[rv o0, rv o1, rv o2, rv o3, iv ((if g2_ = (2 : Int32) then ((if g1_ = (1 : Int32) then ((if g0_ = (0 : Int32) then (1 : Int32) else (0 : Int32)) &&& (1 : Int32)) else ((if g0_ = (0 : Int32) then (1 : Int32) else (0 : Int32)) &&& (0 : Int32))) &&& (1 : Int32)) else ((if g1_ = (1 : Int32) then ((if g0_ = (0 : Int32) then (1 : Int32) else (0 : Int32)) &&& (1 : Int32)) else ((if g0_ = (0 : Int32) then (1 : Int32) else (0 : Int32)) &&& (0 : Int32))) &&& (0 : Int32))) &&& (1 : Int32)), iv (4 : Int32)] rfl rfl ?_
      refine mgoto 183 G11 d1_216 (by decide) rfl ?_
      exact castTop (g' := (mkF m 183 #[rv o0, rv o1, rv o2, rv o3, iv (if g3_ = (3 : Int32) then ((if g2_ = (2 : Int32) then ((if g1_ = (1 : Int32) then ((if g0_ = (0 : Int32) then (1 : Int32) else (0 : Int32)) &&& (1 : Int32)) else ((if g0_ = (0 : Int32) then (1 : Int32) else (0 : Int32)) &&& (0 : Int32))) &&& (1 : Int32)) else ((if g1_ = (1 : Int32) then ((if g0_ = (0 : Int32) then (1 : Int32) else (0 : Int32)) &&& (1 : Int32)) else ((if g0_ = (0 : Int32) then (1 : Int32) else (0 : Int32)) &&& (0 : Int32))) &&& (0 : Int32))) &&& (1 : Int32)) else ((if g2_ = (2 : Int32) then ((if g1_ = (1 : Int32) then ((if g0_ = (0 : Int32) then (1 : Int32) else (0 : Int32)) &&& (1 : Int32)) else ((if g0_ = (0 : Int32) then (1 : Int32) else (0 : Int32)) &&& (0 : Int32))) &&& (1 : Int32)) else ((if g1_ = (1 : Int32) then ((if g0_ = (0 : Int32) then (1 : Int32) else (0 : Int32)) &&& (1 : Int32)) else ((if g0_ = (0 : Int32) then (1 : Int32) else (0 : Int32)) &&& (0 : Int32))) &&& (0 : Int32))) &&& (0 : Int32))), iv (4 : Int32)] [])) (by simp only [if_pos hc202_12]) kt
    · refine ⟨T11, X11, e11, fun target kt => ?_⟩
      refine micmpYes 209 G11 d1_202 (feq hc202_12).2 (by decide) rfl ?_
      refine miconst 210 G11 d1_209 (v := (0 : Int32)) rfl rfl ?_
      refine miand 211 G11 d1_210 rfl rfl ?_
      refine mistore 213 G11 d1_211 #[rv o0, rv o1, rv o2, rv o3, iv ((if g2_ = (2 : Int32) then ((if g1_ = (1 : Int32) then ((if g0_ = (0 : Int32) then (1 : Int32) else (0 : Int32)) &&& (1 : Int32)) else ((if g0_ = (0 : Int32) then (1 : Int32) else (0 : Int32)) &&& (0 : Int32))) &&& (1 : Int32)) else ((if g1_ = (1 : Int32) then ((if g0_ = (0 : Int32) then (1 : Int32) else (0 : Int32)) &&& (1 : Int32)) else ((if g0_ = (0 : Int32) then (1 : Int32) else (0 : Int32)) &&& (0 : Int32))) &&& (0 : Int32))) &&& (0 : Int32)), iv (3 : Int32)] rfl rfl ?_
      refine miinc 216 G11 d1_213 rfl #[rv o0, rv o1, rv o2, rv o3, iv ((if g2_ = (2 : Int32) then ((if g1_ = (1 : Int32) then ((if g0_ = (0 : Int32) then (1 : Int32) else (0 : Int32)) &&& (1 : Int32)) else ((if g0_ = (0 : Int32) then (1 : Int32) else (0 : Int32)) &&& (0 : Int32))) &&& (1 : Int32)) else ((if g1_ = (1 : Int32) then ((if g0_ = (0 : Int32) then (1 : Int32) else (0 : Int32)) &&& (1 : Int32)) else ((if g0_ = (0 : Int32) then (1 : Int32) else (0 : Int32)) &&& (0 : Int32))) &&& (0 : Int32))) &&& (0 : Int32)), iv (4 : Int32)] rfl rfl ?_
      refine mgoto 183 G11 d1_216 (by decide) rfl ?_
      exact castTop (g' := (mkF m 183 #[rv o0, rv o1, rv o2, rv o3, iv (if g3_ = (3 : Int32) then ((if g2_ = (2 : Int32) then ((if g1_ = (1 : Int32) then ((if g0_ = (0 : Int32) then (1 : Int32) else (0 : Int32)) &&& (1 : Int32)) else ((if g0_ = (0 : Int32) then (1 : Int32) else (0 : Int32)) &&& (0 : Int32))) &&& (1 : Int32)) else ((if g1_ = (1 : Int32) then ((if g0_ = (0 : Int32) then (1 : Int32) else (0 : Int32)) &&& (1 : Int32)) else ((if g0_ = (0 : Int32) then (1 : Int32) else (0 : Int32)) &&& (0 : Int32))) &&& (0 : Int32))) &&& (1 : Int32)) else ((if g2_ = (2 : Int32) then ((if g1_ = (1 : Int32) then ((if g0_ = (0 : Int32) then (1 : Int32) else (0 : Int32)) &&& (1 : Int32)) else ((if g0_ = (0 : Int32) then (1 : Int32) else (0 : Int32)) &&& (0 : Int32))) &&& (1 : Int32)) else ((if g1_ = (1 : Int32) then ((if g0_ = (0 : Int32) then (1 : Int32) else (0 : Int32)) &&& (1 : Int32)) else ((if g0_ = (0 : Int32) then (1 : Int32) else (0 : Int32)) &&& (0 : Int32))) &&& (0 : Int32))) &&& (0 : Int32))), iv (4 : Int32)] [])) (by simp only [if_neg hc202_12]) kt
  have G13 := gd X13 hx hby
  obtain ⟨T14, h14, X14, e14, E14, V14, Xa14, st14⟩ := cloneH X13 hx hZ hown (wd hw 21 rfl) (wd hw 22 rfl) (wd hw 26 rfl) (wd hw 24 rfl) (wd hw 25 rfl) (wd hw 27 rfl) e13 (Arv.arh V_o1) E_o1 (g := (mkF m 221 #[rv o0, rv o1, rv o2, rv o3, iv (if g3_ = (3 : Int32) then ((if g2_ = (2 : Int32) then ((if g1_ = (1 : Int32) then ((if g0_ = (0 : Int32) then (1 : Int32) else (0 : Int32)) &&& (1 : Int32)) else ((if g0_ = (0 : Int32) then (1 : Int32) else (0 : Int32)) &&& (0 : Int32))) &&& (1 : Int32)) else ((if g1_ = (1 : Int32) then ((if g0_ = (0 : Int32) then (1 : Int32) else (0 : Int32)) &&& (1 : Int32)) else ((if g0_ = (0 : Int32) then (1 : Int32) else (0 : Int32)) &&& (0 : Int32))) &&& (0 : Int32))) &&& (1 : Int32)) else ((if g2_ = (2 : Int32) then ((if g1_ = (1 : Int32) then ((if g0_ = (0 : Int32) then (1 : Int32) else (0 : Int32)) &&& (1 : Int32)) else ((if g0_ = (0 : Int32) then (1 : Int32) else (0 : Int32)) &&& (0 : Int32))) &&& (1 : Int32)) else ((if g1_ = (1 : Int32) then ((if g0_ = (0 : Int32) then (1 : Int32) else (0 : Int32)) &&& (1 : Int32)) else ((if g0_ = (0 : Int32) then (1 : Int32) else (0 : Int32)) &&& (0 : Int32))) &&& (0 : Int32))) &&& (0 : Int32))), iv (4 : Int32)] [(.ref o1), (.ref o0)])) rfl (by rw [hml]; rfl) rfl (hb hby d1_221) (by decide) (W := 1) (cap := 4) (by show 2 * 0 + _ ≤ _; exact Nat.le_of_eq rfl) (by decide) (by decide) (by decide) (by decide)
  have G14 := gd X14 hx hby
  obtain ⟨b14, g14⟩ : ∃ z, z = h0.size := ⟨_, rfl⟩
  rw [← g14] at V14 Xa14 st14
  have ne_o0_b14 : o0 ≠ b14 := Nat.ne_of_lt (Nat.lt_of_lt_of_le E_o0.lt (Nat.le_of_eq g14.symm))
  have ne_o1_b14 : o1 ≠ b14 := Nat.ne_of_lt (Nat.lt_of_lt_of_le E_o1.lt (Nat.le_of_eq g14.symm))
  have ne_o2_b14 : o2 ≠ b14 := Nat.ne_of_lt (Nat.lt_of_lt_of_le E_o2.lt (Nat.le_of_eq g14.symm))
  have ne_o3_b14 : o3 ≠ b14 := Nat.ne_of_lt (Nat.lt_of_lt_of_le E_o3.lt (Nat.le_of_eq g14.symm))
  have g_b14 : n0 ≤ b14 := Nat.le_trans Z0 (Nat.le_of_eq g14.symm)
  have sz_b14 : h0.size ≤ b14 := Nat.le_trans (Keep.refl h0 [o0]).1 (Nat.le_of_eq g14.symm)
  have f15 := E_o0.ext E14
  have f16 := F_absolute_o0.ext E14
  have f17 := F_relative_o0.ext E14
  have f18 := F_groups_o0.ext E14
  have f19 := E_o1.ext E14
  have f20 := E_o2.ext E14
  have f21 := E_o3.ext E14
  have f22 := V_o1.ext E14
  have f23 := V_o2.ext E14
  have f24 := V_o3.ext E14
  have Z14 := Nat.le_trans Z0 E14.1
  have K14 : Keep h0 h14 [o0] := (Keep.refl h0 [o0]).ext E14
  have V_b14 : Arv Z h14 b14 k1 .double (4 : Int32) [(.double (4607182418800017408 : UInt64)), (.double (4607182418800017408 : UInt64)), (.double (4607182418800017408 : UInt64)), (.double (4607182418800017408 : UInt64))] (.double (0 : UInt64)) := V14
  obtain ⟨T25, X25, e25, st25⟩ := castY X14 hx hZ hown (wd hw 28 rfl) e14 (Ins.self Xa14) (g := (mkF m 224 #[rv o0, rv o1, rv o2, rv o3, iv (if g3_ = (3 : Int32) then ((if g2_ = (2 : Int32) then ((if g1_ = (1 : Int32) then ((if g0_ = (0 : Int32) then (1 : Int32) else (0 : Int32)) &&& (1 : Int32)) else ((if g0_ = (0 : Int32) then (1 : Int32) else (0 : Int32)) &&& (0 : Int32))) &&& (1 : Int32)) else ((if g1_ = (1 : Int32) then ((if g0_ = (0 : Int32) then (1 : Int32) else (0 : Int32)) &&& (1 : Int32)) else ((if g0_ = (0 : Int32) then (1 : Int32) else (0 : Int32)) &&& (0 : Int32))) &&& (0 : Int32))) &&& (1 : Int32)) else ((if g2_ = (2 : Int32) then ((if g1_ = (1 : Int32) then ((if g0_ = (0 : Int32) then (1 : Int32) else (0 : Int32)) &&& (1 : Int32)) else ((if g0_ = (0 : Int32) then (1 : Int32) else (0 : Int32)) &&& (0 : Int32))) &&& (1 : Int32)) else ((if g1_ = (1 : Int32) then ((if g0_ = (0 : Int32) then (1 : Int32) else (0 : Int32)) &&& (1 : Int32)) else ((if g0_ = (0 : Int32) then (1 : Int32) else (0 : Int32)) &&& (0 : Int32))) &&& (0 : Int32))) &&& (0 : Int32))), iv (4 : Int32)] [(.ref b14), (.ref o0)])) rfl rfl (hb hby d1_224)
  have G25 := gd X25 hx hby
  obtain ⟨T26, h26, X26, e26, W26, st26⟩ := putF X25 hx hZ hown (host := "") (Or.inl (wd hw 30 rfl)) Via.refl e25 f16 f15 (Or.inr ⟨(wd hw 31 rfl), rfl, hnm⟩) (wd hw 4 rfl) (ty := (.array .double)) (by decide) rfl rfl (g := (mkF m 227 #[rv o0, rv o1, rv o2, rv o3, iv (if g3_ = (3 : Int32) then ((if g2_ = (2 : Int32) then ((if g1_ = (1 : Int32) then ((if g0_ = (0 : Int32) then (1 : Int32) else (0 : Int32)) &&& (1 : Int32)) else ((if g0_ = (0 : Int32) then (1 : Int32) else (0 : Int32)) &&& (0 : Int32))) &&& (1 : Int32)) else ((if g1_ = (1 : Int32) then ((if g0_ = (0 : Int32) then (1 : Int32) else (0 : Int32)) &&& (1 : Int32)) else ((if g0_ = (0 : Int32) then (1 : Int32) else (0 : Int32)) &&& (0 : Int32))) &&& (0 : Int32))) &&& (1 : Int32)) else ((if g2_ = (2 : Int32) then ((if g1_ = (1 : Int32) then ((if g0_ = (0 : Int32) then (1 : Int32) else (0 : Int32)) &&& (1 : Int32)) else ((if g0_ = (0 : Int32) then (1 : Int32) else (0 : Int32)) &&& (0 : Int32))) &&& (1 : Int32)) else ((if g1_ = (1 : Int32) then ((if g0_ = (0 : Int32) then (1 : Int32) else (0 : Int32)) &&& (1 : Int32)) else ((if g0_ = (0 : Int32) then (1 : Int32) else (0 : Int32)) &&& (0 : Int32))) &&& (0 : Int32))) &&& (0 : Int32))), iv (4 : Int32)] [(.ref b14), (.ref o0)])) rfl rfl (hb hby d1_227)
  have G26 := gd X26 hx hby
  have N26 := Fr.snoc X26 N0 g_o0
  have f27 := f15.wr W26
  have f30 := f17.other W26 (Or.inr (slot_ne (Or.inr (wd hw 33 rfl)) (Or.inr (wd hw 31 rfl)) (by decide) (t := (.array .double)) (t' := (.array .double)) (by decide) (by decide)))
  have f31 := f18.other W26 (Or.inr (slot_ne (Or.inr (wd hw 41 rfl)) (Or.inr (wd hw 31 rfl)) (by decide) (t := (.array .int)) (t' := (.array .double)) (by decide) (by decide)))
  have f35 := f19.wr W26
  have f36 := f20.wr W26
  have f37 := f21.wr W26
  have f38 := f22.other W26 (Ne.symm ne_o0_o1)
  have f39 := f23.other W26 (Ne.symm ne_o0_o2)
  have f40 := f24.other W26 (Ne.symm ne_o0_o3)
  have f47 := V_b14.other W26 (Ne.symm ne_o0_b14)
  have f48 := Xa14.wr W26
  have Z26 := Nat.le_trans Z14 (Keep.of_wr W26).1
  have K26 : Keep h0 h26 [o0] := K14.wr W26 (Or.inl (List.mem_of_getElem? (i := 0) rfl))
  have Fw26 := f16.same W26
  obtain ⟨T49, h49, X49, e49, E49, V49, Xa49, st49⟩ := cloneH X26 hx hZ hown (wd hw 21 rfl) (wd hw 22 rfl) (wd hw 26 rfl) (wd hw 24 rfl) (wd hw 25 rfl) (wd hw 27 rfl) e26 (Arv.arh f39) f36 (g := (mkF m 232 #[rv o0, rv o1, rv o2, rv o3, iv (if g3_ = (3 : Int32) then ((if g2_ = (2 : Int32) then ((if g1_ = (1 : Int32) then ((if g0_ = (0 : Int32) then (1 : Int32) else (0 : Int32)) &&& (1 : Int32)) else ((if g0_ = (0 : Int32) then (1 : Int32) else (0 : Int32)) &&& (0 : Int32))) &&& (1 : Int32)) else ((if g1_ = (1 : Int32) then ((if g0_ = (0 : Int32) then (1 : Int32) else (0 : Int32)) &&& (1 : Int32)) else ((if g0_ = (0 : Int32) then (1 : Int32) else (0 : Int32)) &&& (0 : Int32))) &&& (0 : Int32))) &&& (1 : Int32)) else ((if g2_ = (2 : Int32) then ((if g1_ = (1 : Int32) then ((if g0_ = (0 : Int32) then (1 : Int32) else (0 : Int32)) &&& (1 : Int32)) else ((if g0_ = (0 : Int32) then (1 : Int32) else (0 : Int32)) &&& (0 : Int32))) &&& (1 : Int32)) else ((if g1_ = (1 : Int32) then ((if g0_ = (0 : Int32) then (1 : Int32) else (0 : Int32)) &&& (1 : Int32)) else ((if g0_ = (0 : Int32) then (1 : Int32) else (0 : Int32)) &&& (0 : Int32))) &&& (0 : Int32))) &&& (0 : Int32))), iv (4 : Int32)] [(.ref o2), (.ref o0)])) rfl (by rw [hml]; rfl) rfl (hb hby d1_232) (by decide) (W := 1) (cap := 4) (by show 2 * 0 + _ ≤ _; exact Nat.le_of_eq rfl) (by decide) (by decide) (by decide) (by decide)
  have G49 := gd X49 hx hby
  obtain ⟨b49, g49⟩ : ∃ z, z = h26.size := ⟨_, rfl⟩
  rw [← g49] at V49 Xa49 st49
  have ne_o0_b49 : o0 ≠ b49 := Nat.ne_of_lt (Nat.lt_of_lt_of_le f27.lt (Nat.le_of_eq g49.symm))
  have ne_o1_b49 : o1 ≠ b49 := Nat.ne_of_lt (Nat.lt_of_lt_of_le f35.lt (Nat.le_of_eq g49.symm))
  have ne_o2_b49 : o2 ≠ b49 := Nat.ne_of_lt (Nat.lt_of_lt_of_le f36.lt (Nat.le_of_eq g49.symm))
  have ne_o3_b49 : o3 ≠ b49 := Nat.ne_of_lt (Nat.lt_of_lt_of_le f37.lt (Nat.le_of_eq g49.symm))
  have ne_b14_b49 : b14 ≠ b49 := Nat.ne_of_lt (Nat.lt_of_lt_of_le f47.lt (Nat.le_of_eq g49.symm))
  have g_b49 : n0 ≤ b49 := Nat.le_trans Z26 (Nat.le_of_eq g49.symm)
  have sz_b49 : h0.size ≤ b49 := Nat.le_trans K26.1 (Nat.le_of_eq g49.symm)
  have f50 := f27.ext E49
  have f51 := Fw26.ext E49
  have f52 := f30.ext E49
  have f53 := f31.ext E49
  have f54 := f35.ext E49
  have f55 := f36.ext E49
  have f56 := f37.ext E49
  have f57 := f38.ext E49
  have f58 := f39.ext E49
  have f59 := f40.ext E49
  have f60 := f47.ext E49
  have f61 := f48.ext E49
  have Z49 := Nat.le_trans Z26 E49.1
  have K49 : Keep h0 h49 [o0] := K26.ext E49
  have V_b49 : Arv Z h49 b49 k2 .double (4 : Int32) [(.double (4607182418800017408 : UInt64)), (.double (4607182418800017408 : UInt64)), (.double (4607182418800017408 : UInt64)), (.double (4607182418800017408 : UInt64))] (.double (0 : UInt64)) := V49
  obtain ⟨T62, X62, e62, st62⟩ := castY X49 hx hZ hown (wd hw 28 rfl) e49 (Ins.self Xa49) (g := (mkF m 235 #[rv o0, rv o1, rv o2, rv o3, iv (if g3_ = (3 : Int32) then ((if g2_ = (2 : Int32) then ((if g1_ = (1 : Int32) then ((if g0_ = (0 : Int32) then (1 : Int32) else (0 : Int32)) &&& (1 : Int32)) else ((if g0_ = (0 : Int32) then (1 : Int32) else (0 : Int32)) &&& (0 : Int32))) &&& (1 : Int32)) else ((if g1_ = (1 : Int32) then ((if g0_ = (0 : Int32) then (1 : Int32) else (0 : Int32)) &&& (1 : Int32)) else ((if g0_ = (0 : Int32) then (1 : Int32) else (0 : Int32)) &&& (0 : Int32))) &&& (0 : Int32))) &&& (1 : Int32)) else ((if g2_ = (2 : Int32) then ((if g1_ = (1 : Int32) then ((if g0_ = (0 : Int32) then (1 : Int32) else (0 : Int32)) &&& (1 : Int32)) else ((if g0_ = (0 : Int32) then (1 : Int32) else (0 : Int32)) &&& (0 : Int32))) &&& (1 : Int32)) else ((if g1_ = (1 : Int32) then ((if g0_ = (0 : Int32) then (1 : Int32) else (0 : Int32)) &&& (1 : Int32)) else ((if g0_ = (0 : Int32) then (1 : Int32) else (0 : Int32)) &&& (0 : Int32))) &&& (0 : Int32))) &&& (0 : Int32))), iv (4 : Int32)] [(.ref b49), (.ref o0)])) rfl rfl (hb hby d1_235)
  have G62 := gd X62 hx hby
  obtain ⟨T63, h63, X63, e63, W63, st63⟩ := putF X62 hx hZ hown (host := "") (Or.inl (wd hw 32 rfl)) Via.refl e62 f52 f50 (Or.inr ⟨(wd hw 33 rfl), rfl, hnm⟩) (wd hw 4 rfl) (ty := (.array .double)) (by decide) rfl rfl (g := (mkF m 238 #[rv o0, rv o1, rv o2, rv o3, iv (if g3_ = (3 : Int32) then ((if g2_ = (2 : Int32) then ((if g1_ = (1 : Int32) then ((if g0_ = (0 : Int32) then (1 : Int32) else (0 : Int32)) &&& (1 : Int32)) else ((if g0_ = (0 : Int32) then (1 : Int32) else (0 : Int32)) &&& (0 : Int32))) &&& (1 : Int32)) else ((if g1_ = (1 : Int32) then ((if g0_ = (0 : Int32) then (1 : Int32) else (0 : Int32)) &&& (1 : Int32)) else ((if g0_ = (0 : Int32) then (1 : Int32) else (0 : Int32)) &&& (0 : Int32))) &&& (0 : Int32))) &&& (1 : Int32)) else ((if g2_ = (2 : Int32) then ((if g1_ = (1 : Int32) then ((if g0_ = (0 : Int32) then (1 : Int32) else (0 : Int32)) &&& (1 : Int32)) else ((if g0_ = (0 : Int32) then (1 : Int32) else (0 : Int32)) &&& (0 : Int32))) &&& (1 : Int32)) else ((if g1_ = (1 : Int32) then ((if g0_ = (0 : Int32) then (1 : Int32) else (0 : Int32)) &&& (1 : Int32)) else ((if g0_ = (0 : Int32) then (1 : Int32) else (0 : Int32)) &&& (0 : Int32))) &&& (0 : Int32))) &&& (0 : Int32))), iv (4 : Int32)] [(.ref b49), (.ref o0)])) rfl rfl (hb hby d1_238)
  have G63 := gd X63 hx hby
  have N63 := Fr.snoc X63 N26 g_o0
  have f64 := f50.wr W63
  have f66 := f51.other W63 (Or.inr (slot_ne (Or.inr (wd hw 31 rfl)) (Or.inr (wd hw 33 rfl)) (by decide) (t := (.array .double)) (t' := (.array .double)) (by decide) (by decide)))
  have f68 := f53.other W63 (Or.inr (slot_ne (Or.inr (wd hw 41 rfl)) (Or.inr (wd hw 33 rfl)) (by decide) (t := (.array .int)) (t' := (.array .double)) (by decide) (by decide)))
  have f72 := f54.wr W63
  have f73 := f55.wr W63
  have f74 := f56.wr W63
  have f75 := f57.other W63 (Ne.symm ne_o0_o1)
  have f76 := f58.other W63 (Ne.symm ne_o0_o2)
  have f77 := f59.other W63 (Ne.symm ne_o0_o3)
  have f84 := f60.other W63 (Ne.symm ne_o0_b14)
  have f85 := f61.wr W63
  have f93 := V_b49.other W63 (Ne.symm ne_o0_b49)
  have f94 := Xa49.wr W63
  have Z63 := Nat.le_trans Z49 (Keep.of_wr W63).1
  have K63 : Keep h0 h63 [o0] := K49.wr W63 (Or.inl (List.mem_of_getElem? (i := 0) rfl))
  have Fw63 := f52.same W63
  obtain ⟨T95, h95, X95, e95, E95, V95, Xa95, st95⟩ := cloneH X63 hx hZ hown (wd hw 34 rfl) (wd hw 35 rfl) (wd hw 26 rfl) (wd hw 24 rfl) (wd hw 36 rfl) (wd hw 37 rfl) e63 (Arv.arh f77) f74 (g := (mkF m 252 #[rv o0, rv o1, rv o2, rv o3, iv (if g3_ = (3 : Int32) then ((if g2_ = (2 : Int32) then ((if g1_ = (1 : Int32) then ((if g0_ = (0 : Int32) then (1 : Int32) else (0 : Int32)) &&& (1 : Int32)) else ((if g0_ = (0 : Int32) then (1 : Int32) else (0 : Int32)) &&& (0 : Int32))) &&& (1 : Int32)) else ((if g1_ = (1 : Int32) then ((if g0_ = (0 : Int32) then (1 : Int32) else (0 : Int32)) &&& (1 : Int32)) else ((if g0_ = (0 : Int32) then (1 : Int32) else (0 : Int32)) &&& (0 : Int32))) &&& (0 : Int32))) &&& (1 : Int32)) else ((if g2_ = (2 : Int32) then ((if g1_ = (1 : Int32) then ((if g0_ = (0 : Int32) then (1 : Int32) else (0 : Int32)) &&& (1 : Int32)) else ((if g0_ = (0 : Int32) then (1 : Int32) else (0 : Int32)) &&& (0 : Int32))) &&& (1 : Int32)) else ((if g1_ = (1 : Int32) then ((if g0_ = (0 : Int32) then (1 : Int32) else (0 : Int32)) &&& (1 : Int32)) else ((if g0_ = (0 : Int32) then (1 : Int32) else (0 : Int32)) &&& (0 : Int32))) &&& (0 : Int32))) &&& (0 : Int32))), iv (4 : Int32)] [(.ref o3), (.ref o0)])) rfl (by rw [hml]; rfl) rfl (hb hby d1_252) (by decide) (W := 1) (cap := 4) (by show 2 * 0 + _ ≤ _; exact Nat.le_of_eq rfl) (by decide) (by decide) (by decide) (by decide)
  have G95 := gd X95 hx hby
  obtain ⟨b95, g95⟩ : ∃ z, z = h63.size := ⟨_, rfl⟩
  rw [← g95] at V95 Xa95 st95
  have ne_o0_b95 : o0 ≠ b95 := Nat.ne_of_lt (Nat.lt_of_lt_of_le f64.lt (Nat.le_of_eq g95.symm))
  have ne_o1_b95 : o1 ≠ b95 := Nat.ne_of_lt (Nat.lt_of_lt_of_le f72.lt (Nat.le_of_eq g95.symm))
  have ne_o2_b95 : o2 ≠ b95 := Nat.ne_of_lt (Nat.lt_of_lt_of_le f73.lt (Nat.le_of_eq g95.symm))
  have ne_o3_b95 : o3 ≠ b95 := Nat.ne_of_lt (Nat.lt_of_lt_of_le f74.lt (Nat.le_of_eq g95.symm))
  have ne_b14_b95 : b14 ≠ b95 := Nat.ne_of_lt (Nat.lt_of_lt_of_le f84.lt (Nat.le_of_eq g95.symm))
  have ne_b49_b95 : b49 ≠ b95 := Nat.ne_of_lt (Nat.lt_of_lt_of_le f93.lt (Nat.le_of_eq g95.symm))
  have g_b95 : n0 ≤ b95 := Nat.le_trans Z63 (Nat.le_of_eq g95.symm)
  have sz_b95 : h0.size ≤ b95 := Nat.le_trans K63.1 (Nat.le_of_eq g95.symm)
  have f96 := f64.ext E95
  have f97 := f66.ext E95
  have f98 := Fw63.ext E95
  have f99 := f68.ext E95
  have f100 := f72.ext E95
  have f101 := f73.ext E95
  have f102 := f74.ext E95
  have f103 := f75.ext E95
  have f104 := f76.ext E95
  have f105 := f77.ext E95
  have f106 := f84.ext E95
  have f107 := f85.ext E95
  have f108 := f93.ext E95
  have f109 := f94.ext E95
  have Z95 := Nat.le_trans Z63 E95.1
  have K95 : Keep h0 h95 [o0] := K63.ext E95
  have V_b95 : Arv Z h95 b95 k3 .int (4 : Int32) [(.int g0_), (.int g1_), (.int g2_), (.int g3_)] (.int (0 : Int32)) := V95
  obtain ⟨T110, X110, e110, st110⟩ := castY X95 hx hZ hown (wd hw 38 rfl) e95 (Ins.self Xa95) (g := (mkF m 255 #[rv o0, rv o1, rv o2, rv o3, iv (if g3_ = (3 : Int32) then ((if g2_ = (2 : Int32) then ((if g1_ = (1 : Int32) then ((if g0_ = (0 : Int32) then (1 : Int32) else (0 : Int32)) &&& (1 : Int32)) else ((if g0_ = (0 : Int32) then (1 : Int32) else (0 : Int32)) &&& (0 : Int32))) &&& (1 : Int32)) else ((if g1_ = (1 : Int32) then ((if g0_ = (0 : Int32) then (1 : Int32) else (0 : Int32)) &&& (1 : Int32)) else ((if g0_ = (0 : Int32) then (1 : Int32) else (0 : Int32)) &&& (0 : Int32))) &&& (0 : Int32))) &&& (1 : Int32)) else ((if g2_ = (2 : Int32) then ((if g1_ = (1 : Int32) then ((if g0_ = (0 : Int32) then (1 : Int32) else (0 : Int32)) &&& (1 : Int32)) else ((if g0_ = (0 : Int32) then (1 : Int32) else (0 : Int32)) &&& (0 : Int32))) &&& (1 : Int32)) else ((if g1_ = (1 : Int32) then ((if g0_ = (0 : Int32) then (1 : Int32) else (0 : Int32)) &&& (1 : Int32)) else ((if g0_ = (0 : Int32) then (1 : Int32) else (0 : Int32)) &&& (0 : Int32))) &&& (0 : Int32))) &&& (0 : Int32))), iv (4 : Int32)] [(.ref b95), (.ref o0)])) rfl rfl (hb hby d1_255)
  have G110 := gd X110 hx hby
  obtain ⟨T111, h111, X111, e111, W111, st111⟩ := putF X110 hx hZ hown (host := "") (Or.inl (wd hw 40 rfl)) Via.refl e110 f99 f96 (Or.inr ⟨(wd hw 41 rfl), rfl, hnm⟩) (wd hw 4 rfl) (ty := (.array .int)) (by decide) rfl rfl (g := (mkF m 258 #[rv o0, rv o1, rv o2, rv o3, iv (if g3_ = (3 : Int32) then ((if g2_ = (2 : Int32) then ((if g1_ = (1 : Int32) then ((if g0_ = (0 : Int32) then (1 : Int32) else (0 : Int32)) &&& (1 : Int32)) else ((if g0_ = (0 : Int32) then (1 : Int32) else (0 : Int32)) &&& (0 : Int32))) &&& (1 : Int32)) else ((if g1_ = (1 : Int32) then ((if g0_ = (0 : Int32) then (1 : Int32) else (0 : Int32)) &&& (1 : Int32)) else ((if g0_ = (0 : Int32) then (1 : Int32) else (0 : Int32)) &&& (0 : Int32))) &&& (0 : Int32))) &&& (1 : Int32)) else ((if g2_ = (2 : Int32) then ((if g1_ = (1 : Int32) then ((if g0_ = (0 : Int32) then (1 : Int32) else (0 : Int32)) &&& (1 : Int32)) else ((if g0_ = (0 : Int32) then (1 : Int32) else (0 : Int32)) &&& (0 : Int32))) &&& (1 : Int32)) else ((if g1_ = (1 : Int32) then ((if g0_ = (0 : Int32) then (1 : Int32) else (0 : Int32)) &&& (1 : Int32)) else ((if g0_ = (0 : Int32) then (1 : Int32) else (0 : Int32)) &&& (0 : Int32))) &&& (0 : Int32))) &&& (0 : Int32))), iv (4 : Int32)] [(.ref b95), (.ref o0)])) rfl rfl (hb hby d1_258)
  have G111 := gd X111 hx hby
  have N111 := Fr.snoc X111 N63 g_o0
  have f112 := f96.wr W111
  have f114 := f97.other W111 (Or.inr (slot_ne (Or.inr (wd hw 31 rfl)) (Or.inr (wd hw 41 rfl)) (by decide) (t := (.array .double)) (t' := (.array .int)) (by decide) (by decide)))
  have f115 := f98.other W111 (Or.inr (slot_ne (Or.inr (wd hw 33 rfl)) (Or.inr (wd hw 41 rfl)) (by decide) (t := (.array .double)) (t' := (.array .int)) (by decide) (by decide)))
  have f120 := f100.wr W111
  have f121 := f101.wr W111
  have f122 := f102.wr W111
  have f123 := f103.other W111 (Ne.symm ne_o0_o1)
  have f124 := f104.other W111 (Ne.symm ne_o0_o2)
  have f125 := f105.other W111 (Ne.symm ne_o0_o3)
  have f132 := f106.other W111 (Ne.symm ne_o0_b14)
  have f133 := f107.wr W111
  have f141 := f108.other W111 (Ne.symm ne_o0_b49)
  have f142 := f109.wr W111
  have f151 := V_b95.other W111 (Ne.symm ne_o0_b95)
  have f152 := Xa95.wr W111
  have Z111 := Nat.le_trans Z95 (Keep.of_wr W111).1
  have K111 : Keep h0 h111 [o0] := K95.wr W111 (Or.inl (List.mem_of_getElem? (i := 0) rfl))
  have Fw111 := f99.same W111
  obtain ⟨fs, hr, hrun, hended, hW, hsame⟩ := X111.leave (v := none) (fun _ => rfl)
  refine ⟨_, _, pre0 _ ?_, hrun, hended, _, _, rfl, ?_, ⟨_, rfl⟩, hW, hsame.mono (by decide) (by decide)⟩
  · show Steps p.tables e below (s₁.setTop (mkF m 0 #[rv o0, rv o1, rv o2, rv o3, .unset, .unset] [])) _
    refine maloadN 1 G0 d1_0 rfl rfl rfl ?_
    refine st1 _ ?_
    show Steps p.tables e below (T1.setTop (mkF m 4 #[rv o0, rv o1, rv o2, rv o3, .unset, .unset] [])) _
    refine maloadN 5 G1 d1_4 rfl rfl rfl ?_
    refine mlen 6 X1 hx hby hZ e1 V_o1 d1_5 rfl ?_
    refine maloadN 7 G1 d1_6 rfl rfl rfl ?_
    refine mlen 8 X1 hx hby hZ e1 V_o2 d1_7 rfl ?_
    refine micmpNo 11 G1 d1_8 (teq (by decide : (4 : Int32) = (4 : Int32))).2 rfl ?_
    refine maloadN 12 G1 d1_11 rfl rfl rfl ?_
    refine XS.ifnullNo X1.here hx rfl (hb hby d1_12) rfl ?_
    show Steps p.tables e below (T1.setTop (mkF m 15 #[rv o0, rv o1, rv o2, rv o3, .unset, .unset] [])) _
    refine maloadN 16 G1 d1_15 rfl rfl rfl ?_
    refine mlen 17 X1 hx hby hZ e1 V_o3 d1_16 rfl ?_
    refine maloadN 18 G1 d1_17 rfl rfl rfl ?_
    refine mlen 19 X1 hx hby hZ e1 V_o1 d1_18 rfl ?_
    refine micmpYes 55 G1 d1_19 (teq (by decide : (4 : Int32) = (4 : Int32))).1 (by decide) rfl ?_
    refine miconst 56 G1 d1_55 (v := (0 : Int32)) rfl rfl ?_
    refine mistore 58 G1 d1_56 #[rv o0, rv o1, rv o2, rv o3, iv (0 : Int32), .unset] rfl rfl ?_
    refine miload 60 G1 d1_58 rfl rfl ?_
    refine maloadN 61 G1 d1_60 rfl rfl rfl ?_
    refine mlen 62 X1 hx hby hZ e1 V_o1 d1_61 rfl ?_
    refine micmpNo 65 G1 d1_62 (tlt (by decide : (0 : Int32) < (4 : Int32))).2.1 rfl ?_
    refine maloadN 66 G1 d1_65 rfl rfl rfl ?_
    refine miload 68 G1 d1_66 rfl rfl ?_
    refine mdaload 69 X1 hx hby hZ e1 V_o1 (v := (4607182418800017408 : UInt64)) d1_68 ⟨by decide, by decide⟩ rfl rfl ?_
    refine mdconst0 70 G1 d1_69 (v := (0 : UInt64)) rfl rfl ?_
    refine mdcmp 71 G1 d1_70 rfl ?_
    refine mifNo 74 G1 d1_71 ((if0 _ _).trans (tlt (own_rm1_not_fc71 o0 o1 o2 o3 g0_ g1_ g2_ g3_ k1 k2 k3 hok hal)).2.2.2) rfl ?_
    refine maloadN 75 G1 d1_74 rfl rfl rfl ?_
    refine miload 77 G1 d1_75 rfl rfl ?_
    refine mdaload 78 X1 hx hby hZ e1 V_o2 (v := (4607182418800017408 : UInt64)) d1_77 ⟨by decide, by decide⟩ rfl rfl ?_
    refine mdconst0 79 G1 d1_78 (v := (0 : UInt64)) rfl rfl ?_
    refine mdcmp 80 G1 d1_79 rfl ?_
    refine mifNo 83 G1 d1_80 ((if0 _ _).trans (tlt (own_rm1_not_fc80 o0 o1 o2 o3 g0_ g1_ g2_ g3_ k1 k2 k3 hok hal)).2.2.2) rfl ?_
    refine maloadN 84 G1 d1_83 rfl rfl rfl ?_
    refine miload 86 G1 d1_84 rfl rfl ?_
    refine mdaload 87 X1 hx hby hZ e1 V_o1 (v := (4607182418800017408 : UInt64)) d1_86 ⟨by decide, by decide⟩ rfl rfl ?_
    refine maloadN 88 G1 d1_87 rfl rfl rfl ?_
    refine miload 90 G1 d1_88 rfl rfl ?_
    refine mdaload 91 X1 hx hby hZ e1 V_o2 (v := (4607182418800017408 : UInt64)) d1_90 ⟨by decide, by decide⟩ rfl rfl ?_
    refine mdadd 92 G1 d1_91 (own_rm1_not_hn91 o0 o1 o2 o3 g0_ g1_ g2_ g3_ k1 k2 k3 hok hal) rfl ?_
    refine st2 _ ?_
    show Steps p.tables e below (T2.setTop (mkF m 95 #[rv o0, rv o1, rv o2, rv o3, iv (0 : Int32), .unset] [(.int (rv3 (FP.dadd (4607182418800017408 : UInt64) (4607182418800017408 : UInt64))))])) _
    refine mifYes 119 G2 d1_95 ((if0 _ _).trans (feq (own_rm1_not_fc95 o0 o1 o2 o3 g0_ g1_ g2_ g3_ k1 k2 k3 hok hal)).2) (by decide) rfl ?_
    refine maloadN 120 G2 d1_119 rfl rfl rfl ?_
    refine XS.ifnullNo X2.here hx rfl (hb hby d1_120) rfl ?_
    show Steps p.tables e below (T2.setTop (mkF m 123 #[rv o0, rv o1, rv o2, rv o3, iv (0 : Int32), .unset] [])) _
    refine maloadN 124 G2 d1_123 rfl rfl rfl ?_
    refine miload 126 G2 d1_124 rfl rfl ?_
    refine miaload 127 X2 hx hby hZ e2 V_o3 (v := g0_) d1_126 ⟨by decide, by decide⟩ rfl rfl ?_
    refine mifNo 130 G2 d1_127 ((if0 _ _).trans (flt (own_rm1_not_fc127 o0 o1 o2 o3 g0_ g1_ g2_ g3_ k1 k2 k3 hok hal)).1) rfl ?_
    refine maloadN 131 G2 d1_130 rfl rfl rfl ?_
    refine miload 133 G2 d1_131 rfl rfl ?_
    refine miaload 134 X2 hx hby hZ e2 V_o3 (v := g0_) d1_133 ⟨by decide, by decide⟩ rfl rfl ?_
    refine miload 136 G2 d1_134 rfl rfl ?_
    refine micmpNo 139 G2 d1_136 (flt (own_rm1_not_fc136 o0 o1 o2 o3 g0_ g1_ g2_ g3_ k1 k2 k3 hok hal)).2.2.1 rfl ?_
    refine maloadN 140 G2 d1_139 rfl rfl rfl ?_
    refine maloadN 141 G2 d1_140 rfl rfl rfl ?_
    refine miload 143 G2 d1_141 rfl rfl ?_
    refine miaload 144 X2 hx hby hZ e2 V_o3 (v := g0_) d1_143 ⟨by decide, by decide⟩ rfl rfl ?_
    refine miaload 145 X2 hx hby hZ e2 V_o3 (v := (([g0_, g1_, g2_, g3_] : List Int32).getD g0_.toNatClampNeg (0 : Int32))) d1_144 (own_rm1_not_hin144 o0 o1 o2 o3 g0_ g1_ g2_ g3_ k1 k2 k3 hok hal) (own_getDI ([g0_, g1_, g2_, g3_] : List Int32) _ _) rfl ?_
    refine maloadN 146 G2 d1_145 rfl rfl rfl ?_
    refine miload 148 G2 d1_146 rfl rfl ?_
    refine miaload 149 X2 hx hby hZ e2 V_o3 (v := g0_) d1_148 ⟨by decide, by decide⟩ rfl rfl ?_
    refine micmpYes 171 G2 d1_149 (teq (own_rm1_not_fc149 o0 o1 o2 o3 g0_ g1_ g2_ g3_ k1 k2 k3 hok hal)).1 (by decide) rfl ?_
    refine miinc 174 G2 d1_171 rfl #[rv o0, rv o1, rv o2, rv o3, iv (1 : Int32), .unset] rfl rfl ?_
    refine mgoto 58 G2 d1_174 (by decide) rfl ?_
    refine miload 60 G2 d1_58 rfl rfl ?_
    refine maloadN 61 G2 d1_60 rfl rfl rfl ?_
    refine mlen 62 X2 hx hby hZ e2 V_o1 d1_61 rfl ?_
    refine micmpNo 65 G2 d1_62 (tlt (by decide : (1 : Int32) < (4 : Int32))).2.1 rfl ?_
    refine maloadN 66 G2 d1_65 rfl rfl rfl ?_
    refine miload 68 G2 d1_66 rfl rfl ?_
    refine mdaload 69 X2 hx hby hZ e2 V_o1 (v := (4607182418800017408 : UInt64)) d1_68 ⟨by decide, by decide⟩ rfl rfl ?_
    refine mdconst0 70 G2 d1_69 (v := (0 : UInt64)) rfl rfl ?_
    refine mdcmp 71 G2 d1_70 rfl ?_
    refine mifNo 74 G2 d1_71 ((if0 _ _).trans (tlt (own_rm1_not_fc71 o0 o1 o2 o3 g0_ g1_ g2_ g3_ k1 k2 k3 hok hal)).2.2.2) rfl ?_
    refine maloadN 75 G2 d1_74 rfl rfl rfl ?_
    refine miload 77 G2 d1_75 rfl rfl ?_
    refine mdaload 78 X2 hx hby hZ e2 V_o2 (v := (4607182418800017408 : UInt64)) d1_77 ⟨by decide, by decide⟩ rfl rfl ?_
    refine mdconst0 79 G2 d1_78 (v := (0 : UInt64)) rfl rfl ?_
    refine mdcmp 80 G2 d1_79 rfl ?_
    refine mifNo 83 G2 d1_80 ((if0 _ _).trans (tlt (own_rm1_not_fc80 o0 o1 o2 o3 g0_ g1_ g2_ g3_ k1 k2 k3 hok hal)).2.2.2) rfl ?_
    refine maloadN 84 G2 d1_83 rfl rfl rfl ?_
    refine miload 86 G2 d1_84 rfl rfl ?_
    refine mdaload 87 X2 hx hby hZ e2 V_o1 (v := (4607182418800017408 : UInt64)) d1_86 ⟨by decide, by decide⟩ rfl rfl ?_
    refine maloadN 88 G2 d1_87 rfl rfl rfl ?_
    refine miload 90 G2 d1_88 rfl rfl ?_
    refine mdaload 91 X2 hx hby hZ e2 V_o2 (v := (4607182418800017408 : UInt64)) d1_90 ⟨by decide, by decide⟩ rfl rfl ?_
    refine mdadd 92 G2 d1_91 (own_rm1_not_hn91 o0 o1 o2 o3 g0_ g1_ g2_ g3_ k1 k2 k3 hok hal) rfl ?_
    refine st3 _ ?_
    show Steps p.tables e below (T3.setTop (mkF m 95 #[rv o0, rv o1, rv o2, rv o3, iv (1 : Int32), .unset] [(.int (rv3 (FP.dadd (4607182418800017408 : UInt64) (4607182418800017408 : UInt64))))])) _
    refine mifYes 119 G3 d1_95 ((if0 _ _).trans (feq (own_rm1_not_fc95 o0 o1 o2 o3 g0_ g1_ g2_ g3_ k1 k2 k3 hok hal)).2) (by decide) rfl ?_
    refine maloadN 120 G3 d1_119 rfl rfl rfl ?_
    refine XS.ifnullNo X3.here hx rfl (hb hby d1_120) rfl ?_
    show Steps p.tables e below (T3.setTop (mkF m 123 #[rv o0, rv o1, rv o2, rv o3, iv (1 : Int32), .unset] [])) _
    refine maloadN 124 G3 d1_123 rfl rfl rfl ?_
    refine miload 126 G3 d1_124 rfl rfl ?_
    refine miaload 127 X3 hx hby hZ e3 V_o3 (v := g1_) d1_126 ⟨by decide, by decide⟩ rfl rfl ?_
    refine mifNo 130 G3 d1_127 ((if0 _ _).trans (flt (own_rm1_not_fc127_1 o0 o1 o2 o3 g0_ g1_ g2_ g3_ k1 k2 k3 hok hal)).1) rfl ?_
    refine maloadN 131 G3 d1_130 rfl rfl rfl ?_
    refine miload 133 G3 d1_131 rfl rfl ?_
    refine miaload 134 X3 hx hby hZ e3 V_o3 (v := g1_) d1_133 ⟨by decide, by decide⟩ rfl rfl ?_
    refine miload 136 G3 d1_134 rfl rfl ?_
    refine micmpNo 139 G3 d1_136 (flt (own_rm1_not_fc136_1 o0 o1 o2 o3 g0_ g1_ g2_ g3_ k1 k2 k3 hok hal)).2.2.1 rfl ?_
    refine maloadN 140 G3 d1_139 rfl rfl rfl ?_
    refine maloadN 141 G3 d1_140 rfl rfl rfl ?_
    refine miload 143 G3 d1_141 rfl rfl ?_
    refine miaload 144 X3 hx hby hZ e3 V_o3 (v := g1_) d1_143 ⟨by decide, by decide⟩ rfl rfl ?_
    refine miaload 145 X3 hx hby hZ e3 V_o3 (v := (([g0_, g1_, g2_, g3_] : List Int32).getD g1_.toNatClampNeg (0 : Int32))) d1_144 (own_rm1_not_hin144_1 o0 o1 o2 o3 g0_ g1_ g2_ g3_ k1 k2 k3 hok hal) (own_getDI ([g0_, g1_, g2_, g3_] : List Int32) _ _) rfl ?_
    refine maloadN 146 G3 d1_145 rfl rfl rfl ?_
    refine miload 148 G3 d1_146 rfl rfl ?_
    refine miaload 149 X3 hx hby hZ e3 V_o3 (v := g1_) d1_148 ⟨by decide, by decide⟩ rfl rfl ?_
    refine micmpYes 171 G3 d1_149 (teq (own_rm1_not_fc149_1 o0 o1 o2 o3 g0_ g1_ g2_ g3_ k1 k2 k3 hok hal)).1 (by decide) rfl ?_
    refine miinc 174 G3 d1_171 rfl #[rv o0, rv o1, rv o2, rv o3, iv (2 : Int32), .unset] rfl rfl ?_
    refine mgoto 58 G3 d1_174 (by decide) rfl ?_
    refine miload 60 G3 d1_58 rfl rfl ?_
    refine maloadN 61 G3 d1_60 rfl rfl rfl ?_
    refine mlen 62 X3 hx hby hZ e3 V_o1 d1_61 rfl ?_
    refine micmpNo 65 G3 d1_62 (tlt (by decide : (2 : Int32) < (4 : Int32))).2.1 rfl ?_
    refine maloadN 66 G3 d1_65 rfl rfl rfl ?_
    refine miload 68 G3 d1_66 rfl rfl ?_
    refine mdaload 69 X3 hx hby hZ e3 V_o1 (v := (4607182418800017408 : UInt64)) d1_68 ⟨by decide, by decide⟩ rfl rfl ?_
    refine mdconst0 70 G3 d1_69 (v := (0 : UInt64)) rfl rfl ?_
    refine mdcmp 71 G3 d1_70 rfl ?_
    refine mifNo 74 G3 d1_71 ((if0 _ _).trans (tlt (own_rm1_not_fc71 o0 o1 o2 o3 g0_ g1_ g2_ g3_ k1 k2 k3 hok hal)).2.2.2) rfl ?_
    refine maloadN 75 G3 d1_74 rfl rfl rfl ?_
    refine miload 77 G3 d1_75 rfl rfl ?_
    refine mdaload 78 X3 hx hby hZ e3 V_o2 (v := (4607182418800017408 : UInt64)) d1_77 ⟨by decide, by decide⟩ rfl rfl ?_
    refine mdconst0 79 G3 d1_78 (v := (0 : UInt64)) rfl rfl ?_
    refine mdcmp 80 G3 d1_79 rfl ?_
    refine mifNo 83 G3 d1_80 ((if0 _ _).trans (tlt (own_rm1_not_fc80 o0 o1 o2 o3 g0_ g1_ g2_ g3_ k1 k2 k3 hok hal)).2.2.2) rfl ?_
    refine maloadN 84 G3 d1_83 rfl rfl rfl ?_
    refine miload 86 G3 d1_84 rfl rfl ?_
    refine mdaload 87 X3 hx hby hZ e3 V_o1 (v := (4607182418800017408 : UInt64)) d1_86 ⟨by decide, by decide⟩ rfl rfl ?_
    refine maloadN 88 G3 d1_87 rfl rfl rfl ?_
    refine miload 90 G3 d1_88 rfl rfl ?_
    refine mdaload 91 X3 hx hby hZ e3 V_o2 (v := (4607182418800017408 : UInt64)) d1_90 ⟨by decide, by decide⟩ rfl rfl ?_
    refine mdadd 92 G3 d1_91 (own_rm1_not_hn91 o0 o1 o2 o3 g0_ g1_ g2_ g3_ k1 k2 k3 hok hal) rfl ?_
    refine st4 _ ?_
    show Steps p.tables e below (T4.setTop (mkF m 95 #[rv o0, rv o1, rv o2, rv o3, iv (2 : Int32), .unset] [(.int (rv3 (FP.dadd (4607182418800017408 : UInt64) (4607182418800017408 : UInt64))))])) _
    refine mifYes 119 G4 d1_95 ((if0 _ _).trans (feq (own_rm1_not_fc95 o0 o1 o2 o3 g0_ g1_ g2_ g3_ k1 k2 k3 hok hal)).2) (by decide) rfl ?_
    refine maloadN 120 G4 d1_119 rfl rfl rfl ?_
    refine XS.ifnullNo X4.here hx rfl (hb hby d1_120) rfl ?_
    show Steps p.tables e below (T4.setTop (mkF m 123 #[rv o0, rv o1, rv o2, rv o3, iv (2 : Int32), .unset] [])) _
    refine maloadN 124 G4 d1_123 rfl rfl rfl ?_
    refine miload 126 G4 d1_124 rfl rfl ?_
    refine miaload 127 X4 hx hby hZ e4 V_o3 (v := g2_) d1_126 ⟨by decide, by decide⟩ rfl rfl ?_
    refine mifNo 130 G4 d1_127 ((if0 _ _).trans (flt (own_rm1_not_fc127_2 o0 o1 o2 o3 g0_ g1_ g2_ g3_ k1 k2 k3 hok hal)).1) rfl ?_
    refine maloadN 131 G4 d1_130 rfl rfl rfl ?_
    refine miload 133 G4 d1_131 rfl rfl ?_
    refine miaload 134 X4 hx hby hZ e4 V_o3 (v := g2_) d1_133 ⟨by decide, by decide⟩ rfl rfl ?_
    refine miload 136 G4 d1_134 rfl rfl ?_
    refine micmpNo 139 G4 d1_136 (flt (own_rm1_not_fc136_2 o0 o1 o2 o3 g0_ g1_ g2_ g3_ k1 k2 k3 hok hal)).2.2.1 rfl ?_
    refine maloadN 140 G4 d1_139 rfl rfl rfl ?_
    refine maloadN 141 G4 d1_140 rfl rfl rfl ?_
    refine miload 143 G4 d1_141 rfl rfl ?_
    refine miaload 144 X4 hx hby hZ e4 V_o3 (v := g2_) d1_143 ⟨by decide, by decide⟩ rfl rfl ?_
    refine miaload 145 X4 hx hby hZ e4 V_o3 (v := (([g0_, g1_, g2_, g3_] : List Int32).getD g2_.toNatClampNeg (0 : Int32))) d1_144 (own_rm1_not_hin144_2 o0 o1 o2 o3 g0_ g1_ g2_ g3_ k1 k2 k3 hok hal) (own_getDI ([g0_, g1_, g2_, g3_] : List Int32) _ _) rfl ?_
    refine maloadN 146 G4 d1_145 rfl rfl rfl ?_
    refine miload 148 G4 d1_146 rfl rfl ?_
    refine miaload 149 X4 hx hby hZ e4 V_o3 (v := g2_) d1_148 ⟨by decide, by decide⟩ rfl rfl ?_
    refine micmpYes 171 G4 d1_149 (teq (own_rm1_not_fc149_2 o0 o1 o2 o3 g0_ g1_ g2_ g3_ k1 k2 k3 hok hal)).1 (by decide) rfl ?_
    refine miinc 174 G4 d1_171 rfl #[rv o0, rv o1, rv o2, rv o3, iv (3 : Int32), .unset] rfl rfl ?_
    refine mgoto 58 G4 d1_174 (by decide) rfl ?_
    refine miload 60 G4 d1_58 rfl rfl ?_
    refine maloadN 61 G4 d1_60 rfl rfl rfl ?_
    refine mlen 62 X4 hx hby hZ e4 V_o1 d1_61 rfl ?_
    refine micmpNo 65 G4 d1_62 (tlt (by decide : (3 : Int32) < (4 : Int32))).2.1 rfl ?_
    refine maloadN 66 G4 d1_65 rfl rfl rfl ?_
    refine miload 68 G4 d1_66 rfl rfl ?_
    refine mdaload 69 X4 hx hby hZ e4 V_o1 (v := (4607182418800017408 : UInt64)) d1_68 ⟨by decide, by decide⟩ rfl rfl ?_
    refine mdconst0 70 G4 d1_69 (v := (0 : UInt64)) rfl rfl ?_
    refine mdcmp 71 G4 d1_70 rfl ?_
    refine mifNo 74 G4 d1_71 ((if0 _ _).trans (tlt (own_rm1_not_fc71 o0 o1 o2 o3 g0_ g1_ g2_ g3_ k1 k2 k3 hok hal)).2.2.2) rfl ?_
    refine maloadN 75 G4 d1_74 rfl rfl rfl ?_
    refine miload 77 G4 d1_75 rfl rfl ?_
    refine mdaload 78 X4 hx hby hZ e4 V_o2 (v := (4607182418800017408 : UInt64)) d1_77 ⟨by decide, by decide⟩ rfl rfl ?_
    refine mdconst0 79 G4 d1_78 (v := (0 : UInt64)) rfl rfl ?_
    refine mdcmp 80 G4 d1_79 rfl ?_
    refine mifNo 83 G4 d1_80 ((if0 _ _).trans (tlt (own_rm1_not_fc80 o0 o1 o2 o3 g0_ g1_ g2_ g3_ k1 k2 k3 hok hal)).2.2.2) rfl ?_
    refine maloadN 84 G4 d1_83 rfl rfl rfl ?_
    refine miload 86 G4 d1_84 rfl rfl ?_
    refine mdaload 87 X4 hx hby hZ e4 V_o1 (v := (4607182418800017408 : UInt64)) d1_86 ⟨by decide, by decide⟩ rfl rfl ?_
    refine maloadN 88 G4 d1_87 rfl rfl rfl ?_
    refine miload 90 G4 d1_88 rfl rfl ?_
    refine mdaload 91 X4 hx hby hZ e4 V_o2 (v := (4607182418800017408 : UInt64)) d1_90 ⟨by decide, by decide⟩ rfl rfl ?_
    refine mdadd 92 G4 d1_91 (own_rm1_not_hn91 o0 o1 o2 o3 g0_ g1_ g2_ g3_ k1 k2 k3 hok hal) rfl ?_
    refine st5 _ ?_
    show Steps p.tables e below (T5.setTop (mkF m 95 #[rv o0, rv o1, rv o2, rv o3, iv (3 : Int32), .unset] [(.int (rv3 (FP.dadd (4607182418800017408 : UInt64) (4607182418800017408 : UInt64))))])) _
    refine mifYes 119 G5 d1_95 ((if0 _ _).trans (feq (own_rm1_not_fc95 o0 o1 o2 o3 g0_ g1_ g2_ g3_ k1 k2 k3 hok hal)).2) (by decide) rfl ?_
    refine maloadN 120 G5 d1_119 rfl rfl rfl ?_
    refine XS.ifnullNo X5.here hx rfl (hb hby d1_120) rfl ?_
    show Steps p.tables e below (T5.setTop (mkF m 123 #[rv o0, rv o1, rv o2, rv o3, iv (3 : Int32), .unset] [])) _
    refine maloadN 124 G5 d1_123 rfl rfl rfl ?_
    refine miload 126 G5 d1_124 rfl rfl ?_
    refine miaload 127 X5 hx hby hZ e5 V_o3 (v := g3_) d1_126 ⟨by decide, by decide⟩ rfl rfl ?_
    refine mifNo 130 G5 d1_127 ((if0 _ _).trans (flt (own_rm1_not_fc127_3 o0 o1 o2 o3 g0_ g1_ g2_ g3_ k1 k2 k3 hok hal)).1) rfl ?_
    refine maloadN 131 G5 d1_130 rfl rfl rfl ?_
    refine miload 133 G5 d1_131 rfl rfl ?_
    refine miaload 134 X5 hx hby hZ e5 V_o3 (v := g3_) d1_133 ⟨by decide, by decide⟩ rfl rfl ?_
    refine miload 136 G5 d1_134 rfl rfl ?_
    refine micmpNo 139 G5 d1_136 (flt (own_rm1_not_fc136_3 o0 o1 o2 o3 g0_ g1_ g2_ g3_ k1 k2 k3 hok hal)).2.2.1 rfl ?_
    refine maloadN 140 G5 d1_139 rfl rfl rfl ?_
    refine maloadN 141 G5 d1_140 rfl rfl rfl ?_
    refine miload 143 G5 d1_141 rfl rfl ?_
    refine miaload 144 X5 hx hby hZ e5 V_o3 (v := g3_) d1_143 ⟨by decide, by decide⟩ rfl rfl ?_
    refine miaload 145 X5 hx hby hZ e5 V_o3 (v := (([g0_, g1_, g2_, g3_] : List Int32).getD g3_.toNatClampNeg (0 : Int32))) d1_144 (own_rm1_not_hin144_3 o0 o1 o2 o3 g0_ g1_ g2_ g3_ k1 k2 k3 hok hal) (own_getDI ([g0_, g1_, g2_, g3_] : List Int32) _ _) rfl ?_
    refine maloadN 146 G5 d1_145 rfl rfl rfl ?_
    refine miload 148 G5 d1_146 rfl rfl ?_
    refine miaload 149 X5 hx hby hZ e5 V_o3 (v := g3_) d1_148 ⟨by decide, by decide⟩ rfl rfl ?_
    refine micmpYes 171 G5 d1_149 (teq (own_rm1_not_fc149_3 o0 o1 o2 o3 g0_ g1_ g2_ g3_ k1 k2 k3 hok hal)).1 (by decide) rfl ?_
    refine miinc 174 G5 d1_171 rfl #[rv o0, rv o1, rv o2, rv o3, iv (4 : Int32), .unset] rfl rfl ?_
    refine mgoto 58 G5 d1_174 (by decide) rfl ?_
    refine miload 60 G5 d1_58 rfl rfl ?_
    refine maloadN 61 G5 d1_60 rfl rfl rfl ?_
    refine mlen 62 X5 hx hby hZ e5 V_o1 d1_61 rfl ?_
    refine micmpYes 177 G5 d1_62 (flt (by decide : ¬ ((4 : Int32) < (4 : Int32)))).2.1 (by decide) rfl ?_
    refine miconst 178 G5 d1_177 (v := (1 : Int32)) rfl rfl ?_
    refine mistore 180 G5 d1_178 #[rv o0, rv o1, rv o2, rv o3, iv (1 : Int32), .unset] rfl rfl ?_
    refine miconst 181 G5 d1_180 (v := (0 : Int32)) rfl rfl ?_
    refine mistore 183 G5 d1_181 #[rv o0, rv o1, rv o2, rv o3, iv (1 : Int32), iv (0 : Int32)] rfl rfl ?_
    refine maloadN 184 G5 d1_183 rfl rfl rfl ?_
    refine XS.ifnullNo X5.here hx rfl (hb hby d1_184) rfl ?_
    show Steps p.tables e below (T5.setTop (mkF m 187 #[rv o0, rv o1, rv o2, rv o3, iv (1 : Int32), iv (0 : Int32)] [])) _
    refine miload 189 G5 d1_187 rfl rfl ?_
    refine maloadN 190 G5 d1_189 rfl rfl rfl ?_
    refine mlen 191 X5 hx hby hZ e5 V_o3 d1_190 rfl ?_
    refine micmpNo 194 G5 d1_191 (tlt (by decide : (0 : Int32) < (4 : Int32))).2.1 rfl ?_
    refine miload 196 G5 d1_194 rfl rfl ?_
    refine maloadN 197 G5 d1_196 rfl rfl rfl ?_
    refine miload 199 G5 d1_197 rfl rfl ?_
    refine miaload 200 X5 hx hby hZ e5 V_o3 (v := g0_) d1_199 ⟨by decide, by decide⟩ rfl rfl ?_
    refine miload 202 G5 d1_200 rfl rfl ?_
    refine st7 _ ?_
    refine maloadN 184 G7 d1_183 rfl rfl rfl ?_
    refine XS.ifnullNo X7.here hx rfl (hb hby d1_184) rfl ?_
    show Steps p.tables e below (T7.setTop (mkF m 187 #[rv o0, rv o1, rv o2, rv o3, iv (if g0_ = (0 : Int32) then (1 : Int32) else (0 : Int32)), iv (1 : Int32)] [])) _
    refine miload 189 G7 d1_187 rfl rfl ?_
    refine maloadN 190 G7 d1_189 rfl rfl rfl ?_
    refine mlen 191 X7 hx hby hZ e7 V_o3 d1_190 rfl ?_
    refine micmpNo 194 G7 d1_191 (tlt (by decide : (1 : Int32) < (4 : Int32))).2.1 rfl ?_
    refine miload 196 G7 d1_194 rfl rfl ?_
    refine maloadN 197 G7 d1_196 rfl rfl rfl ?_
    refine miload 199 G7 d1_197 rfl rfl ?_
    refine miaload 200 X7 hx hby hZ e7 V_o3 (v := g1_) d1_199 ⟨by decide, by decide⟩ rfl rfl ?_
    refine miload 202 G7 d1_200 rfl rfl ?_
    refine st9 _ ?_
    refine maloadN 184 G9 d1_183 rfl rfl rfl ?_
    refine XS.ifnullNo X9.here hx rfl (hb hby d1_184) rfl ?_
    show Steps p.tables e below (T9.setTop (mkF m 187 #[rv o0, rv o1, rv o2, rv o3, iv (if g1_ = (1 : Int32) then ((if g0_ = (0 : Int32) then (1 : Int32) else (0 : Int32)) &&& (1 : Int32)) else ((if g0_ = (0 : Int32) then (1 : Int32) else (0 : Int32)) &&& (0 : Int32))), iv (2 : Int32)] [])) _
    refine miload 189 G9 d1_187 rfl rfl ?_
    refine maloadN 190 G9 d1_189 rfl rfl rfl ?_
    refine mlen 191 X9 hx hby hZ e9 V_o3 d1_190 rfl ?_
    refine micmpNo 194 G9 d1_191 (tlt (by decide : (2 : Int32) < (4 : Int32))).2.1 rfl ?_
    refine miload 196 G9 d1_194 rfl rfl ?_
    refine maloadN 197 G9 d1_196 rfl rfl rfl ?_
    refine miload 199 G9 d1_197 rfl rfl ?_
    refine miaload 200 X9 hx hby hZ e9 V_o3 (v := g2_) d1_199 ⟨by decide, by decide⟩ rfl rfl ?_
    refine miload 202 G9 d1_200 rfl rfl ?_
    refine st11 _ ?_
    refine maloadN 184 G11 d1_183 rfl rfl rfl ?_
    refine XS.ifnullNo X11.here hx rfl (hb hby d1_184) rfl ?_
    show Steps p.tables e below (T11.setTop (mkF m 187 #[rv o0, rv o1, rv o2, rv o3, iv (if g2_ = (2 : Int32) then ((if g1_ = (1 : Int32) then ((if g0_ = (0 : Int32) then (1 : Int32) else (0 : Int32)) &&& (1 : Int32)) else ((if g0_ = (0 : Int32) then (1 : Int32) else (0 : Int32)) &&& (0 : Int32))) &&& (1 : Int32)) else ((if g1_ = (1 : Int32) then ((if g0_ = (0 : Int32) then (1 : Int32) else (0 : Int32)) &&& (1 : Int32)) else ((if g0_ = (0 : Int32) then (1 : Int32) else (0 : Int32)) &&& (0 : Int32))) &&& (0 : Int32))), iv (3 : Int32)] [])) _
    refine miload 189 G11 d1_187 rfl rfl ?_
    refine maloadN 190 G11 d1_189 rfl rfl rfl ?_
    refine mlen 191 X11 hx hby hZ e11 V_o3 d1_190 rfl ?_
    refine micmpNo 194 G11 d1_191 (tlt (by decide : (3 : Int32) < (4 : Int32))).2.1 rfl ?_
    refine miload 196 G11 d1_194 rfl rfl ?_
    refine maloadN 197 G11 d1_196 rfl rfl rfl ?_
    refine miload 199 G11 d1_197 rfl rfl ?_
    refine miaload 200 X11 hx hby hZ e11 V_o3 (v := g3_) d1_199 ⟨by decide, by decide⟩ rfl rfl ?_
    refine miload 202 G11 d1_200 rfl rfl ?_
    refine st13 _ ?_
    refine maloadN 184 G13 d1_183 rfl rfl rfl ?_
    refine XS.ifnullNo X13.here hx rfl (hb hby d1_184) rfl ?_
    show Steps p.tables e below (T13.setTop (mkF m 187 #[rv o0, rv o1, rv o2, rv o3, iv (if g3_ = (3 : Int32) then ((if g2_ = (2 : Int32) then ((if g1_ = (1 : Int32) then ((if g0_ = (0 : Int32) then (1 : Int32) else (0 : Int32)) &&& (1 : Int32)) else ((if g0_ = (0 : Int32) then (1 : Int32) else (0 : Int32)) &&& (0 : Int32))) &&& (1 : Int32)) else ((if g1_ = (1 : Int32) then ((if g0_ = (0 : Int32) then (1 : Int32) else (0 : Int32)) &&& (1 : Int32)) else ((if g0_ = (0 : Int32) then (1 : Int32) else (0 : Int32)) &&& (0 : Int32))) &&& (0 : Int32))) &&& (1 : Int32)) else ((if g2_ = (2 : Int32) then ((if g1_ = (1 : Int32) then ((if g0_ = (0 : Int32) then (1 : Int32) else (0 : Int32)) &&& (1 : Int32)) else ((if g0_ = (0 : Int32) then (1 : Int32) else (0 : Int32)) &&& (0 : Int32))) &&& (1 : Int32)) else ((if g1_ = (1 : Int32) then ((if g0_ = (0 : Int32) then (1 : Int32) else (0 : Int32)) &&& (1 : Int32)) else ((if g0_ = (0 : Int32) then (1 : Int32) else (0 : Int32)) &&& (0 : Int32))) &&& (0 : Int32))) &&& (0 : Int32))), iv (4 : Int32)] [])) _
    refine miload 189 G13 d1_187 rfl rfl ?_
    refine maloadN 190 G13 d1_189 rfl rfl rfl ?_
    refine mlen 191 X13 hx hby hZ e13 V_o3 d1_190 rfl ?_
    refine micmpYes 219 G13 d1_191 (flt (by decide : ¬ ((4 : Int32) < (4 : Int32)))).2.1 (by decide) rfl ?_
    refine maloadN 220 G13 d1_219 rfl rfl rfl ?_
    refine maloadN 221 G13 d1_220 rfl rfl rfl ?_
    refine st14 _ ?_
    show Steps p.tables e below (T14.setTop (mkF m 224 #[rv o0, rv o1, rv o2, rv o3, iv (if g3_ = (3 : Int32) then ((if g2_ = (2 : Int32) then ((if g1_ = (1 : Int32) then ((if g0_ = (0 : Int32) then (1 : Int32) else (0 : Int32)) &&& (1 : Int32)) else ((if g0_ = (0 : Int32) then (1 : Int32) else (0 : Int32)) &&& (0 : Int32))) &&& (1 : Int32)) else ((if g1_ = (1 : Int32) then ((if g0_ = (0 : Int32) then (1 : Int32) else (0 : Int32)) &&& (1 : Int32)) else ((if g0_ = (0 : Int32) then (1 : Int32) else (0 : Int32)) &&& (0 : Int32))) &&& (0 : Int32))) &&& (1 : Int32)) else ((if g2_ = (2 : Int32) then ((if g1_ = (1 : Int32) then ((if g0_ = (0 : Int32) then (1 : Int32) else (0 : Int32)) &&& (1 : Int32)) else ((if g0_ = (0 : Int32) then (1 : Int32) else (0 : Int32)) &&& (0 : Int32))) &&& (1 : Int32)) else ((if g1_ = (1 : Int32) then ((if g0_ = (0 : Int32) then (1 : Int32) else (0 : Int32)) &&& (1 : Int32)) else ((if g0_ = (0 : Int32) then (1 : Int32) else (0 : Int32)) &&& (0 : Int32))) &&& (0 : Int32))) &&& (0 : Int32))), iv (4 : Int32)] [(.ref b14), (.ref o0)])) _
    refine st25 _ ?_
    show Steps p.tables e below (T25.setTop (mkF m 227 #[rv o0, rv o1, rv o2, rv o3, iv (if g3_ = (3 : Int32) then ((if g2_ = (2 : Int32) then ((if g1_ = (1 : Int32) then ((if g0_ = (0 : Int32) then (1 : Int32) else (0 : Int32)) &&& (1 : Int32)) else ((if g0_ = (0 : Int32) then (1 : Int32) else (0 : Int32)) &&& (0 : Int32))) &&& (1 : Int32)) else ((if g1_ = (1 : Int32) then ((if g0_ = (0 : Int32) then (1 : Int32) else (0 : Int32)) &&& (1 : Int32)) else ((if g0_ = (0 : Int32) then (1 : Int32) else (0 : Int32)) &&& (0 : Int32))) &&& (0 : Int32))) &&& (1 : Int32)) else ((if g2_ = (2 : Int32) then ((if g1_ = (1 : Int32) then ((if g0_ = (0 : Int32) then (1 : Int32) else (0 : Int32)) &&& (1 : Int32)) else ((if g0_ = (0 : Int32) then (1 : Int32) else (0 : Int32)) &&& (0 : Int32))) &&& (1 : Int32)) else ((if g1_ = (1 : Int32) then ((if g0_ = (0 : Int32) then (1 : Int32) else (0 : Int32)) &&& (1 : Int32)) else ((if g0_ = (0 : Int32) then (1 : Int32) else (0 : Int32)) &&& (0 : Int32))) &&& (0 : Int32))) &&& (0 : Int32))), iv (4 : Int32)] [(.ref b14), (.ref o0)])) _
    refine st26 _ ?_
    show Steps p.tables e below (T26.setTop (mkF m 230 #[rv o0, rv o1, rv o2, rv o3, iv (if g3_ = (3 : Int32) then ((if g2_ = (2 : Int32) then ((if g1_ = (1 : Int32) then ((if g0_ = (0 : Int32) then (1 : Int32) else (0 : Int32)) &&& (1 : Int32)) else ((if g0_ = (0 : Int32) then (1 : Int32) else (0 : Int32)) &&& (0 : Int32))) &&& (1 : Int32)) else ((if g1_ = (1 : Int32) then ((if g0_ = (0 : Int32) then (1 : Int32) else (0 : Int32)) &&& (1 : Int32)) else ((if g0_ = (0 : Int32) then (1 : Int32) else (0 : Int32)) &&& (0 : Int32))) &&& (0 : Int32))) &&& (1 : Int32)) else ((if g2_ = (2 : Int32) then ((if g1_ = (1 : Int32) then ((if g0_ = (0 : Int32) then (1 : Int32) else (0 : Int32)) &&& (1 : Int32)) else ((if g0_ = (0 : Int32) then (1 : Int32) else (0 : Int32)) &&& (0 : Int32))) &&& (1 : Int32)) else ((if g1_ = (1 : Int32) then ((if g0_ = (0 : Int32) then (1 : Int32) else (0 : Int32)) &&& (1 : Int32)) else ((if g0_ = (0 : Int32) then (1 : Int32) else (0 : Int32)) &&& (0 : Int32))) &&& (0 : Int32))) &&& (0 : Int32))), iv (4 : Int32)] [])) _
    refine maloadN 231 G26 d1_230 rfl rfl rfl ?_
    refine maloadN 232 G26 d1_231 rfl rfl rfl ?_
    refine st49 _ ?_
    show Steps p.tables e below (T49.setTop (mkF m 235 #[rv o0, rv o1, rv o2, rv o3, iv (if g3_ = (3 : Int32) then ((if g2_ = (2 : Int32) then ((if g1_ = (1 : Int32) then ((if g0_ = (0 : Int32) then (1 : Int32) else (0 : Int32)) &&& (1 : Int32)) else ((if g0_ = (0 : Int32) then (1 : Int32) else (0 : Int32)) &&& (0 : Int32))) &&& (1 : Int32)) else ((if g1_ = (1 : Int32) then ((if g0_ = (0 : Int32) then (1 : Int32) else (0 : Int32)) &&& (1 : Int32)) else ((if g0_ = (0 : Int32) then (1 : Int32) else (0 : Int32)) &&& (0 : Int32))) &&& (0 : Int32))) &&& (1 : Int32)) else ((if g2_ = (2 : Int32) then ((if g1_ = (1 : Int32) then ((if g0_ = (0 : Int32) then (1 : Int32) else (0 : Int32)) &&& (1 : Int32)) else ((if g0_ = (0 : Int32) then (1 : Int32) else (0 : Int32)) &&& (0 : Int32))) &&& (1 : Int32)) else ((if g1_ = (1 : Int32) then ((if g0_ = (0 : Int32) then (1 : Int32) else (0 : Int32)) &&& (1 : Int32)) else ((if g0_ = (0 : Int32) then (1 : Int32) else (0 : Int32)) &&& (0 : Int32))) &&& (0 : Int32))) &&& (0 : Int32))), iv (4 : Int32)] [(.ref b49), (.ref o0)])) _
    refine st62 _ ?_
    show Steps p.tables e below (T62.setTop (mkF m 238 #[rv o0, rv o1, rv o2, rv o3, iv (if g3_ = (3 : Int32) then ((if g2_ = (2 : Int32) then ((if g1_ = (1 : Int32) then ((if g0_ = (0 : Int32) then (1 : Int32) else (0 : Int32)) &&& (1 : Int32)) else ((if g0_ = (0 : Int32) then (1 : Int32) else (0 : Int32)) &&& (0 : Int32))) &&& (1 : Int32)) else ((if g1_ = (1 : Int32) then ((if g0_ = (0 : Int32) then (1 : Int32) else (0 : Int32)) &&& (1 : Int32)) else ((if g0_ = (0 : Int32) then (1 : Int32) else (0 : Int32)) &&& (0 : Int32))) &&& (0 : Int32))) &&& (1 : Int32)) else ((if g2_ = (2 : Int32) then ((if g1_ = (1 : Int32) then ((if g0_ = (0 : Int32) then (1 : Int32) else (0 : Int32)) &&& (1 : Int32)) else ((if g0_ = (0 : Int32) then (1 : Int32) else (0 : Int32)) &&& (0 : Int32))) &&& (1 : Int32)) else ((if g1_ = (1 : Int32) then ((if g0_ = (0 : Int32) then (1 : Int32) else (0 : Int32)) &&& (1 : Int32)) else ((if g0_ = (0 : Int32) then (1 : Int32) else (0 : Int32)) &&& (0 : Int32))) &&& (0 : Int32))) &&& (0 : Int32))), iv (4 : Int32)] [(.ref b49), (.ref o0)])) _
    refine st63 _ ?_
    show Steps p.tables e below (T63.setTop (mkF m 241 #[rv o0, rv o1, rv o2, rv o3, iv (if g3_ = (3 : Int32) then ((if g2_ = (2 : Int32) then ((if g1_ = (1 : Int32) then ((if g0_ = (0 : Int32) then (1 : Int32) else (0 : Int32)) &&& (1 : Int32)) else ((if g0_ = (0 : Int32) then (1 : Int32) else (0 : Int32)) &&& (0 : Int32))) &&& (1 : Int32)) else ((if g1_ = (1 : Int32) then ((if g0_ = (0 : Int32) then (1 : Int32) else (0 : Int32)) &&& (1 : Int32)) else ((if g0_ = (0 : Int32) then (1 : Int32) else (0 : Int32)) &&& (0 : Int32))) &&& (0 : Int32))) &&& (1 : Int32)) else ((if g2_ = (2 : Int32) then ((if g1_ = (1 : Int32) then ((if g0_ = (0 : Int32) then (1 : Int32) else (0 : Int32)) &&& (1 : Int32)) else ((if g0_ = (0 : Int32) then (1 : Int32) else (0 : Int32)) &&& (0 : Int32))) &&& (1 : Int32)) else ((if g1_ = (1 : Int32) then ((if g0_ = (0 : Int32) then (1 : Int32) else (0 : Int32)) &&& (1 : Int32)) else ((if g0_ = (0 : Int32) then (1 : Int32) else (0 : Int32)) &&& (0 : Int32))) &&& (0 : Int32))) &&& (0 : Int32))), iv (4 : Int32)] [])) _
    refine maloadN 242 G63 d1_241 rfl rfl rfl ?_
    refine miload 244 G63 d1_242 rfl rfl ?_
    refine mifYes 251 G63 d1_244 ((if0 _ _).trans (teq (own_rm1_not_fc244 o0 o1 o2 o3 g0_ g1_ g2_ g3_ k1 k2 k3 hok hal)).1) (by decide) rfl ?_
    refine maloadN 252 G63 d1_251 rfl rfl rfl ?_
    refine st95 _ ?_
    show Steps p.tables e below (T95.setTop (mkF m 255 #[rv o0, rv o1, rv o2, rv o3, iv (if g3_ = (3 : Int32) then ((if g2_ = (2 : Int32) then ((if g1_ = (1 : Int32) then ((if g0_ = (0 : Int32) then (1 : Int32) else (0 : Int32)) &&& (1 : Int32)) else ((if g0_ = (0 : Int32) then (1 : Int32) else (0 : Int32)) &&& (0 : Int32))) &&& (1 : Int32)) else ((if g1_ = (1 : Int32) then ((if g0_ = (0 : Int32) then (1 : Int32) else (0 : Int32)) &&& (1 : Int32)) else ((if g0_ = (0 : Int32) then (1 : Int32) else (0 : Int32)) &&& (0 : Int32))) &&& (0 : Int32))) &&& (1 : Int32)) else ((if g2_ = (2 : Int32) then ((if g1_ = (1 : Int32) then ((if g0_ = (0 : Int32) then (1 : Int32) else (0 : Int32)) &&& (1 : Int32)) else ((if g0_ = (0 : Int32) then (1 : Int32) else (0 : Int32)) &&& (0 : Int32))) &&& (1 : Int32)) else ((if g1_ = (1 : Int32) then ((if g0_ = (0 : Int32) then (1 : Int32) else (0 : Int32)) &&& (1 : Int32)) else ((if g0_ = (0 : Int32) then (1 : Int32) else (0 : Int32)) &&& (0 : Int32))) &&& (0 : Int32))) &&& (0 : Int32))), iv (4 : Int32)] [(.ref b95), (.ref o0)])) _
    refine st110 _ ?_
    show Steps p.tables e below (T110.setTop (mkF m 258 #[rv o0, rv o1, rv o2, rv o3, iv (if g3_ = (3 : Int32) then ((if g2_ = (2 : Int32) then ((if g1_ = (1 : Int32) then ((if g0_ = (0 : Int32) then (1 : Int32) else (0 : Int32)) &&& (1 : Int32)) else ((if g0_ = (0 : Int32) then (1 : Int32) else (0 : Int32)) &&& (0 : Int32))) &&& (1 : Int32)) else ((if g1_ = (1 : Int32) then ((if g0_ = (0 : Int32) then (1 : Int32) else (0 : Int32)) &&& (1 : Int32)) else ((if g0_ = (0 : Int32) then (1 : Int32) else (0 : Int32)) &&& (0 : Int32))) &&& (0 : Int32))) &&& (1 : Int32)) else ((if g2_ = (2 : Int32) then ((if g1_ = (1 : Int32) then ((if g0_ = (0 : Int32) then (1 : Int32) else (0 : Int32)) &&& (1 : Int32)) else ((if g0_ = (0 : Int32) then (1 : Int32) else (0 : Int32)) &&& (0 : Int32))) &&& (1 : Int32)) else ((if g1_ = (1 : Int32) then ((if g0_ = (0 : Int32) then (1 : Int32) else (0 : Int32)) &&& (1 : Int32)) else ((if g0_ = (0 : Int32) then (1 : Int32) else (0 : Int32)) &&& (0 : Int32))) &&& (0 : Int32))) &&& (0 : Int32))), iv (4 : Int32)] [(.ref b95), (.ref o0)])) _
    refine st111 _ ?_
    show Steps p.tables e below (T111.setTop (mkF m 261 #[rv o0, rv o1, rv o2, rv o3, iv (if g3_ = (3 : Int32) then ((if g2_ = (2 : Int32) then ((if g1_ = (1 : Int32) then ((if g0_ = (0 : Int32) then (1 : Int32) else (0 : Int32)) &&& (1 : Int32)) else ((if g0_ = (0 : Int32) then (1 : Int32) else (0 : Int32)) &&& (0 : Int32))) &&& (1 : Int32)) else ((if g1_ = (1 : Int32) then ((if g0_ = (0 : Int32) then (1 : Int32) else (0 : Int32)) &&& (1 : Int32)) else ((if g0_ = (0 : Int32) then (1 : Int32) else (0 : Int32)) &&& (0 : Int32))) &&& (0 : Int32))) &&& (1 : Int32)) else ((if g2_ = (2 : Int32) then ((if g1_ = (1 : Int32) then ((if g0_ = (0 : Int32) then (1 : Int32) else (0 : Int32)) &&& (1 : Int32)) else ((if g0_ = (0 : Int32) then (1 : Int32) else (0 : Int32)) &&& (0 : Int32))) &&& (1 : Int32)) else ((if g1_ = (1 : Int32) then ((if g0_ = (0 : Int32) then (1 : Int32) else (0 : Int32)) &&& (1 : Int32)) else ((if g0_ = (0 : Int32) then (1 : Int32) else (0 : Int32)) &&& (0 : Int32))) &&& (0 : Int32))) &&& (0 : Int32))), iv (4 : Int32)] [])) _
    exact X111.returnOut hx Bd.returns (hb hby d1_261) hr
  · show Q1_not Z o0 o1 o2 o3 g0_ g1_ g2_ g3_ k1 k2 k3 h0 n0 _ T111.heap _
    rw [e111]
    exact ⟨b95, k3, rfl, N111, K111, f112, Fw111, g_b95, sz_b95, f151⟩
theorem d5_0 : decode prog_115_method_4_code 0 = .ok (.aload_n 0, 1) := by decide +kernel
theorem d5_1 : decode prog_115_method_4_code 1 = .ok (.getfield 53, 3) := by decide +kernel
theorem d5_4 : decode prog_115_method_4_code 4 = .ok (.ifnull 66, 3) := by decide +kernel
theorem d5_70 : decode prog_115_method_4_code 70 = .ok (.return_, 1) := by decide +kernel
theorem pn_5 : plainName "com/example/oceanus/oceanus/numerics/Tolerances" = true := by first | (simp [plainName, overriddenIn]; done) | decide +kernel
theorem ef5_null (m : MethodId) (o0 : Addr) (o1 : Addr) : entryFrame m #[(.ref o0), (.ref o1)] 3 = mkF m 0 #[rv o0, rv o1, .unset] [] := by first | (simp [entryFrame, mkF, argsToLocals, Value.category]; done) | rfl
abbrev room_of_5_null : Room := { frames := 0, cells := 0, slots := 0, locals := 0 }
def Q5_null (Z : State) (o0 : Addr) (o1 : Addr) (h0 : Heap) (n0 : Nat) (v : Option Value) (h : Heap) (L : List Loc) : Prop := v = none ∧ L = [] ∧ h = h0
set_option maxRecDepth 65536 in
set_option maxHeartbeats 40000000 in
theorem rm5_null (l : Launch) (Z : State) (a0 : Array Value) (hw : ∀ d ∈ tables_1, d.before a0 Z = true) (ws : List Jvm.Cond) (o0 : Addr) (o1 : Addr)  (h0 : Heap) (n0 : Nat) (Z0 : n0 ≤ h0.size) (F_groups_o0 : Fld Z h0 o0 "com/example/oceanus/oceanus/numerics/Tolerances" "groups" "[I" .null) :
    MetFree l (⟨"com/example/oceanus/oceanus/numerics/Tolerances", "group", "([D)V"⟩ : MethodName) (head1 (Jvm.Cond.code (⟨"com/example/oceanus/oceanus/numerics/Tolerances", "group", "([D)V"⟩ : MethodName) prog_115_method_4_code 3 none :: ws) (room_of_5_null)) (fun a U => a = #[(.ref o0), (.ref o1)] ∧ Z.Warmed39 U.vm ∧ U.heap = h0) (fun _ _ _ _ _ => True) (fun _ U o U' => ∃ v L, o = .returned v ∧ Q5_null Z o0 o1 h0 n0 v U'.heap L ∧ FrameEnd U o U' L (room_of_5_null).cells (room_of_5_null).slots) := by
  refine MetFree.of_bodySF (plainFor_of_name pn_5) hisR ?_
  intro p e s m args below meth c s₁ Bd hml0 hP hK
  obtain ⟨rfl, hZ, hh⟩ := hP
  have hx := Bd.exec
  have hby := Bd.bytes
  have hml : c.maxLocals = 3 := hml0
  have hown : s.vm.findClass "com/example/oceanus/oceanus/numerics/Tolerances" = some m.cls := findClass_of_methodNamed Bd.named
  have hnm := (name_of_methodNamed Bd.named Bd.method).1
  have X0 : Stand p l e (room_of_5_null) s m #[(.ref o0), (.ref o1)] below meth c s₁ [] 0 0 := Stand.of_body Bd
  have e0 : s₁.heap = h0 := by rw [← hh, Bd.state]; rfl
  have N0 := Fr.nil n0
  have G0 := gd X0 hx hby
  have pre0 : ∀ t, Steps p.tables e below (s₁.setTop (mkF m 0 #[rv o0, rv o1, .unset] [])) t → Steps p.tables e below (s₁.setTop (entryFrame m #[(.ref o0), (.ref o1)] 3)) t := fun t k => castTop (ef5_null m o0 o1) k
  obtain ⟨T1, X1, e1, st1⟩ := getF X0 hx hZ hown (host := "") (Or.inl (wd hw 40 rfl)) Via.refl e0 F_groups_o0 (g := (mkF m 1 #[rv o0, rv o1, .unset] [(.ref o0)])) rfl rfl (hb hby d5_1)
  have G1 := gd X1 hx hby
  obtain ⟨fs, hr, hrun, hended, hW, hsame⟩ := X1.leave (v := none) (fun _ => rfl)
  refine ⟨_, _, pre0 _ ?_, hrun, hended, _, _, rfl, ?_, ⟨_, rfl⟩, hW, hsame.mono (by decide) (by decide)⟩
  · show Steps p.tables e below (s₁.setTop (mkF m 0 #[rv o0, rv o1, .unset] [])) _
    refine maloadN 1 G0 d5_0 rfl rfl rfl ?_
    refine st1 _ ?_
    show Steps p.tables e below (T1.setTop (mkF m 4 #[rv o0, rv o1, .unset] [.null])) _
    refine XS.ifnullYes X1.here hx rfl (pc0 := 4) (pc' := 70) rfl (hb hby d5_4) rfl (by decide) (by decide) ?_
    show Steps p.tables e below (T1.setTop (mkF m 70 #[rv o0, rv o1, .unset] [])) _
    exact X1.returnOut hx Bd.returns (hb hby d5_70) hr
  · show Q5_null Z o0 o1 h0 n0 _ T1.heap _
    rw [e1]
    exact ⟨rfl, rfl, rfl⟩
theorem d5_7 : decode prog_115_method_4_code 7 = .ok (.iconst 0, 1) := by decide +kernel
theorem d5_8 : decode prog_115_method_4_code 8 = .ok (.istore_n 2, 1) := by decide +kernel
theorem d5_9 : decode prog_115_method_4_code 9 = .ok (.iload_n 2, 1) := by decide +kernel
theorem d5_10 : decode prog_115_method_4_code 10 = .ok (.aload_n 1, 1) := by decide +kernel
theorem d5_11 : decode prog_115_method_4_code 11 = .ok (.arraylength, 1) := by decide +kernel
theorem d5_12 : decode prog_115_method_4_code 12 = .ok (.if_icmp .ge 33, 3) := by decide +kernel
theorem d5_15 : decode prog_115_method_4_code 15 = .ok (.aload_n 0, 1) := by decide +kernel
theorem d5_16 : decode prog_115_method_4_code 16 = .ok (.getfield 53, 3) := by decide +kernel
theorem d5_19 : decode prog_115_method_4_code 19 = .ok (.iload_n 2, 1) := by decide +kernel
theorem d5_20 : decode prog_115_method_4_code 20 = .ok (.iaload, 1) := by decide +kernel
theorem d5_21 : decode prog_115_method_4_code 21 = .ok (.iload_n 2, 1) := by decide +kernel
theorem d5_22 : decode prog_115_method_4_code 22 = .ok (.if_icmp .eq 17, 3) := by decide +kernel
theorem d5_25 : decode prog_115_method_4_code 25 = .ok (.aload_n 1, 1) := by decide +kernel
theorem d5_26 : decode prog_115_method_4_code 26 = .ok (.aload_n 0, 1) := by decide +kernel
theorem d5_27 : decode prog_115_method_4_code 27 = .ok (.getfield 53, 3) := by decide +kernel
theorem d5_30 : decode prog_115_method_4_code 30 = .ok (.iload_n 2, 1) := by decide +kernel
theorem d5_31 : decode prog_115_method_4_code 31 = .ok (.iaload, 1) := by decide +kernel
theorem d5_32 : decode prog_115_method_4_code 32 = .ok (.dup2, 1) := by decide +kernel
theorem d5_33 : decode prog_115_method_4_code 33 = .ok (.daload, 1) := by decide +kernel
theorem d5_34 : decode prog_115_method_4_code 34 = .ok (.aload_n 1, 1) := by decide +kernel
theorem d5_35 : decode prog_115_method_4_code 35 = .ok (.iload_n 2, 1) := by decide +kernel
theorem d5_36 : decode prog_115_method_4_code 36 = .ok (.daload, 1) := by decide +kernel
theorem d5_37 : decode prog_115_method_4_code 37 = .ok (.dadd, 1) := by decide +kernel
theorem d5_38 : decode prog_115_method_4_code 38 = .ok (.dastore, 1) := by decide +kernel
theorem d5_39 : decode prog_115_method_4_code 39 = .ok (.iinc 2 1, 3) := by decide +kernel
theorem d5_42 : decode prog_115_method_4_code 42 = .ok (.goto (-33), 3) := by decide +kernel
theorem d5_45 : decode prog_115_method_4_code 45 = .ok (.iconst 0, 1) := by decide +kernel
theorem d5_46 : decode prog_115_method_4_code 46 = .ok (.istore_n 2, 1) := by decide +kernel
theorem d5_47 : decode prog_115_method_4_code 47 = .ok (.iload_n 2, 1) := by decide +kernel
theorem d5_48 : decode prog_115_method_4_code 48 = .ok (.aload_n 1, 1) := by decide +kernel
theorem d5_49 : decode prog_115_method_4_code 49 = .ok (.arraylength, 1) := by decide +kernel
theorem d5_50 : decode prog_115_method_4_code 50 = .ok (.if_icmp .ge 20, 3) := by decide +kernel
theorem d5_53 : decode prog_115_method_4_code 53 = .ok (.aload_n 1, 1) := by decide +kernel
theorem d5_54 : decode prog_115_method_4_code 54 = .ok (.iload_n 2, 1) := by decide +kernel
theorem d5_55 : decode prog_115_method_4_code 55 = .ok (.aload_n 1, 1) := by decide +kernel
theorem d5_56 : decode prog_115_method_4_code 56 = .ok (.aload_n 0, 1) := by decide +kernel
theorem d5_57 : decode prog_115_method_4_code 57 = .ok (.getfield 53, 3) := by decide +kernel
theorem d5_60 : decode prog_115_method_4_code 60 = .ok (.iload_n 2, 1) := by decide +kernel
theorem d5_61 : decode prog_115_method_4_code 61 = .ok (.iaload, 1) := by decide +kernel
theorem d5_62 : decode prog_115_method_4_code 62 = .ok (.daload, 1) := by decide +kernel
theorem d5_63 : decode prog_115_method_4_code 63 = .ok (.dastore, 1) := by decide +kernel
theorem d5_64 : decode prog_115_method_4_code 64 = .ok (.iinc 2 1, 3) := by decide +kernel
theorem d5_67 : decode prog_115_method_4_code 67 = .ok (.goto (-20), 3) := by decide +kernel
theorem ef5_000 (m : MethodId) (o0 : Addr) (o1 : Addr) : entryFrame m #[(.ref o0), (.ref o1)] 3 = mkF m 0 #[rv o0, rv o1, .unset] [] := by first | (simp [entryFrame, mkF, argsToLocals, Value.category]; done) | rfl
abbrev room_of_5_000 : Room := { frames := 0, cells := 0, slots := 0, locals := 0 }
def Q5_000 (Z : State) (o0 : Addr) (o1 : Addr) (m0_ : UInt64) (m1_ : UInt64) (m2_ : UInt64) (m3_ : UInt64) (w1 : Addr) (k1 : ClassId) (k2 : ClassId) (h0 : Heap) (n0 : Nat) (v : Option Value) (h : Heap) (L : List Loc) : Prop := v = none ∧ Fr n0 L ∧ Keep h0 h [o1] ∧ Arv Z h o1 k2 .double (4 : Int32) [(.double (FP.dadd (FP.dadd (FP.dadd m0_ m1_) m2_) m3_)), (.double (FP.dadd (FP.dadd (FP.dadd m0_ m1_) m2_) m3_)), (.double (FP.dadd (FP.dadd (FP.dadd m0_ m1_) m2_) m3_)), (.double (FP.dadd (FP.dadd (FP.dadd m0_ m1_) m2_) m3_))] (.double (0 : UInt64))
theorem own_rm5_000_hn37 (o0 : Addr) (o1 : Addr) (m0_ : UInt64) (m1_ : UInt64) (m2_ : UInt64) (m3_ : UInt64) (w1 : Addr) (k1 : ClassId) (k2 : ClassId) (hm : own_fin4 m0_ m1_ m2_ m3_) : Jvm.Free.Fl.NoNaN64 (FP.dadd m0_ m1_) := (Jvm.Free.Fl.dadd_out hm.1.noNaN hm.2.1)
theorem own_rm5_000_hn37_1 (o0 : Addr) (o1 : Addr) (m0_ : UInt64) (m1_ : UInt64) (m2_ : UInt64) (m3_ : UInt64) (w1 : Addr) (k1 : ClassId) (k2 : ClassId) (hm : own_fin4 m0_ m1_ m2_ m3_) : Jvm.Free.Fl.NoNaN64 (FP.dadd (FP.dadd m0_ m1_) m2_) := (Jvm.Free.Fl.dadd_out (Jvm.Free.Fl.dadd_out hm.1.noNaN hm.2.1) hm.2.2.1)
theorem own_rm5_000_hn37_2 (o0 : Addr) (o1 : Addr) (m0_ : UInt64) (m1_ : UInt64) (m2_ : UInt64) (m3_ : UInt64) (w1 : Addr) (k1 : ClassId) (k2 : ClassId) (hm : own_fin4 m0_ m1_ m2_ m3_) : Jvm.Free.Fl.NoNaN64 (FP.dadd (FP.dadd (FP.dadd m0_ m1_) m2_) m3_) := (Jvm.Free.Fl.dadd_out (Jvm.Free.Fl.dadd_out (Jvm.Free.Fl.dadd_out hm.1.noNaN hm.2.1) hm.2.2.1) hm.2.2.2)
set_option maxRecDepth 65536 in
set_option maxHeartbeats 40000000 in
theorem rm5_000 (l : Launch) (Z : State) (a0 : Array Value) (hw : ∀ d ∈ tables_1, d.before a0 Z = true) (ws : List Jvm.Cond) (o0 : Addr) (o1 : Addr) {m0_ : UInt64} {m1_ : UInt64} {m2_ : UInt64} {m3_ : UInt64} {w1 : Addr} {k1 : ClassId} {k2 : ClassId} (h0 : Heap) (n0 : Nat) (Z0 : n0 ≤ h0.size) (hm : own_fin4 m0_ m1_ m2_ m3_) (F_groups_o0 : Fld Z h0 o0 "com/example/oceanus/oceanus/numerics/Tolerances" "groups" "[I" (.ref w1)) (ne_o0_o1 : o0 ≠ o1) (ne_w1_o1 : w1 ≠ o1) (g_o1 : n0 ≤ o1) (V_w1 : Arv Z h0 w1 k1 .int (4 : Int32) [(.int (0 : Int32)), (.int (0 : Int32)), (.int (0 : Int32)), (.int (0 : Int32))] (.int (0 : Int32))) (V_o1 : Arv Z h0 o1 k2 .double (4 : Int32) [(.double m0_), (.double m1_), (.double m2_), (.double m3_)] (.double (0 : UInt64))) :
    MetFree l (⟨"com/example/oceanus/oceanus/numerics/Tolerances", "group", "([D)V"⟩ : MethodName) (head1 (Jvm.Cond.code (⟨"com/example/oceanus/oceanus/numerics/Tolerances", "group", "([D)V"⟩ : MethodName) prog_115_method_4_code 3 none :: ws) (room_of_5_000)) (fun a U => a = #[(.ref o0), (.ref o1)] ∧ Z.Warmed39 U.vm ∧ U.heap = h0) (fun _ _ _ _ _ => True) (fun _ U o U' => ∃ v L, o = .returned v ∧ Q5_000 Z o0 o1 m0_ m1_ m2_ m3_ w1 k1 k2 h0 n0 v U'.heap L ∧ FrameEnd U o U' L (room_of_5_000).cells (room_of_5_000).slots) := by
  refine MetFree.of_bodySF (plainFor_of_name pn_5) hisR ?_
  intro p e s m args below meth c s₁ Bd hml0 hP hK
  obtain ⟨rfl, hZ, hh⟩ := hP
  have hx := Bd.exec
  have hby := Bd.bytes
  have hml : c.maxLocals = 3 := hml0
  have hown : s.vm.findClass "com/example/oceanus/oceanus/numerics/Tolerances" = some m.cls := findClass_of_methodNamed Bd.named
  have hnm := (name_of_methodNamed Bd.named Bd.method).1
  have X0 : Stand p l e (room_of_5_000) s m #[(.ref o0), (.ref o1)] below meth c s₁ [] 0 0 := Stand.of_body Bd
  have e0 : s₁.heap = h0 := by rw [← hh, Bd.state]; rfl
  have N0 := Fr.nil n0
  have G0 := gd X0 hx hby
  have pre0 : ∀ t, Steps p.tables e below (s₁.setTop (mkF m 0 #[rv o0, rv o1, .unset] [])) t → Steps p.tables e below (s₁.setTop (entryFrame m #[(.ref o0), (.ref o1)] 3)) t := fun t k => castTop (ef5_000 m o0 o1) k
  obtain ⟨T1, X1, e1, st1⟩ := getF X0 hx hZ hown (host := "") (Or.inl (wd hw 40 rfl)) Via.refl e0 F_groups_o0 (g := (mkF m 1 #[rv o0, rv o1, .unset] [(.ref o0)])) rfl rfl (hb hby d5_1)
  have G1 := gd X1 hx hby
  obtain ⟨T2, X2, e2, st2⟩ := getF X1 hx hZ hown (host := "") (Or.inl (wd hw 40 rfl)) Via.refl e1 F_groups_o0 (g := (mkF m 16 #[rv o0, rv o1, iv (0 : Int32)] [(.ref o0)])) rfl rfl (hb hby d5_16)
  have G2 := gd X2 hx hby
  obtain ⟨T3, X3, e3, st3⟩ := getF X2 hx hZ hown (host := "") (Or.inl (wd hw 40 rfl)) Via.refl e2 F_groups_o0 (g := (mkF m 16 #[rv o0, rv o1, iv (1 : Int32)] [(.ref o0)])) rfl rfl (hb hby d5_16)
  have G3 := gd X3 hx hby
  obtain ⟨T4, X4, e4, st4⟩ := getF X3 hx hZ hown (host := "") (Or.inl (wd hw 40 rfl)) Via.refl e3 F_groups_o0 (g := (mkF m 27 #[rv o0, rv o1, iv (1 : Int32)] [(.ref o0), (.ref o1)])) rfl rfl (hb hby d5_27)
  have G4 := gd X4 hx hby
  obtain ⟨T5, h5, X5, e5, W5, Vs5, st5⟩ := own_stD X4 hx hby hZ e4 V_o1 (j := (0 : Int32)) (v := (FP.dadd m0_ m1_)) d5_38 ⟨by decide, by decide⟩ 0 rfl (Nat.le_of_ble_eq_true rfl) #[rv o0, rv o1, iv (1 : Int32)] [] 39 rfl
  have G5 := gd X5 hx hby
  have N5 := Fr.snoc X5 N0 g_o1
  have f6 := F_groups_o0.other W5 (Or.inl ne_o0_o1)
  have f10 := V_w1.other W5 ne_w1_o1
  have Z5 := Nat.le_trans Z0 (Keep.of_wr W5).1
  have K5 : Keep h0 h5 [o1] := (Keep.refl h0 [o1]).wr W5 (Or.inl (List.mem_of_getElem? (i := 0) rfl))
  have V5 : Arv Z h5 o1 k2 .double (4 : Int32) [(.double (FP.dadd m0_ m1_)), (.double m1_), (.double m2_), (.double m3_)] (.double (0 : UInt64)) := Vs5
  obtain ⟨T12, X12, e12, st12⟩ := getF X5 hx hZ hown (host := "") (Or.inl (wd hw 40 rfl)) Via.refl e5 f6 (g := (mkF m 16 #[rv o0, rv o1, iv (2 : Int32)] [(.ref o0)])) rfl rfl (hb hby d5_16)
  have G12 := gd X12 hx hby
  obtain ⟨T13, X13, e13, st13⟩ := getF X12 hx hZ hown (host := "") (Or.inl (wd hw 40 rfl)) Via.refl e12 f6 (g := (mkF m 27 #[rv o0, rv o1, iv (2 : Int32)] [(.ref o0), (.ref o1)])) rfl rfl (hb hby d5_27)
  have G13 := gd X13 hx hby
  obtain ⟨T14, h14, X14, e14, W14, Vs14, st14⟩ := own_stD X13 hx hby hZ e13 V5 (j := (0 : Int32)) (v := (FP.dadd (FP.dadd m0_ m1_) m2_)) d5_38 ⟨by decide, by decide⟩ 0 rfl (Nat.le_of_ble_eq_true rfl) #[rv o0, rv o1, iv (2 : Int32)] [] 39 rfl
  have G14 := gd X14 hx hby
  have N14 := Fr.snoc X14 N5 g_o1
  have f15 := f6.other W14 (Or.inl ne_o0_o1)
  have f19 := f10.other W14 ne_w1_o1
  have Z14 := Nat.le_trans Z5 (Keep.of_wr W14).1
  have K14 : Keep h0 h14 [o1] := K5.wr W14 (Or.inl (List.mem_of_getElem? (i := 0) rfl))
  have V14 : Arv Z h14 o1 k2 .double (4 : Int32) [(.double (FP.dadd (FP.dadd m0_ m1_) m2_)), (.double m1_), (.double m2_), (.double m3_)] (.double (0 : UInt64)) := Vs14
  obtain ⟨T21, X21, e21, st21⟩ := getF X14 hx hZ hown (host := "") (Or.inl (wd hw 40 rfl)) Via.refl e14 f15 (g := (mkF m 16 #[rv o0, rv o1, iv (3 : Int32)] [(.ref o0)])) rfl rfl (hb hby d5_16)
  have G21 := gd X21 hx hby
  obtain ⟨T22, X22, e22, st22⟩ := getF X21 hx hZ hown (host := "") (Or.inl (wd hw 40 rfl)) Via.refl e21 f15 (g := (mkF m 27 #[rv o0, rv o1, iv (3 : Int32)] [(.ref o0), (.ref o1)])) rfl rfl (hb hby d5_27)
  have G22 := gd X22 hx hby
  obtain ⟨T23, h23, X23, e23, W23, Vs23, st23⟩ := own_stD X22 hx hby hZ e22 V14 (j := (0 : Int32)) (v := (FP.dadd (FP.dadd (FP.dadd m0_ m1_) m2_) m3_)) d5_38 ⟨by decide, by decide⟩ 0 rfl (Nat.le_of_ble_eq_true rfl) #[rv o0, rv o1, iv (3 : Int32)] [] 39 rfl
  have G23 := gd X23 hx hby
  have N23 := Fr.snoc X23 N14 g_o1
  have f24 := f15.other W23 (Or.inl ne_o0_o1)
  have f28 := f19.other W23 ne_w1_o1
  have Z23 := Nat.le_trans Z14 (Keep.of_wr W23).1
  have K23 : Keep h0 h23 [o1] := K14.wr W23 (Or.inl (List.mem_of_getElem? (i := 0) rfl))
  have V23 : Arv Z h23 o1 k2 .double (4 : Int32) [(.double (FP.dadd (FP.dadd (FP.dadd m0_ m1_) m2_) m3_)), (.double m1_), (.double m2_), (.double m3_)] (.double (0 : UInt64)) := Vs23
  obtain ⟨T30, X30, e30, st30⟩ := getF X23 hx hZ hown (host := "") (Or.inl (wd hw 40 rfl)) Via.refl e23 f24 (g := (mkF m 57 #[rv o0, rv o1, iv (0 : Int32)] [(.ref o0), (.ref o1), (.int (0 : Int32)), (.ref o1)])) rfl rfl (hb hby d5_57)
  have G30 := gd X30 hx hby
  obtain ⟨T31, h31, X31, e31, W31, Vs31, st31⟩ := own_stD X30 hx hby hZ e30 V23 (j := (0 : Int32)) (v := (FP.dadd (FP.dadd (FP.dadd m0_ m1_) m2_) m3_)) d5_63 ⟨by decide, by decide⟩ 0 rfl (Nat.le_of_ble_eq_true rfl) #[rv o0, rv o1, iv (0 : Int32)] [] 64 rfl
  have G31 := gd X31 hx hby
  have N31 := Fr.snoc X31 N23 g_o1
  have f32 := f24.other W31 (Or.inl ne_o0_o1)
  have f36 := f28.other W31 ne_w1_o1
  have Z31 := Nat.le_trans Z23 (Keep.of_wr W31).1
  have K31 : Keep h0 h31 [o1] := K23.wr W31 (Or.inl (List.mem_of_getElem? (i := 0) rfl))
  have V31 : Arv Z h31 o1 k2 .double (4 : Int32) [(.double (FP.dadd (FP.dadd (FP.dadd m0_ m1_) m2_) m3_)), (.double m1_), (.double m2_), (.double m3_)] (.double (0 : UInt64)) := Vs31
  obtain ⟨T38, X38, e38, st38⟩ := getF X31 hx hZ hown (host := "") (Or.inl (wd hw 40 rfl)) Via.refl e31 f32 (g := (mkF m 57 #[rv o0, rv o1, iv (1 : Int32)] [(.ref o0), (.ref o1), (.int (1 : Int32)), (.ref o1)])) rfl rfl (hb hby d5_57)
  have G38 := gd X38 hx hby
  obtain ⟨T39, h39, X39, e39, W39, Vs39, st39⟩ := own_stD X38 hx hby hZ e38 V31 (j := (1 : Int32)) (v := (FP.dadd (FP.dadd (FP.dadd m0_ m1_) m2_) m3_)) d5_63 ⟨by decide, by decide⟩ 1 rfl (Nat.le_of_ble_eq_true rfl) #[rv o0, rv o1, iv (1 : Int32)] [] 64 rfl
  have G39 := gd X39 hx hby
  have N39 := Fr.snoc X39 N31 g_o1
  have f40 := f32.other W39 (Or.inl ne_o0_o1)
  have f44 := f36.other W39 ne_w1_o1
  have Z39 := Nat.le_trans Z31 (Keep.of_wr W39).1
  have K39 : Keep h0 h39 [o1] := K31.wr W39 (Or.inl (List.mem_of_getElem? (i := 0) rfl))
  have V39 : Arv Z h39 o1 k2 .double (4 : Int32) [(.double (FP.dadd (FP.dadd (FP.dadd m0_ m1_) m2_) m3_)), (.double (FP.dadd (FP.dadd (FP.dadd m0_ m1_) m2_) m3_)), (.double m2_), (.double m3_)] (.double (0 : UInt64)) := Vs39
  obtain ⟨T46, X46, e46, st46⟩ := getF X39 hx hZ hown (host := "") (Or.inl (wd hw 40 rfl)) Via.refl e39 f40 (g := (mkF m 57 #[rv o0, rv o1, iv (2 : Int32)] [(.ref o0), (.ref o1), (.int (2 : Int32)), (.ref o1)])) rfl rfl (hb hby d5_57)
  have G46 := gd X46 hx hby
  obtain ⟨T47, h47, X47, e47, W47, Vs47, st47⟩ := own_stD X46 hx hby hZ e46 V39 (j := (2 : Int32)) (v := (FP.dadd (FP.dadd (FP.dadd m0_ m1_) m2_) m3_)) d5_63 ⟨by decide, by decide⟩ 2 rfl (Nat.le_of_ble_eq_true rfl) #[rv o0, rv o1, iv (2 : Int32)] [] 64 rfl
  have G47 := gd X47 hx hby
  have N47 := Fr.snoc X47 N39 g_o1
  have f48 := f40.other W47 (Or.inl ne_o0_o1)
  have f52 := f44.other W47 ne_w1_o1
  have Z47 := Nat.le_trans Z39 (Keep.of_wr W47).1
  have K47 : Keep h0 h47 [o1] := K39.wr W47 (Or.inl (List.mem_of_getElem? (i := 0) rfl))
  have V47 : Arv Z h47 o1 k2 .double (4 : Int32) [(.double (FP.dadd (FP.dadd (FP.dadd m0_ m1_) m2_) m3_)), (.double (FP.dadd (FP.dadd (FP.dadd m0_ m1_) m2_) m3_)), (.double (FP.dadd (FP.dadd (FP.dadd m0_ m1_) m2_) m3_)), (.double m3_)] (.double (0 : UInt64)) := Vs47
  obtain ⟨T54, X54, e54, st54⟩ := getF X47 hx hZ hown (host := "") (Or.inl (wd hw 40 rfl)) Via.refl e47 f48 (g := (mkF m 57 #[rv o0, rv o1, iv (3 : Int32)] [(.ref o0), (.ref o1), (.int (3 : Int32)), (.ref o1)])) rfl rfl (hb hby d5_57)
  have G54 := gd X54 hx hby
  obtain ⟨T55, h55, X55, e55, W55, Vs55, st55⟩ := own_stD X54 hx hby hZ e54 V47 (j := (3 : Int32)) (v := (FP.dadd (FP.dadd (FP.dadd m0_ m1_) m2_) m3_)) d5_63 ⟨by decide, by decide⟩ 3 rfl (Nat.le_of_ble_eq_true rfl) #[rv o0, rv o1, iv (3 : Int32)] [] 64 rfl
  have G55 := gd X55 hx hby
  have N55 := Fr.snoc X55 N47 g_o1
  have f56 := f48.other W55 (Or.inl ne_o0_o1)
  have f60 := f52.other W55 ne_w1_o1
  have Z55 := Nat.le_trans Z47 (Keep.of_wr W55).1
  have K55 : Keep h0 h55 [o1] := K47.wr W55 (Or.inl (List.mem_of_getElem? (i := 0) rfl))
  have V55 : Arv Z h55 o1 k2 .double (4 : Int32) [(.double (FP.dadd (FP.dadd (FP.dadd m0_ m1_) m2_) m3_)), (.double (FP.dadd (FP.dadd (FP.dadd m0_ m1_) m2_) m3_)), (.double (FP.dadd (FP.dadd (FP.dadd m0_ m1_) m2_) m3_)), (.double (FP.dadd (FP.dadd (FP.dadd m0_ m1_) m2_) m3_))] (.double (0 : UInt64)) := Vs55
  obtain ⟨fs, hr, hrun, hended, hW, hsame⟩ := X55.leave (v := none) (fun _ => rfl)
  refine ⟨_, _, pre0 _ ?_, hrun, hended, _, _, rfl, ?_, ⟨_, rfl⟩, hW, hsame.mono (by decide) (by decide)⟩
  · show Steps p.tables e below (s₁.setTop (mkF m 0 #[rv o0, rv o1, .unset] [])) _
    refine maloadN 1 G0 d5_0 rfl rfl rfl ?_
    refine st1 _ ?_
    show Steps p.tables e below (T1.setTop (mkF m 4 #[rv o0, rv o1, .unset] [(.ref w1)])) _
    refine XS.ifnullNo X1.here hx rfl (hb hby d5_4) rfl ?_
    show Steps p.tables e below (T1.setTop (mkF m 7 #[rv o0, rv o1, .unset] [])) _
    refine miconst 8 G1 d5_7 (v := (0 : Int32)) rfl rfl ?_
    refine mistoreN 9 G1 d5_8 #[rv o0, rv o1, iv (0 : Int32)] rfl rfl ?_
    refine miloadN 10 G1 d5_9 rfl rfl ?_
    refine maloadN 11 G1 d5_10 rfl rfl rfl ?_
    refine mlen 12 X1 hx hby hZ e1 V_o1 d5_11 rfl ?_
    refine micmpNo 15 G1 d5_12 (tlt (by decide : (0 : Int32) < (4 : Int32))).2.1 rfl ?_
    refine maloadN 16 G1 d5_15 rfl rfl rfl ?_
    refine st2 _ ?_
    show Steps p.tables e below (T2.setTop (mkF m 19 #[rv o0, rv o1, iv (0 : Int32)] [(.ref w1)])) _
    refine miloadN 20 G2 d5_19 rfl rfl ?_
    refine miaload 21 X2 hx hby hZ e2 V_w1 (v := (0 : Int32)) d5_20 ⟨by decide, by decide⟩ rfl rfl ?_
    refine miloadN 22 G2 d5_21 rfl rfl ?_
    refine micmpYes 39 G2 d5_22 (teq (by decide : (0 : Int32) = (0 : Int32))).1 (by decide) rfl ?_
    refine miinc 42 G2 d5_39 rfl #[rv o0, rv o1, iv (1 : Int32)] rfl rfl ?_
    refine mgoto 9 G2 d5_42 (by decide) rfl ?_
    refine miloadN 10 G2 d5_9 rfl rfl ?_
    refine maloadN 11 G2 d5_10 rfl rfl rfl ?_
    refine mlen 12 X2 hx hby hZ e2 V_o1 d5_11 rfl ?_
    refine micmpNo 15 G2 d5_12 (tlt (by decide : (1 : Int32) < (4 : Int32))).2.1 rfl ?_
    refine maloadN 16 G2 d5_15 rfl rfl rfl ?_
    refine st3 _ ?_
    show Steps p.tables e below (T3.setTop (mkF m 19 #[rv o0, rv o1, iv (1 : Int32)] [(.ref w1)])) _
    refine miloadN 20 G3 d5_19 rfl rfl ?_
    refine miaload 21 X3 hx hby hZ e3 V_w1 (v := (0 : Int32)) d5_20 ⟨by decide, by decide⟩ rfl rfl ?_
    refine miloadN 22 G3 d5_21 rfl rfl ?_
    refine micmpNo 25 G3 d5_22 (feq (by decide : ¬ ((0 : Int32) = (1 : Int32)))).1 rfl ?_
    refine maloadN 26 G3 d5_25 rfl rfl rfl ?_
    refine maloadN 27 G3 d5_26 rfl rfl rfl ?_
    refine st4 _ ?_
    show Steps p.tables e below (T4.setTop (mkF m 30 #[rv o0, rv o1, iv (1 : Int32)] [(.ref w1), (.ref o1)])) _
    refine miloadN 31 G4 d5_30 rfl rfl ?_
    refine miaload 32 X4 hx hby hZ e4 V_w1 (v := (0 : Int32)) d5_31 ⟨by decide, by decide⟩ rfl rfl ?_
    refine mdup2 33 G4 d5_32 rfl rfl rfl ?_
    refine mdaload 34 X4 hx hby hZ e4 V_o1 (v := m0_) d5_33 ⟨by decide, by decide⟩ rfl rfl ?_
    refine maloadN 35 G4 d5_34 rfl rfl rfl ?_
    refine miloadN 36 G4 d5_35 rfl rfl ?_
    refine mdaload 37 X4 hx hby hZ e4 V_o1 (v := m1_) d5_36 ⟨by decide, by decide⟩ rfl rfl ?_
    refine mdadd 38 G4 d5_37 (own_rm5_000_hn37 o0 o1 m0_ m1_ m2_ m3_ w1 k1 k2 hm) rfl ?_
    refine st5 _ ?_
    refine miinc 42 G5 d5_39 rfl #[rv o0, rv o1, iv (2 : Int32)] rfl rfl ?_
    refine mgoto 9 G5 d5_42 (by decide) rfl ?_
    refine miloadN 10 G5 d5_9 rfl rfl ?_
    refine maloadN 11 G5 d5_10 rfl rfl rfl ?_
    refine mlen 12 X5 hx hby hZ e5 V5 d5_11 rfl ?_
    refine micmpNo 15 G5 d5_12 (tlt (by decide : (2 : Int32) < (4 : Int32))).2.1 rfl ?_
    refine maloadN 16 G5 d5_15 rfl rfl rfl ?_
    refine st12 _ ?_
    show Steps p.tables e below (T12.setTop (mkF m 19 #[rv o0, rv o1, iv (2 : Int32)] [(.ref w1)])) _
    refine miloadN 20 G12 d5_19 rfl rfl ?_
    refine miaload 21 X12 hx hby hZ e12 f10 (v := (0 : Int32)) d5_20 ⟨by decide, by decide⟩ rfl rfl ?_
    refine miloadN 22 G12 d5_21 rfl rfl ?_
    refine micmpNo 25 G12 d5_22 (feq (by decide : ¬ ((0 : Int32) = (2 : Int32)))).1 rfl ?_
    refine maloadN 26 G12 d5_25 rfl rfl rfl ?_
    refine maloadN 27 G12 d5_26 rfl rfl rfl ?_
    refine st13 _ ?_
    show Steps p.tables e below (T13.setTop (mkF m 30 #[rv o0, rv o1, iv (2 : Int32)] [(.ref w1), (.ref o1)])) _
    refine miloadN 31 G13 d5_30 rfl rfl ?_
    refine miaload 32 X13 hx hby hZ e13 f10 (v := (0 : Int32)) d5_31 ⟨by decide, by decide⟩ rfl rfl ?_
    refine mdup2 33 G13 d5_32 rfl rfl rfl ?_
    refine mdaload 34 X13 hx hby hZ e13 V5 (v := (FP.dadd m0_ m1_)) d5_33 ⟨by decide, by decide⟩ rfl rfl ?_
    refine maloadN 35 G13 d5_34 rfl rfl rfl ?_
    refine miloadN 36 G13 d5_35 rfl rfl ?_
    refine mdaload 37 X13 hx hby hZ e13 V5 (v := m2_) d5_36 ⟨by decide, by decide⟩ rfl rfl ?_
    refine mdadd 38 G13 d5_37 (own_rm5_000_hn37_1 o0 o1 m0_ m1_ m2_ m3_ w1 k1 k2 hm) rfl ?_
    refine st14 _ ?_
    refine miinc 42 G14 d5_39 rfl #[rv o0, rv o1, iv (3 : Int32)] rfl rfl ?_
    refine mgoto 9 G14 d5_42 (by decide) rfl ?_
    refine miloadN 10 G14 d5_9 rfl rfl ?_
    refine maloadN 11 G14 d5_10 rfl rfl rfl ?_
    refine mlen 12 X14 hx hby hZ e14 V14 d5_11 rfl ?_
    refine micmpNo 15 G14 d5_12 (tlt (by decide : (3 : Int32) < (4 : Int32))).2.1 rfl ?_
    refine maloadN 16 G14 d5_15 rfl rfl rfl ?_
    refine st21 _ ?_
    show Steps p.tables e below (T21.setTop (mkF m 19 #[rv o0, rv o1, iv (3 : Int32)] [(.ref w1)])) _
    refine miloadN 20 G21 d5_19 rfl rfl ?_
    refine miaload 21 X21 hx hby hZ e21 f19 (v := (0 : Int32)) d5_20 ⟨by decide, by decide⟩ rfl rfl ?_
    refine miloadN 22 G21 d5_21 rfl rfl ?_
    refine micmpNo 25 G21 d5_22 (feq (by decide : ¬ ((0 : Int32) = (3 : Int32)))).1 rfl ?_
    refine maloadN 26 G21 d5_25 rfl rfl rfl ?_
    refine maloadN 27 G21 d5_26 rfl rfl rfl ?_
    refine st22 _ ?_
    show Steps p.tables e below (T22.setTop (mkF m 30 #[rv o0, rv o1, iv (3 : Int32)] [(.ref w1), (.ref o1)])) _
    refine miloadN 31 G22 d5_30 rfl rfl ?_
    refine miaload 32 X22 hx hby hZ e22 f19 (v := (0 : Int32)) d5_31 ⟨by decide, by decide⟩ rfl rfl ?_
    refine mdup2 33 G22 d5_32 rfl rfl rfl ?_
    refine mdaload 34 X22 hx hby hZ e22 V14 (v := (FP.dadd (FP.dadd m0_ m1_) m2_)) d5_33 ⟨by decide, by decide⟩ rfl rfl ?_
    refine maloadN 35 G22 d5_34 rfl rfl rfl ?_
    refine miloadN 36 G22 d5_35 rfl rfl ?_
    refine mdaload 37 X22 hx hby hZ e22 V14 (v := m3_) d5_36 ⟨by decide, by decide⟩ rfl rfl ?_
    refine mdadd 38 G22 d5_37 (own_rm5_000_hn37_2 o0 o1 m0_ m1_ m2_ m3_ w1 k1 k2 hm) rfl ?_
    refine st23 _ ?_
    refine miinc 42 G23 d5_39 rfl #[rv o0, rv o1, iv (4 : Int32)] rfl rfl ?_
    refine mgoto 9 G23 d5_42 (by decide) rfl ?_
    refine miloadN 10 G23 d5_9 rfl rfl ?_
    refine maloadN 11 G23 d5_10 rfl rfl rfl ?_
    refine mlen 12 X23 hx hby hZ e23 V23 d5_11 rfl ?_
    refine micmpYes 45 G23 d5_12 (flt (by decide : ¬ ((4 : Int32) < (4 : Int32)))).2.1 (by decide) rfl ?_
    refine miconst 46 G23 d5_45 (v := (0 : Int32)) rfl rfl ?_
    refine mistoreN 47 G23 d5_46 #[rv o0, rv o1, iv (0 : Int32)] rfl rfl ?_
    refine miloadN 48 G23 d5_47 rfl rfl ?_
    refine maloadN 49 G23 d5_48 rfl rfl rfl ?_
    refine mlen 50 X23 hx hby hZ e23 V23 d5_49 rfl ?_
    refine micmpNo 53 G23 d5_50 (tlt (by decide : (0 : Int32) < (4 : Int32))).2.1 rfl ?_
    refine maloadN 54 G23 d5_53 rfl rfl rfl ?_
    refine miloadN 55 G23 d5_54 rfl rfl ?_
    refine maloadN 56 G23 d5_55 rfl rfl rfl ?_
    refine maloadN 57 G23 d5_56 rfl rfl rfl ?_
    refine st30 _ ?_
    show Steps p.tables e below (T30.setTop (mkF m 60 #[rv o0, rv o1, iv (0 : Int32)] [(.ref w1), (.ref o1), (.int (0 : Int32)), (.ref o1)])) _
    refine miloadN 61 G30 d5_60 rfl rfl ?_
    refine miaload 62 X30 hx hby hZ e30 f28 (v := (0 : Int32)) d5_61 ⟨by decide, by decide⟩ rfl rfl ?_
    refine mdaload 63 X30 hx hby hZ e30 V23 (v := (FP.dadd (FP.dadd (FP.dadd m0_ m1_) m2_) m3_)) d5_62 ⟨by decide, by decide⟩ rfl rfl ?_
    refine st31 _ ?_
    refine miinc 67 G31 d5_64 rfl #[rv o0, rv o1, iv (1 : Int32)] rfl rfl ?_
    refine mgoto 47 G31 d5_67 (by decide) rfl ?_
    refine miloadN 48 G31 d5_47 rfl rfl ?_
    refine maloadN 49 G31 d5_48 rfl rfl rfl ?_
    refine mlen 50 X31 hx hby hZ e31 V31 d5_49 rfl ?_
    refine micmpNo 53 G31 d5_50 (tlt (by decide : (1 : Int32) < (4 : Int32))).2.1 rfl ?_
    refine maloadN 54 G31 d5_53 rfl rfl rfl ?_
    refine miloadN 55 G31 d5_54 rfl rfl ?_
    refine maloadN 56 G31 d5_55 rfl rfl rfl ?_
    refine maloadN 57 G31 d5_56 rfl rfl rfl ?_
    refine st38 _ ?_
    show Steps p.tables e below (T38.setTop (mkF m 60 #[rv o0, rv o1, iv (1 : Int32)] [(.ref w1), (.ref o1), (.int (1 : Int32)), (.ref o1)])) _
    refine miloadN 61 G38 d5_60 rfl rfl ?_
    refine miaload 62 X38 hx hby hZ e38 f36 (v := (0 : Int32)) d5_61 ⟨by decide, by decide⟩ rfl rfl ?_
    refine mdaload 63 X38 hx hby hZ e38 V31 (v := (FP.dadd (FP.dadd (FP.dadd m0_ m1_) m2_) m3_)) d5_62 ⟨by decide, by decide⟩ rfl rfl ?_
    refine st39 _ ?_
    refine miinc 67 G39 d5_64 rfl #[rv o0, rv o1, iv (2 : Int32)] rfl rfl ?_
    refine mgoto 47 G39 d5_67 (by decide) rfl ?_
    refine miloadN 48 G39 d5_47 rfl rfl ?_
    refine maloadN 49 G39 d5_48 rfl rfl rfl ?_
    refine mlen 50 X39 hx hby hZ e39 V39 d5_49 rfl ?_
    refine micmpNo 53 G39 d5_50 (tlt (by decide : (2 : Int32) < (4 : Int32))).2.1 rfl ?_
    refine maloadN 54 G39 d5_53 rfl rfl rfl ?_
    refine miloadN 55 G39 d5_54 rfl rfl ?_
    refine maloadN 56 G39 d5_55 rfl rfl rfl ?_
    refine maloadN 57 G39 d5_56 rfl rfl rfl ?_
    refine st46 _ ?_
    show Steps p.tables e below (T46.setTop (mkF m 60 #[rv o0, rv o1, iv (2 : Int32)] [(.ref w1), (.ref o1), (.int (2 : Int32)), (.ref o1)])) _
    refine miloadN 61 G46 d5_60 rfl rfl ?_
    refine miaload 62 X46 hx hby hZ e46 f44 (v := (0 : Int32)) d5_61 ⟨by decide, by decide⟩ rfl rfl ?_
    refine mdaload 63 X46 hx hby hZ e46 V39 (v := (FP.dadd (FP.dadd (FP.dadd m0_ m1_) m2_) m3_)) d5_62 ⟨by decide, by decide⟩ rfl rfl ?_
    refine st47 _ ?_
    refine miinc 67 G47 d5_64 rfl #[rv o0, rv o1, iv (3 : Int32)] rfl rfl ?_
    refine mgoto 47 G47 d5_67 (by decide) rfl ?_
    refine miloadN 48 G47 d5_47 rfl rfl ?_
    refine maloadN 49 G47 d5_48 rfl rfl rfl ?_
    refine mlen 50 X47 hx hby hZ e47 V47 d5_49 rfl ?_
    refine micmpNo 53 G47 d5_50 (tlt (by decide : (3 : Int32) < (4 : Int32))).2.1 rfl ?_
    refine maloadN 54 G47 d5_53 rfl rfl rfl ?_
    refine miloadN 55 G47 d5_54 rfl rfl ?_
    refine maloadN 56 G47 d5_55 rfl rfl rfl ?_
    refine maloadN 57 G47 d5_56 rfl rfl rfl ?_
    refine st54 _ ?_
    show Steps p.tables e below (T54.setTop (mkF m 60 #[rv o0, rv o1, iv (3 : Int32)] [(.ref w1), (.ref o1), (.int (3 : Int32)), (.ref o1)])) _
    refine miloadN 61 G54 d5_60 rfl rfl ?_
    refine miaload 62 X54 hx hby hZ e54 f52 (v := (0 : Int32)) d5_61 ⟨by decide, by decide⟩ rfl rfl ?_
    refine mdaload 63 X54 hx hby hZ e54 V47 (v := (FP.dadd (FP.dadd (FP.dadd m0_ m1_) m2_) m3_)) d5_62 ⟨by decide, by decide⟩ rfl rfl ?_
    refine st55 _ ?_
    refine miinc 67 G55 d5_64 rfl #[rv o0, rv o1, iv (4 : Int32)] rfl rfl ?_
    refine mgoto 47 G55 d5_67 (by decide) rfl ?_
    refine miloadN 48 G55 d5_47 rfl rfl ?_
    refine maloadN 49 G55 d5_48 rfl rfl rfl ?_
    refine mlen 50 X55 hx hby hZ e55 V55 d5_49 rfl ?_
    refine micmpYes 70 G55 d5_50 (flt (by decide : ¬ ((4 : Int32) < (4 : Int32)))).2.1 (by decide) rfl ?_
    exact X55.returnOut hx Bd.returns (hb hby d5_70) hr
  · show Q5_000 Z o0 o1 m0_ m1_ m2_ m3_ w1 k1 k2 h0 n0 _ T55.heap _
    rw [e55]
    exact ⟨rfl, N55, K55, V55⟩
theorem ef5_003 (m : MethodId) (o0 : Addr) (o1 : Addr) : entryFrame m #[(.ref o0), (.ref o1)] 3 = mkF m 0 #[rv o0, rv o1, .unset] [] := by first | (simp [entryFrame, mkF, argsToLocals, Value.category]; done) | rfl
abbrev room_of_5_003 : Room := { frames := 0, cells := 0, slots := 0, locals := 0 }
def Q5_003 (Z : State) (o0 : Addr) (o1 : Addr) (m0_ : UInt64) (m1_ : UInt64) (m2_ : UInt64) (m3_ : UInt64) (w1 : Addr) (k1 : ClassId) (k2 : ClassId) (h0 : Heap) (n0 : Nat) (v : Option Value) (h : Heap) (L : List Loc) : Prop := v = none ∧ Fr n0 L ∧ Keep h0 h [o1] ∧ Arv Z h o1 k2 .double (4 : Int32) [(.double (FP.dadd (FP.dadd m0_ m1_) m2_)), (.double (FP.dadd (FP.dadd m0_ m1_) m2_)), (.double (FP.dadd (FP.dadd m0_ m1_) m2_)), (.double m3_)] (.double (0 : UInt64))
theorem own_rm5_003_hn37 (o0 : Addr) (o1 : Addr) (m0_ : UInt64) (m1_ : UInt64) (m2_ : UInt64) (m3_ : UInt64) (w1 : Addr) (k1 : ClassId) (k2 : ClassId) (hm : own_fin4 m0_ m1_ m2_ m3_) : Jvm.Free.Fl.NoNaN64 (FP.dadd m0_ m1_) := (Jvm.Free.Fl.dadd_out hm.1.noNaN hm.2.1)
theorem own_rm5_003_hn37_1 (o0 : Addr) (o1 : Addr) (m0_ : UInt64) (m1_ : UInt64) (m2_ : UInt64) (m3_ : UInt64) (w1 : Addr) (k1 : ClassId) (k2 : ClassId) (hm : own_fin4 m0_ m1_ m2_ m3_) : Jvm.Free.Fl.NoNaN64 (FP.dadd (FP.dadd m0_ m1_) m2_) := (Jvm.Free.Fl.dadd_out (Jvm.Free.Fl.dadd_out hm.1.noNaN hm.2.1) hm.2.2.1)
set_option maxRecDepth 65536 in
set_option maxHeartbeats 40000000 in
theorem rm5_003 (l : Launch) (Z : State) (a0 : Array Value) (hw : ∀ d ∈ tables_1, d.before a0 Z = true) (ws : List Jvm.Cond) (o0 : Addr) (o1 : Addr) {m0_ : UInt64} {m1_ : UInt64} {m2_ : UInt64} {m3_ : UInt64} {w1 : Addr} {k1 : ClassId} {k2 : ClassId} (h0 : Heap) (n0 : Nat) (Z0 : n0 ≤ h0.size) (hm : own_fin4 m0_ m1_ m2_ m3_) (F_groups_o0 : Fld Z h0 o0 "com/example/oceanus/oceanus/numerics/Tolerances" "groups" "[I" (.ref w1)) (ne_o0_o1 : o0 ≠ o1) (ne_w1_o1 : w1 ≠ o1) (g_o1 : n0 ≤ o1) (V_w1 : Arv Z h0 w1 k1 .int (4 : Int32) [(.int (0 : Int32)), (.int (0 : Int32)), (.int (0 : Int32)), (.int (3 : Int32))] (.int (0 : Int32))) (V_o1 : Arv Z h0 o1 k2 .double (4 : Int32) [(.double m0_), (.double m1_), (.double m2_), (.double m3_)] (.double (0 : UInt64))) :
    MetFree l (⟨"com/example/oceanus/oceanus/numerics/Tolerances", "group", "([D)V"⟩ : MethodName) (head1 (Jvm.Cond.code (⟨"com/example/oceanus/oceanus/numerics/Tolerances", "group", "([D)V"⟩ : MethodName) prog_115_method_4_code 3 none :: ws) (room_of_5_003)) (fun a U => a = #[(.ref o0), (.ref o1)] ∧ Z.Warmed39 U.vm ∧ U.heap = h0) (fun _ _ _ _ _ => True) (fun _ U o U' => ∃ v L, o = .returned v ∧ Q5_003 Z o0 o1 m0_ m1_ m2_ m3_ w1 k1 k2 h0 n0 v U'.heap L ∧ FrameEnd U o U' L (room_of_5_003).cells (room_of_5_003).slots) := by
  refine MetFree.of_bodySF (plainFor_of_name pn_5) hisR ?_
  intro p e s m args below meth c s₁ Bd hml0 hP hK
  obtain ⟨rfl, hZ, hh⟩ := hP
  have hx := Bd.exec
  have hby := Bd.bytes
  have hml : c.maxLocals = 3 := hml0
  have hown : s.vm.findClass "com/example/oceanus/oceanus/numerics/Tolerances" = some m.cls := findClass_of_methodNamed Bd.named
  have hnm := (name_of_methodNamed Bd.named Bd.method).1
  have X0 : Stand p l e (room_of_5_003) s m #[(.ref o0), (.ref o1)] below meth c s₁ [] 0 0 := Stand.of_body Bd
  have e0 : s₁.heap = h0 := by rw [← hh, Bd.state]; rfl
  have N0 := Fr.nil n0
  have G0 := gd X0 hx hby
  have pre0 : ∀ t, Steps p.tables e below (s₁.setTop (mkF m 0 #[rv o0, rv o1, .unset] [])) t → Steps p.tables e below (s₁.setTop (entryFrame m #[(.ref o0), (.ref o1)] 3)) t := fun t k => castTop (ef5_003 m o0 o1) k
  obtain ⟨T1, X1, e1, st1⟩ := getF X0 hx hZ hown (host := "") (Or.inl (wd hw 40 rfl)) Via.refl e0 F_groups_o0 (g := (mkF m 1 #[rv o0, rv o1, .unset] [(.ref o0)])) rfl rfl (hb hby d5_1)
  have G1 := gd X1 hx hby
  obtain ⟨T2, X2, e2, st2⟩ := getF X1 hx hZ hown (host := "") (Or.inl (wd hw 40 rfl)) Via.refl e1 F_groups_o0 (g := (mkF m 16 #[rv o0, rv o1, iv (0 : Int32)] [(.ref o0)])) rfl rfl (hb hby d5_16)
  have G2 := gd X2 hx hby
  obtain ⟨T3, X3, e3, st3⟩ := getF X2 hx hZ hown (host := "") (Or.inl (wd hw 40 rfl)) Via.refl e2 F_groups_o0 (g := (mkF m 16 #[rv o0, rv o1, iv (1 : Int32)] [(.ref o0)])) rfl rfl (hb hby d5_16)
  have G3 := gd X3 hx hby
  obtain ⟨T4, X4, e4, st4⟩ := getF X3 hx hZ hown (host := "") (Or.inl (wd hw 40 rfl)) Via.refl e3 F_groups_o0 (g := (mkF m 27 #[rv o0, rv o1, iv (1 : Int32)] [(.ref o0), (.ref o1)])) rfl rfl (hb hby d5_27)
  have G4 := gd X4 hx hby
  obtain ⟨T5, h5, X5, e5, W5, Vs5, st5⟩ := own_stD X4 hx hby hZ e4 V_o1 (j := (0 : Int32)) (v := (FP.dadd m0_ m1_)) d5_38 ⟨by decide, by decide⟩ 0 rfl (Nat.le_of_ble_eq_true rfl) #[rv o0, rv o1, iv (1 : Int32)] [] 39 rfl
  have G5 := gd X5 hx hby
  have N5 := Fr.snoc X5 N0 g_o1
  have f6 := F_groups_o0.other W5 (Or.inl ne_o0_o1)
  have f10 := V_w1.other W5 ne_w1_o1
  have Z5 := Nat.le_trans Z0 (Keep.of_wr W5).1
  have K5 : Keep h0 h5 [o1] := (Keep.refl h0 [o1]).wr W5 (Or.inl (List.mem_of_getElem? (i := 0) rfl))
  have V5 : Arv Z h5 o1 k2 .double (4 : Int32) [(.double (FP.dadd m0_ m1_)), (.double m1_), (.double m2_), (.double m3_)] (.double (0 : UInt64)) := Vs5
  obtain ⟨T12, X12, e12, st12⟩ := getF X5 hx hZ hown (host := "") (Or.inl (wd hw 40 rfl)) Via.refl e5 f6 (g := (mkF m 16 #[rv o0, rv o1, iv (2 : Int32)] [(.ref o0)])) rfl rfl (hb hby d5_16)
  have G12 := gd X12 hx hby
  obtain ⟨T13, X13, e13, st13⟩ := getF X12 hx hZ hown (host := "") (Or.inl (wd hw 40 rfl)) Via.refl e12 f6 (g := (mkF m 27 #[rv o0, rv o1, iv (2 : Int32)] [(.ref o0), (.ref o1)])) rfl rfl (hb hby d5_27)
  have G13 := gd X13 hx hby
  obtain ⟨T14, h14, X14, e14, W14, Vs14, st14⟩ := own_stD X13 hx hby hZ e13 V5 (j := (0 : Int32)) (v := (FP.dadd (FP.dadd m0_ m1_) m2_)) d5_38 ⟨by decide, by decide⟩ 0 rfl (Nat.le_of_ble_eq_true rfl) #[rv o0, rv o1, iv (2 : Int32)] [] 39 rfl
  have G14 := gd X14 hx hby
  have N14 := Fr.snoc X14 N5 g_o1
  have f15 := f6.other W14 (Or.inl ne_o0_o1)
  have f19 := f10.other W14 ne_w1_o1
  have Z14 := Nat.le_trans Z5 (Keep.of_wr W14).1
  have K14 : Keep h0 h14 [o1] := K5.wr W14 (Or.inl (List.mem_of_getElem? (i := 0) rfl))
  have V14 : Arv Z h14 o1 k2 .double (4 : Int32) [(.double (FP.dadd (FP.dadd m0_ m1_) m2_)), (.double m1_), (.double m2_), (.double m3_)] (.double (0 : UInt64)) := Vs14
  obtain ⟨T21, X21, e21, st21⟩ := getF X14 hx hZ hown (host := "") (Or.inl (wd hw 40 rfl)) Via.refl e14 f15 (g := (mkF m 16 #[rv o0, rv o1, iv (3 : Int32)] [(.ref o0)])) rfl rfl (hb hby d5_16)
  have G21 := gd X21 hx hby
  obtain ⟨T22, X22, e22, st22⟩ := getF X21 hx hZ hown (host := "") (Or.inl (wd hw 40 rfl)) Via.refl e21 f15 (g := (mkF m 57 #[rv o0, rv o1, iv (0 : Int32)] [(.ref o0), (.ref o1), (.int (0 : Int32)), (.ref o1)])) rfl rfl (hb hby d5_57)
  have G22 := gd X22 hx hby
  obtain ⟨T23, h23, X23, e23, W23, Vs23, st23⟩ := own_stD X22 hx hby hZ e22 V14 (j := (0 : Int32)) (v := (FP.dadd (FP.dadd m0_ m1_) m2_)) d5_63 ⟨by decide, by decide⟩ 0 rfl (Nat.le_of_ble_eq_true rfl) #[rv o0, rv o1, iv (0 : Int32)] [] 64 rfl
  have G23 := gd X23 hx hby
  have N23 := Fr.snoc X23 N14 g_o1
  have f24 := f15.other W23 (Or.inl ne_o0_o1)
  have f28 := f19.other W23 ne_w1_o1
  have Z23 := Nat.le_trans Z14 (Keep.of_wr W23).1
  have K23 : Keep h0 h23 [o1] := K14.wr W23 (Or.inl (List.mem_of_getElem? (i := 0) rfl))
  have V23 : Arv Z h23 o1 k2 .double (4 : Int32) [(.double (FP.dadd (FP.dadd m0_ m1_) m2_)), (.double m1_), (.double m2_), (.double m3_)] (.double (0 : UInt64)) := Vs23
  obtain ⟨T30, X30, e30, st30⟩ := getF X23 hx hZ hown (host := "") (Or.inl (wd hw 40 rfl)) Via.refl e23 f24 (g := (mkF m 57 #[rv o0, rv o1, iv (1 : Int32)] [(.ref o0), (.ref o1), (.int (1 : Int32)), (.ref o1)])) rfl rfl (hb hby d5_57)
  have G30 := gd X30 hx hby
  obtain ⟨T31, h31, X31, e31, W31, Vs31, st31⟩ := own_stD X30 hx hby hZ e30 V23 (j := (1 : Int32)) (v := (FP.dadd (FP.dadd m0_ m1_) m2_)) d5_63 ⟨by decide, by decide⟩ 1 rfl (Nat.le_of_ble_eq_true rfl) #[rv o0, rv o1, iv (1 : Int32)] [] 64 rfl
  have G31 := gd X31 hx hby
  have N31 := Fr.snoc X31 N23 g_o1
  have f32 := f24.other W31 (Or.inl ne_o0_o1)
  have f36 := f28.other W31 ne_w1_o1
  have Z31 := Nat.le_trans Z23 (Keep.of_wr W31).1
  have K31 : Keep h0 h31 [o1] := K23.wr W31 (Or.inl (List.mem_of_getElem? (i := 0) rfl))
  have V31 : Arv Z h31 o1 k2 .double (4 : Int32) [(.double (FP.dadd (FP.dadd m0_ m1_) m2_)), (.double (FP.dadd (FP.dadd m0_ m1_) m2_)), (.double m2_), (.double m3_)] (.double (0 : UInt64)) := Vs31
  obtain ⟨T38, X38, e38, st38⟩ := getF X31 hx hZ hown (host := "") (Or.inl (wd hw 40 rfl)) Via.refl e31 f32 (g := (mkF m 57 #[rv o0, rv o1, iv (2 : Int32)] [(.ref o0), (.ref o1), (.int (2 : Int32)), (.ref o1)])) rfl rfl (hb hby d5_57)
  have G38 := gd X38 hx hby
  obtain ⟨T39, h39, X39, e39, W39, Vs39, st39⟩ := own_stD X38 hx hby hZ e38 V31 (j := (2 : Int32)) (v := (FP.dadd (FP.dadd m0_ m1_) m2_)) d5_63 ⟨by decide, by decide⟩ 2 rfl (Nat.le_of_ble_eq_true rfl) #[rv o0, rv o1, iv (2 : Int32)] [] 64 rfl
  have G39 := gd X39 hx hby
  have N39 := Fr.snoc X39 N31 g_o1
  have f40 := f32.other W39 (Or.inl ne_o0_o1)
  have f44 := f36.other W39 ne_w1_o1
  have Z39 := Nat.le_trans Z31 (Keep.of_wr W39).1
  have K39 : Keep h0 h39 [o1] := K31.wr W39 (Or.inl (List.mem_of_getElem? (i := 0) rfl))
  have V39 : Arv Z h39 o1 k2 .double (4 : Int32) [(.double (FP.dadd (FP.dadd m0_ m1_) m2_)), (.double (FP.dadd (FP.dadd m0_ m1_) m2_)), (.double (FP.dadd (FP.dadd m0_ m1_) m2_)), (.double m3_)] (.double (0 : UInt64)) := Vs39
  obtain ⟨T46, X46, e46, st46⟩ := getF X39 hx hZ hown (host := "") (Or.inl (wd hw 40 rfl)) Via.refl e39 f40 (g := (mkF m 57 #[rv o0, rv o1, iv (3 : Int32)] [(.ref o0), (.ref o1), (.int (3 : Int32)), (.ref o1)])) rfl rfl (hb hby d5_57)
  have G46 := gd X46 hx hby
  obtain ⟨T47, h47, X47, e47, W47, Vs47, st47⟩ := own_stD X46 hx hby hZ e46 V39 (j := (3 : Int32)) (v := m3_) d5_63 ⟨by decide, by decide⟩ 3 rfl (Nat.le_of_ble_eq_true rfl) #[rv o0, rv o1, iv (3 : Int32)] [] 64 rfl
  have G47 := gd X47 hx hby
  have N47 := Fr.snoc X47 N39 g_o1
  have f48 := f40.other W47 (Or.inl ne_o0_o1)
  have f52 := f44.other W47 ne_w1_o1
  have Z47 := Nat.le_trans Z39 (Keep.of_wr W47).1
  have K47 : Keep h0 h47 [o1] := K39.wr W47 (Or.inl (List.mem_of_getElem? (i := 0) rfl))
  have V47 : Arv Z h47 o1 k2 .double (4 : Int32) [(.double (FP.dadd (FP.dadd m0_ m1_) m2_)), (.double (FP.dadd (FP.dadd m0_ m1_) m2_)), (.double (FP.dadd (FP.dadd m0_ m1_) m2_)), (.double m3_)] (.double (0 : UInt64)) := Vs47
  obtain ⟨fs, hr, hrun, hended, hW, hsame⟩ := X47.leave (v := none) (fun _ => rfl)
  refine ⟨_, _, pre0 _ ?_, hrun, hended, _, _, rfl, ?_, ⟨_, rfl⟩, hW, hsame.mono (by decide) (by decide)⟩
  · show Steps p.tables e below (s₁.setTop (mkF m 0 #[rv o0, rv o1, .unset] [])) _
    refine maloadN 1 G0 d5_0 rfl rfl rfl ?_
    refine st1 _ ?_
    show Steps p.tables e below (T1.setTop (mkF m 4 #[rv o0, rv o1, .unset] [(.ref w1)])) _
    refine XS.ifnullNo X1.here hx rfl (hb hby d5_4) rfl ?_
    show Steps p.tables e below (T1.setTop (mkF m 7 #[rv o0, rv o1, .unset] [])) _
    refine miconst 8 G1 d5_7 (v := (0 : Int32)) rfl rfl ?_
    refine mistoreN 9 G1 d5_8 #[rv o0, rv o1, iv (0 : Int32)] rfl rfl ?_
    refine miloadN 10 G1 d5_9 rfl rfl ?_
    refine maloadN 11 G1 d5_10 rfl rfl rfl ?_
    refine mlen 12 X1 hx hby hZ e1 V_o1 d5_11 rfl ?_
    refine micmpNo 15 G1 d5_12 (tlt (by decide : (0 : Int32) < (4 : Int32))).2.1 rfl ?_
    refine maloadN 16 G1 d5_15 rfl rfl rfl ?_
    refine st2 _ ?_
    show Steps p.tables e below (T2.setTop (mkF m 19 #[rv o0, rv o1, iv (0 : Int32)] [(.ref w1)])) _
    refine miloadN 20 G2 d5_19 rfl rfl ?_
    refine miaload 21 X2 hx hby hZ e2 V_w1 (v := (0 : Int32)) d5_20 ⟨by decide, by decide⟩ rfl rfl ?_
    refine miloadN 22 G2 d5_21 rfl rfl ?_
    refine micmpYes 39 G2 d5_22 (teq (by decide : (0 : Int32) = (0 : Int32))).1 (by decide) rfl ?_
    refine miinc 42 G2 d5_39 rfl #[rv o0, rv o1, iv (1 : Int32)] rfl rfl ?_
    refine mgoto 9 G2 d5_42 (by decide) rfl ?_
    refine miloadN 10 G2 d5_9 rfl rfl ?_
    refine maloadN 11 G2 d5_10 rfl rfl rfl ?_
    refine mlen 12 X2 hx hby hZ e2 V_o1 d5_11 rfl ?_
    refine micmpNo 15 G2 d5_12 (tlt (by decide : (1 : Int32) < (4 : Int32))).2.1 rfl ?_
    refine maloadN 16 G2 d5_15 rfl rfl rfl ?_
    refine st3 _ ?_
    show Steps p.tables e below (T3.setTop (mkF m 19 #[rv o0, rv o1, iv (1 : Int32)] [(.ref w1)])) _
    refine miloadN 20 G3 d5_19 rfl rfl ?_
    refine miaload 21 X3 hx hby hZ e3 V_w1 (v := (0 : Int32)) d5_20 ⟨by decide, by decide⟩ rfl rfl ?_
    refine miloadN 22 G3 d5_21 rfl rfl ?_
    refine micmpNo 25 G3 d5_22 (feq (by decide : ¬ ((0 : Int32) = (1 : Int32)))).1 rfl ?_
    refine maloadN 26 G3 d5_25 rfl rfl rfl ?_
    refine maloadN 27 G3 d5_26 rfl rfl rfl ?_
    refine st4 _ ?_
    show Steps p.tables e below (T4.setTop (mkF m 30 #[rv o0, rv o1, iv (1 : Int32)] [(.ref w1), (.ref o1)])) _
    refine miloadN 31 G4 d5_30 rfl rfl ?_
    refine miaload 32 X4 hx hby hZ e4 V_w1 (v := (0 : Int32)) d5_31 ⟨by decide, by decide⟩ rfl rfl ?_
    refine mdup2 33 G4 d5_32 rfl rfl rfl ?_
    refine mdaload 34 X4 hx hby hZ e4 V_o1 (v := m0_) d5_33 ⟨by decide, by decide⟩ rfl rfl ?_
    refine maloadN 35 G4 d5_34 rfl rfl rfl ?_
    refine miloadN 36 G4 d5_35 rfl rfl ?_
    refine mdaload 37 X4 hx hby hZ e4 V_o1 (v := m1_) d5_36 ⟨by decide, by decide⟩ rfl rfl ?_
    refine mdadd 38 G4 d5_37 (own_rm5_003_hn37 o0 o1 m0_ m1_ m2_ m3_ w1 k1 k2 hm) rfl ?_
    refine st5 _ ?_
    refine miinc 42 G5 d5_39 rfl #[rv o0, rv o1, iv (2 : Int32)] rfl rfl ?_
    refine mgoto 9 G5 d5_42 (by decide) rfl ?_
    refine miloadN 10 G5 d5_9 rfl rfl ?_
    refine maloadN 11 G5 d5_10 rfl rfl rfl ?_
    refine mlen 12 X5 hx hby hZ e5 V5 d5_11 rfl ?_
    refine micmpNo 15 G5 d5_12 (tlt (by decide : (2 : Int32) < (4 : Int32))).2.1 rfl ?_
    refine maloadN 16 G5 d5_15 rfl rfl rfl ?_
    refine st12 _ ?_
    show Steps p.tables e below (T12.setTop (mkF m 19 #[rv o0, rv o1, iv (2 : Int32)] [(.ref w1)])) _
    refine miloadN 20 G12 d5_19 rfl rfl ?_
    refine miaload 21 X12 hx hby hZ e12 f10 (v := (0 : Int32)) d5_20 ⟨by decide, by decide⟩ rfl rfl ?_
    refine miloadN 22 G12 d5_21 rfl rfl ?_
    refine micmpNo 25 G12 d5_22 (feq (by decide : ¬ ((0 : Int32) = (2 : Int32)))).1 rfl ?_
    refine maloadN 26 G12 d5_25 rfl rfl rfl ?_
    refine maloadN 27 G12 d5_26 rfl rfl rfl ?_
    refine st13 _ ?_
    show Steps p.tables e below (T13.setTop (mkF m 30 #[rv o0, rv o1, iv (2 : Int32)] [(.ref w1), (.ref o1)])) _
    refine miloadN 31 G13 d5_30 rfl rfl ?_
    refine miaload 32 X13 hx hby hZ e13 f10 (v := (0 : Int32)) d5_31 ⟨by decide, by decide⟩ rfl rfl ?_
    refine mdup2 33 G13 d5_32 rfl rfl rfl ?_
    refine mdaload 34 X13 hx hby hZ e13 V5 (v := (FP.dadd m0_ m1_)) d5_33 ⟨by decide, by decide⟩ rfl rfl ?_
    refine maloadN 35 G13 d5_34 rfl rfl rfl ?_
    refine miloadN 36 G13 d5_35 rfl rfl ?_
    refine mdaload 37 X13 hx hby hZ e13 V5 (v := m2_) d5_36 ⟨by decide, by decide⟩ rfl rfl ?_
    refine mdadd 38 G13 d5_37 (own_rm5_003_hn37_1 o0 o1 m0_ m1_ m2_ m3_ w1 k1 k2 hm) rfl ?_
    refine st14 _ ?_
    refine miinc 42 G14 d5_39 rfl #[rv o0, rv o1, iv (3 : Int32)] rfl rfl ?_
    refine mgoto 9 G14 d5_42 (by decide) rfl ?_
    refine miloadN 10 G14 d5_9 rfl rfl ?_
    refine maloadN 11 G14 d5_10 rfl rfl rfl ?_
    refine mlen 12 X14 hx hby hZ e14 V14 d5_11 rfl ?_
    refine micmpNo 15 G14 d5_12 (tlt (by decide : (3 : Int32) < (4 : Int32))).2.1 rfl ?_
    refine maloadN 16 G14 d5_15 rfl rfl rfl ?_
    refine st21 _ ?_
    show Steps p.tables e below (T21.setTop (mkF m 19 #[rv o0, rv o1, iv (3 : Int32)] [(.ref w1)])) _
    refine miloadN 20 G21 d5_19 rfl rfl ?_
    refine miaload 21 X21 hx hby hZ e21 f19 (v := (3 : Int32)) d5_20 ⟨by decide, by decide⟩ rfl rfl ?_
    refine miloadN 22 G21 d5_21 rfl rfl ?_
    refine micmpYes 39 G21 d5_22 (teq (by decide : (3 : Int32) = (3 : Int32))).1 (by decide) rfl ?_
    refine miinc 42 G21 d5_39 rfl #[rv o0, rv o1, iv (4 : Int32)] rfl rfl ?_
    refine mgoto 9 G21 d5_42 (by decide) rfl ?_
    refine miloadN 10 G21 d5_9 rfl rfl ?_
    refine maloadN 11 G21 d5_10 rfl rfl rfl ?_
    refine mlen 12 X21 hx hby hZ e21 V14 d5_11 rfl ?_
    refine micmpYes 45 G21 d5_12 (flt (by decide : ¬ ((4 : Int32) < (4 : Int32)))).2.1 (by decide) rfl ?_
    refine miconst 46 G21 d5_45 (v := (0 : Int32)) rfl rfl ?_
    refine mistoreN 47 G21 d5_46 #[rv o0, rv o1, iv (0 : Int32)] rfl rfl ?_
    refine miloadN 48 G21 d5_47 rfl rfl ?_
    refine maloadN 49 G21 d5_48 rfl rfl rfl ?_
    refine mlen 50 X21 hx hby hZ e21 V14 d5_49 rfl ?_
    refine micmpNo 53 G21 d5_50 (tlt (by decide : (0 : Int32) < (4 : Int32))).2.1 rfl ?_
    refine maloadN 54 G21 d5_53 rfl rfl rfl ?_
    refine miloadN 55 G21 d5_54 rfl rfl ?_
    refine maloadN 56 G21 d5_55 rfl rfl rfl ?_
    refine maloadN 57 G21 d5_56 rfl rfl rfl ?_
    refine st22 _ ?_
    show Steps p.tables e below (T22.setTop (mkF m 60 #[rv o0, rv o1, iv (0 : Int32)] [(.ref w1), (.ref o1), (.int (0 : Int32)), (.ref o1)])) _
    refine miloadN 61 G22 d5_60 rfl rfl ?_
    refine miaload 62 X22 hx hby hZ e22 f19 (v := (0 : Int32)) d5_61 ⟨by decide, by decide⟩ rfl rfl ?_
    refine mdaload 63 X22 hx hby hZ e22 V14 (v := (FP.dadd (FP.dadd m0_ m1_) m2_)) d5_62 ⟨by decide, by decide⟩ rfl rfl ?_
    refine st23 _ ?_
    refine miinc 67 G23 d5_64 rfl #[rv o0, rv o1, iv (1 : Int32)] rfl rfl ?_
    refine mgoto 47 G23 d5_67 (by decide) rfl ?_
    refine miloadN 48 G23 d5_47 rfl rfl ?_
    refine maloadN 49 G23 d5_48 rfl rfl rfl ?_
    refine mlen 50 X23 hx hby hZ e23 V23 d5_49 rfl ?_
    refine micmpNo 53 G23 d5_50 (tlt (by decide : (1 : Int32) < (4 : Int32))).2.1 rfl ?_
    refine maloadN 54 G23 d5_53 rfl rfl rfl ?_
    refine miloadN 55 G23 d5_54 rfl rfl ?_
    refine maloadN 56 G23 d5_55 rfl rfl rfl ?_
    refine maloadN 57 G23 d5_56 rfl rfl rfl ?_
    refine st30 _ ?_
    show Steps p.tables e below (T30.setTop (mkF m 60 #[rv o0, rv o1, iv (1 : Int32)] [(.ref w1), (.ref o1), (.int (1 : Int32)), (.ref o1)])) _
    refine miloadN 61 G30 d5_60 rfl rfl ?_
    refine miaload 62 X30 hx hby hZ e30 f28 (v := (0 : Int32)) d5_61 ⟨by decide, by decide⟩ rfl rfl ?_
    refine mdaload 63 X30 hx hby hZ e30 V23 (v := (FP.dadd (FP.dadd m0_ m1_) m2_)) d5_62 ⟨by decide, by decide⟩ rfl rfl ?_
    refine st31 _ ?_
    refine miinc 67 G31 d5_64 rfl #[rv o0, rv o1, iv (2 : Int32)] rfl rfl ?_
    refine mgoto 47 G31 d5_67 (by decide) rfl ?_
    refine miloadN 48 G31 d5_47 rfl rfl ?_
    refine maloadN 49 G31 d5_48 rfl rfl rfl ?_
    refine mlen 50 X31 hx hby hZ e31 V31 d5_49 rfl ?_
    refine micmpNo 53 G31 d5_50 (tlt (by decide : (2 : Int32) < (4 : Int32))).2.1 rfl ?_
    refine maloadN 54 G31 d5_53 rfl rfl rfl ?_
    refine miloadN 55 G31 d5_54 rfl rfl ?_
    refine maloadN 56 G31 d5_55 rfl rfl rfl ?_
    refine maloadN 57 G31 d5_56 rfl rfl rfl ?_
    refine st38 _ ?_
    show Steps p.tables e below (T38.setTop (mkF m 60 #[rv o0, rv o1, iv (2 : Int32)] [(.ref w1), (.ref o1), (.int (2 : Int32)), (.ref o1)])) _
    refine miloadN 61 G38 d5_60 rfl rfl ?_
    refine miaload 62 X38 hx hby hZ e38 f36 (v := (0 : Int32)) d5_61 ⟨by decide, by decide⟩ rfl rfl ?_
    refine mdaload 63 X38 hx hby hZ e38 V31 (v := (FP.dadd (FP.dadd m0_ m1_) m2_)) d5_62 ⟨by decide, by decide⟩ rfl rfl ?_
    refine st39 _ ?_
    refine miinc 67 G39 d5_64 rfl #[rv o0, rv o1, iv (3 : Int32)] rfl rfl ?_
    refine mgoto 47 G39 d5_67 (by decide) rfl ?_
    refine miloadN 48 G39 d5_47 rfl rfl ?_
    refine maloadN 49 G39 d5_48 rfl rfl rfl ?_
    refine mlen 50 X39 hx hby hZ e39 V39 d5_49 rfl ?_
    refine micmpNo 53 G39 d5_50 (tlt (by decide : (3 : Int32) < (4 : Int32))).2.1 rfl ?_
    refine maloadN 54 G39 d5_53 rfl rfl rfl ?_
    refine miloadN 55 G39 d5_54 rfl rfl ?_
    refine maloadN 56 G39 d5_55 rfl rfl rfl ?_
    refine maloadN 57 G39 d5_56 rfl rfl rfl ?_
    refine st46 _ ?_
    show Steps p.tables e below (T46.setTop (mkF m 60 #[rv o0, rv o1, iv (3 : Int32)] [(.ref w1), (.ref o1), (.int (3 : Int32)), (.ref o1)])) _
    refine miloadN 61 G46 d5_60 rfl rfl ?_
    refine miaload 62 X46 hx hby hZ e46 f44 (v := (3 : Int32)) d5_61 ⟨by decide, by decide⟩ rfl rfl ?_
    refine mdaload 63 X46 hx hby hZ e46 V39 (v := m3_) d5_62 ⟨by decide, by decide⟩ rfl rfl ?_
    refine st47 _ ?_
    refine miinc 67 G47 d5_64 rfl #[rv o0, rv o1, iv (4 : Int32)] rfl rfl ?_
    refine mgoto 47 G47 d5_67 (by decide) rfl ?_
    refine miloadN 48 G47 d5_47 rfl rfl ?_
    refine maloadN 49 G47 d5_48 rfl rfl rfl ?_
    refine mlen 50 X47 hx hby hZ e47 V47 d5_49 rfl ?_
    refine micmpYes 70 G47 d5_50 (flt (by decide : ¬ ((4 : Int32) < (4 : Int32)))).2.1 (by decide) rfl ?_
    exact X47.returnOut hx Bd.returns (hb hby d5_70) hr
  · show Q5_003 Z o0 o1 m0_ m1_ m2_ m3_ w1 k1 k2 h0 n0 _ T47.heap _
    rw [e47]
    exact ⟨rfl, N47, K47, V47⟩
theorem ef5_020 (m : MethodId) (o0 : Addr) (o1 : Addr) : entryFrame m #[(.ref o0), (.ref o1)] 3 = mkF m 0 #[rv o0, rv o1, .unset] [] := by first | (simp [entryFrame, mkF, argsToLocals, Value.category]; done) | rfl
abbrev room_of_5_020 : Room := { frames := 0, cells := 0, slots := 0, locals := 0 }
def Q5_020 (Z : State) (o0 : Addr) (o1 : Addr) (m0_ : UInt64) (m1_ : UInt64) (m2_ : UInt64) (m3_ : UInt64) (w1 : Addr) (k1 : ClassId) (k2 : ClassId) (h0 : Heap) (n0 : Nat) (v : Option Value) (h : Heap) (L : List Loc) : Prop := v = none ∧ Fr n0 L ∧ Keep h0 h [o1] ∧ Arv Z h o1 k2 .double (4 : Int32) [(.double (FP.dadd (FP.dadd m0_ m1_) m3_)), (.double (FP.dadd (FP.dadd m0_ m1_) m3_)), (.double m2_), (.double (FP.dadd (FP.dadd m0_ m1_) m3_))] (.double (0 : UInt64))
theorem own_rm5_020_hn37 (o0 : Addr) (o1 : Addr) (m0_ : UInt64) (m1_ : UInt64) (m2_ : UInt64) (m3_ : UInt64) (w1 : Addr) (k1 : ClassId) (k2 : ClassId) (hm : own_fin4 m0_ m1_ m2_ m3_) : Jvm.Free.Fl.NoNaN64 (FP.dadd m0_ m1_) := (Jvm.Free.Fl.dadd_out hm.1.noNaN hm.2.1)
theorem own_rm5_020_hn37_1 (o0 : Addr) (o1 : Addr) (m0_ : UInt64) (m1_ : UInt64) (m2_ : UInt64) (m3_ : UInt64) (w1 : Addr) (k1 : ClassId) (k2 : ClassId) (hm : own_fin4 m0_ m1_ m2_ m3_) : Jvm.Free.Fl.NoNaN64 (FP.dadd (FP.dadd m0_ m1_) m3_) := (Jvm.Free.Fl.dadd_out (Jvm.Free.Fl.dadd_out hm.1.noNaN hm.2.1) hm.2.2.2)
set_option maxRecDepth 65536 in
set_option maxHeartbeats 40000000 in
theorem rm5_020 (l : Launch) (Z : State) (a0 : Array Value) (hw : ∀ d ∈ tables_1, d.before a0 Z = true) (ws : List Jvm.Cond) (o0 : Addr) (o1 : Addr) {m0_ : UInt64} {m1_ : UInt64} {m2_ : UInt64} {m3_ : UInt64} {w1 : Addr} {k1 : ClassId} {k2 : ClassId} (h0 : Heap) (n0 : Nat) (Z0 : n0 ≤ h0.size) (hm : own_fin4 m0_ m1_ m2_ m3_) (F_groups_o0 : Fld Z h0 o0 "com/example/oceanus/oceanus/numerics/Tolerances" "groups" "[I" (.ref w1)) (ne_o0_o1 : o0 ≠ o1) (ne_w1_o1 : w1 ≠ o1) (g_o1 : n0 ≤ o1) (V_w1 : Arv Z h0 w1 k1 .int (4 : Int32) [(.int (0 : Int32)), (.int (0 : Int32)), (.int (2 : Int32)), (.int (0 : Int32))] (.int (0 : Int32))) (V_o1 : Arv Z h0 o1 k2 .double (4 : Int32) [(.double m0_), (.double m1_), (.double m2_), (.double m3_)] (.double (0 : UInt64))) :
    MetFree l (⟨"com/example/oceanus/oceanus/numerics/Tolerances", "group", "([D)V"⟩ : MethodName) (head1 (Jvm.Cond.code (⟨"com/example/oceanus/oceanus/numerics/Tolerances", "group", "([D)V"⟩ : MethodName) prog_115_method_4_code 3 none :: ws) (room_of_5_020)) (fun a U => a = #[(.ref o0), (.ref o1)] ∧ Z.Warmed39 U.vm ∧ U.heap = h0) (fun _ _ _ _ _ => True) (fun _ U o U' => ∃ v L, o = .returned v ∧ Q5_020 Z o0 o1 m0_ m1_ m2_ m3_ w1 k1 k2 h0 n0 v U'.heap L ∧ FrameEnd U o U' L (room_of_5_020).cells (room_of_5_020).slots) := by
  refine MetFree.of_bodySF (plainFor_of_name pn_5) hisR ?_
  intro p e s m args below meth c s₁ Bd hml0 hP hK
  obtain ⟨rfl, hZ, hh⟩ := hP
  have hx := Bd.exec
  have hby := Bd.bytes
  have hml : c.maxLocals = 3 := hml0
  have hown : s.vm.findClass "com/example/oceanus/oceanus/numerics/Tolerances" = some m.cls := findClass_of_methodNamed Bd.named
  have hnm := (name_of_methodNamed Bd.named Bd.method).1
  have X0 : Stand p l e (room_of_5_020) s m #[(.ref o0), (.ref o1)] below meth c s₁ [] 0 0 := Stand.of_body Bd
  have e0 : s₁.heap = h0 := by rw [← hh, Bd.state]; rfl
  have N0 := Fr.nil n0
  have G0 := gd X0 hx hby
  have pre0 : ∀ t, Steps p.tables e below (s₁.setTop (mkF m 0 #[rv o0, rv o1, .unset] [])) t → Steps p.tables e below (s₁.setTop (entryFrame m #[(.ref o0), (.ref o1)] 3)) t := fun t k => castTop (ef5_020 m o0 o1) k
  obtain ⟨T1, X1, e1, st1⟩ := getF X0 hx hZ hown (host := "") (Or.inl (wd hw 40 rfl)) Via.refl e0 F_groups_o0 (g := (mkF m 1 #[rv o0, rv o1, .unset] [(.ref o0)])) rfl rfl (hb hby d5_1)
  have G1 := gd X1 hx hby
  obtain ⟨T2, X2, e2, st2⟩ := getF X1 hx hZ hown (host := "") (Or.inl (wd hw 40 rfl)) Via.refl e1 F_groups_o0 (g := (mkF m 16 #[rv o0, rv o1, iv (0 : Int32)] [(.ref o0)])) rfl rfl (hb hby d5_16)
  have G2 := gd X2 hx hby
  obtain ⟨T3, X3, e3, st3⟩ := getF X2 hx hZ hown (host := "") (Or.inl (wd hw 40 rfl)) Via.refl e2 F_groups_o0 (g := (mkF m 16 #[rv o0, rv o1, iv (1 : Int32)] [(.ref o0)])) rfl rfl (hb hby d5_16)
  have G3 := gd X3 hx hby
  obtain ⟨T4, X4, e4, st4⟩ := getF X3 hx hZ hown (host := "") (Or.inl (wd hw 40 rfl)) Via.refl e3 F_groups_o0 (g := (mkF m 27 #[rv o0, rv o1, iv (1 : Int32)] [(.ref o0), (.ref o1)])) rfl rfl (hb hby d5_27)
  have G4 := gd X4 hx hby
  obtain ⟨T5, h5, X5, e5, W5, Vs5, st5⟩ := own_stD X4 hx hby hZ e4 V_o1 (j := (0 : Int32)) (v := (FP.dadd m0_ m1_)) d5_38 ⟨by decide, by decide⟩ 0 rfl (Nat.le_of_ble_eq_true rfl) #[rv o0, rv o1, iv (1 : Int32)] [] 39 rfl
  have G5 := gd X5 hx hby
  have N5 := Fr.snoc X5 N0 g_o1
  have f6 := F_groups_o0.other W5 (Or.inl ne_o0_o1)
  have f10 := V_w1.other W5 ne_w1_o1
  have Z5 := Nat.le_trans Z0 (Keep.of_wr W5).1
  have K5 : Keep h0 h5 [o1] := (Keep.refl h0 [o1]).wr W5 (Or.inl (List.mem_of_getElem? (i := 0) rfl))
  have V5 : Arv Z h5 o1 k2 .double (4 : Int32) [(.double (FP.dadd m0_ m1_)), (.double m1_), (.double m2_), (.double m3_)] (.double (0 : UInt64)) := Vs5
  obtain ⟨T12, X12, e12, st12⟩ := getF X5 hx hZ hown (host := "") (Or.inl (wd hw 40 rfl)) Via.refl e5 f6 (g := (mkF m 16 #[rv o0, rv o1, iv (2 : Int32)] [(.ref o0)])) rfl rfl (hb hby d5_16)
  have G12 := gd X12 hx hby
  obtain ⟨T13, X13, e13, st13⟩ := getF X12 hx hZ hown (host := "") (Or.inl (wd hw 40 rfl)) Via.refl e12 f6 (g := (mkF m 16 #[rv o0, rv o1, iv (3 : Int32)] [(.ref o0)])) rfl rfl (hb hby d5_16)
  have G13 := gd X13 hx hby
  obtain ⟨T14, X14, e14, st14⟩ := getF X13 hx hZ hown (host := "") (Or.inl (wd hw 40 rfl)) Via.refl e13 f6 (g := (mkF m 27 #[rv o0, rv o1, iv (3 : Int32)] [(.ref o0), (.ref o1)])) rfl rfl (hb hby d5_27)
  have G14 := gd X14 hx hby
  obtain ⟨T15, h15, X15, e15, W15, Vs15, st15⟩ := own_stD X14 hx hby hZ e14 V5 (j := (0 : Int32)) (v := (FP.dadd (FP.dadd m0_ m1_) m3_)) d5_38 ⟨by decide, by decide⟩ 0 rfl (Nat.le_of_ble_eq_true rfl) #[rv o0, rv o1, iv (3 : Int32)] [] 39 rfl
  have G15 := gd X15 hx hby
  have N15 := Fr.snoc X15 N5 g_o1
  have f16 := f6.other W15 (Or.inl ne_o0_o1)
  have f20 := f10.other W15 ne_w1_o1
  have Z15 := Nat.le_trans Z5 (Keep.of_wr W15).1
  have K15 : Keep h0 h15 [o1] := K5.wr W15 (Or.inl (List.mem_of_getElem? (i := 0) rfl))
  have V15 : Arv Z h15 o1 k2 .double (4 : Int32) [(.double (FP.dadd (FP.dadd m0_ m1_) m3_)), (.double m1_), (.double m2_), (.double m3_)] (.double (0 : UInt64)) := Vs15
  obtain ⟨T22, X22, e22, st22⟩ := getF X15 hx hZ hown (host := "") (Or.inl (wd hw 40 rfl)) Via.refl e15 f16 (g := (mkF m 57 #[rv o0, rv o1, iv (0 : Int32)] [(.ref o0), (.ref o1), (.int (0 : Int32)), (.ref o1)])) rfl rfl (hb hby d5_57)
  have G22 := gd X22 hx hby
  obtain ⟨T23, h23, X23, e23, W23, Vs23, st23⟩ := own_stD X22 hx hby hZ e22 V15 (j := (0 : Int32)) (v := (FP.dadd (FP.dadd m0_ m1_) m3_)) d5_63 ⟨by decide, by decide⟩ 0 rfl (Nat.le_of_ble_eq_true rfl) #[rv o0, rv o1, iv (0 : Int32)] [] 64 rfl
  have G23 := gd X23 hx hby
  have N23 := Fr.snoc X23 N15 g_o1
  have f24 := f16.other W23 (Or.inl ne_o0_o1)
  have f28 := f20.other W23 ne_w1_o1
  have Z23 := Nat.le_trans Z15 (Keep.of_wr W23).1
  have K23 : Keep h0 h23 [o1] := K15.wr W23 (Or.inl (List.mem_of_getElem? (i := 0) rfl))
  have V23 : Arv Z h23 o1 k2 .double (4 : Int32) [(.double (FP.dadd (FP.dadd m0_ m1_) m3_)), (.double m1_), (.double m2_), (.double m3_)] (.double (0 : UInt64)) := Vs23
  obtain ⟨T30, X30, e30, st30⟩ := getF X23 hx hZ hown (host := "") (Or.inl (wd hw 40 rfl)) Via.refl e23 f24 (g := (mkF m 57 #[rv o0, rv o1, iv (1 : Int32)] [(.ref o0), (.ref o1), (.int (1 : Int32)), (.ref o1)])) rfl rfl (hb hby d5_57)
  have G30 := gd X30 hx hby
  obtain ⟨T31, h31, X31, e31, W31, Vs31, st31⟩ := own_stD X30 hx hby hZ e30 V23 (j := (1 : Int32)) (v := (FP.dadd (FP.dadd m0_ m1_) m3_)) d5_63 ⟨by decide, by decide⟩ 1 rfl (Nat.le_of_ble_eq_true rfl) #[rv o0, rv o1, iv (1 : Int32)] [] 64 rfl
  have G31 := gd X31 hx hby
  have N31 := Fr.snoc X31 N23 g_o1
  have f32 := f24.other W31 (Or.inl ne_o0_o1)
  have f36 := f28.other W31 ne_w1_o1
  have Z31 := Nat.le_trans Z23 (Keep.of_wr W31).1
  have K31 : Keep h0 h31 [o1] := K23.wr W31 (Or.inl (List.mem_of_getElem? (i := 0) rfl))
  have V31 : Arv Z h31 o1 k2 .double (4 : Int32) [(.double (FP.dadd (FP.dadd m0_ m1_) m3_)), (.double (FP.dadd (FP.dadd m0_ m1_) m3_)), (.double m2_), (.double m3_)] (.double (0 : UInt64)) := Vs31
  obtain ⟨T38, X38, e38, st38⟩ := getF X31 hx hZ hown (host := "") (Or.inl (wd hw 40 rfl)) Via.refl e31 f32 (g := (mkF m 57 #[rv o0, rv o1, iv (2 : Int32)] [(.ref o0), (.ref o1), (.int (2 : Int32)), (.ref o1)])) rfl rfl (hb hby d5_57)
  have G38 := gd X38 hx hby
  obtain ⟨T39, h39, X39, e39, W39, Vs39, st39⟩ := own_stD X38 hx hby hZ e38 V31 (j := (2 : Int32)) (v := m2_) d5_63 ⟨by decide, by decide⟩ 2 rfl (Nat.le_of_ble_eq_true rfl) #[rv o0, rv o1, iv (2 : Int32)] [] 64 rfl
  have G39 := gd X39 hx hby
  have N39 := Fr.snoc X39 N31 g_o1
  have f40 := f32.other W39 (Or.inl ne_o0_o1)
  have f44 := f36.other W39 ne_w1_o1
  have Z39 := Nat.le_trans Z31 (Keep.of_wr W39).1
  have K39 : Keep h0 h39 [o1] := K31.wr W39 (Or.inl (List.mem_of_getElem? (i := 0) rfl))
  have V39 : Arv Z h39 o1 k2 .double (4 : Int32) [(.double (FP.dadd (FP.dadd m0_ m1_) m3_)), (.double (FP.dadd (FP.dadd m0_ m1_) m3_)), (.double m2_), (.double m3_)] (.double (0 : UInt64)) := Vs39
  obtain ⟨T46, X46, e46, st46⟩ := getF X39 hx hZ hown (host := "") (Or.inl (wd hw 40 rfl)) Via.refl e39 f40 (g := (mkF m 57 #[rv o0, rv o1, iv (3 : Int32)] [(.ref o0), (.ref o1), (.int (3 : Int32)), (.ref o1)])) rfl rfl (hb hby d5_57)
  have G46 := gd X46 hx hby
  obtain ⟨T47, h47, X47, e47, W47, Vs47, st47⟩ := own_stD X46 hx hby hZ e46 V39 (j := (3 : Int32)) (v := (FP.dadd (FP.dadd m0_ m1_) m3_)) d5_63 ⟨by decide, by decide⟩ 3 rfl (Nat.le_of_ble_eq_true rfl) #[rv o0, rv o1, iv (3 : Int32)] [] 64 rfl
  have G47 := gd X47 hx hby
  have N47 := Fr.snoc X47 N39 g_o1
  have f48 := f40.other W47 (Or.inl ne_o0_o1)
  have f52 := f44.other W47 ne_w1_o1
  have Z47 := Nat.le_trans Z39 (Keep.of_wr W47).1
  have K47 : Keep h0 h47 [o1] := K39.wr W47 (Or.inl (List.mem_of_getElem? (i := 0) rfl))
  have V47 : Arv Z h47 o1 k2 .double (4 : Int32) [(.double (FP.dadd (FP.dadd m0_ m1_) m3_)), (.double (FP.dadd (FP.dadd m0_ m1_) m3_)), (.double m2_), (.double (FP.dadd (FP.dadd m0_ m1_) m3_))] (.double (0 : UInt64)) := Vs47
  obtain ⟨fs, hr, hrun, hended, hW, hsame⟩ := X47.leave (v := none) (fun _ => rfl)
  refine ⟨_, _, pre0 _ ?_, hrun, hended, _, _, rfl, ?_, ⟨_, rfl⟩, hW, hsame.mono (by decide) (by decide)⟩
  · show Steps p.tables e below (s₁.setTop (mkF m 0 #[rv o0, rv o1, .unset] [])) _
    refine maloadN 1 G0 d5_0 rfl rfl rfl ?_
    refine st1 _ ?_
    show Steps p.tables e below (T1.setTop (mkF m 4 #[rv o0, rv o1, .unset] [(.ref w1)])) _
    refine XS.ifnullNo X1.here hx rfl (hb hby d5_4) rfl ?_
    show Steps p.tables e below (T1.setTop (mkF m 7 #[rv o0, rv o1, .unset] [])) _
    refine miconst 8 G1 d5_7 (v := (0 : Int32)) rfl rfl ?_
    refine mistoreN 9 G1 d5_8 #[rv o0, rv o1, iv (0 : Int32)] rfl rfl ?_
    refine miloadN 10 G1 d5_9 rfl rfl ?_
    refine maloadN 11 G1 d5_10 rfl rfl rfl ?_
    refine mlen 12 X1 hx hby hZ e1 V_o1 d5_11 rfl ?_
    refine micmpNo 15 G1 d5_12 (tlt (by decide : (0 : Int32) < (4 : Int32))).2.1 rfl ?_
    refine maloadN 16 G1 d5_15 rfl rfl rfl ?_
    refine st2 _ ?_
    show Steps p.tables e below (T2.setTop (mkF m 19 #[rv o0, rv o1, iv (0 : Int32)] [(.ref w1)])) _
    refine miloadN 20 G2 d5_19 rfl rfl ?_
    refine miaload 21 X2 hx hby hZ e2 V_w1 (v := (0 : Int32)) d5_20 ⟨by decide, by decide⟩ rfl rfl ?_
    refine miloadN 22 G2 d5_21 rfl rfl ?_
    refine micmpYes 39 G2 d5_22 (teq (by decide : (0 : Int32) = (0 : Int32))).1 (by decide) rfl ?_
    refine miinc 42 G2 d5_39 rfl #[rv o0, rv o1, iv (1 : Int32)] rfl rfl ?_
    refine mgoto 9 G2 d5_42 (by decide) rfl ?_
    refine miloadN 10 G2 d5_9 rfl rfl ?_
    refine maloadN 11 G2 d5_10 rfl rfl rfl ?_
    refine mlen 12 X2 hx hby hZ e2 V_o1 d5_11 rfl ?_
    refine micmpNo 15 G2 d5_12 (tlt (by decide : (1 : Int32) < (4 : Int32))).2.1 rfl ?_
    refine maloadN 16 G2 d5_15 rfl rfl rfl ?_
    refine st3 _ ?_
    show Steps p.tables e below (T3.setTop (mkF m 19 #[rv o0, rv o1, iv (1 : Int32)] [(.ref w1)])) _
    refine miloadN 20 G3 d5_19 rfl rfl ?_
    refine miaload 21 X3 hx hby hZ e3 V_w1 (v := (0 : Int32)) d5_20 ⟨by decide, by decide⟩ rfl rfl ?_
    refine miloadN 22 G3 d5_21 rfl rfl ?_
    refine micmpNo 25 G3 d5_22 (feq (by decide : ¬ ((0 : Int32) = (1 : Int32)))).1 rfl ?_
    refine maloadN 26 G3 d5_25 rfl rfl rfl ?_
    refine maloadN 27 G3 d5_26 rfl rfl rfl ?_
    refine st4 _ ?_
    show Steps p.tables e below (T4.setTop (mkF m 30 #[rv o0, rv o1, iv (1 : Int32)] [(.ref w1), (.ref o1)])) _
    refine miloadN 31 G4 d5_30 rfl rfl ?_
    refine miaload 32 X4 hx hby hZ e4 V_w1 (v := (0 : Int32)) d5_31 ⟨by decide, by decide⟩ rfl rfl ?_
    refine mdup2 33 G4 d5_32 rfl rfl rfl ?_
    refine mdaload 34 X4 hx hby hZ e4 V_o1 (v := m0_) d5_33 ⟨by decide, by decide⟩ rfl rfl ?_
    refine maloadN 35 G4 d5_34 rfl rfl rfl ?_
    refine miloadN 36 G4 d5_35 rfl rfl ?_
    refine mdaload 37 X4 hx hby hZ e4 V_o1 (v := m1_) d5_36 ⟨by decide, by decide⟩ rfl rfl ?_
    refine mdadd 38 G4 d5_37 (own_rm5_020_hn37 o0 o1 m0_ m1_ m2_ m3_ w1 k1 k2 hm) rfl ?_
    refine st5 _ ?_
    refine miinc 42 G5 d5_39 rfl #[rv o0, rv o1, iv (2 : Int32)] rfl rfl ?_
    refine mgoto 9 G5 d5_42 (by decide) rfl ?_
    refine miloadN 10 G5 d5_9 rfl rfl ?_
    refine maloadN 11 G5 d5_10 rfl rfl rfl ?_
    refine mlen 12 X5 hx hby hZ e5 V5 d5_11 rfl ?_
    refine micmpNo 15 G5 d5_12 (tlt (by decide : (2 : Int32) < (4 : Int32))).2.1 rfl ?_
    refine maloadN 16 G5 d5_15 rfl rfl rfl ?_
    refine st12 _ ?_
    show Steps p.tables e below (T12.setTop (mkF m 19 #[rv o0, rv o1, iv (2 : Int32)] [(.ref w1)])) _
    refine miloadN 20 G12 d5_19 rfl rfl ?_
    refine miaload 21 X12 hx hby hZ e12 f10 (v := (2 : Int32)) d5_20 ⟨by decide, by decide⟩ rfl rfl ?_
    refine miloadN 22 G12 d5_21 rfl rfl ?_
    refine micmpYes 39 G12 d5_22 (teq (by decide : (2 : Int32) = (2 : Int32))).1 (by decide) rfl ?_
    refine miinc 42 G12 d5_39 rfl #[rv o0, rv o1, iv (3 : Int32)] rfl rfl ?_
    refine mgoto 9 G12 d5_42 (by decide) rfl ?_
    refine miloadN 10 G12 d5_9 rfl rfl ?_
    refine maloadN 11 G12 d5_10 rfl rfl rfl ?_
    refine mlen 12 X12 hx hby hZ e12 V5 d5_11 rfl ?_
    refine micmpNo 15 G12 d5_12 (tlt (by decide : (3 : Int32) < (4 : Int32))).2.1 rfl ?_
    refine maloadN 16 G12 d5_15 rfl rfl rfl ?_
    refine st13 _ ?_
    show Steps p.tables e below (T13.setTop (mkF m 19 #[rv o0, rv o1, iv (3 : Int32)] [(.ref w1)])) _
    refine miloadN 20 G13 d5_19 rfl rfl ?_
    refine miaload 21 X13 hx hby hZ e13 f10 (v := (0 : Int32)) d5_20 ⟨by decide, by decide⟩ rfl rfl ?_
    refine miloadN 22 G13 d5_21 rfl rfl ?_
    refine micmpNo 25 G13 d5_22 (feq (by decide : ¬ ((0 : Int32) = (3 : Int32)))).1 rfl ?_
    refine maloadN 26 G13 d5_25 rfl rfl rfl ?_
    refine maloadN 27 G13 d5_26 rfl rfl rfl ?_
    refine st14 _ ?_
    show Steps p.tables e below (T14.setTop (mkF m 30 #[rv o0, rv o1, iv (3 : Int32)] [(.ref w1), (.ref o1)])) _
    refine miloadN 31 G14 d5_30 rfl rfl ?_
    refine miaload 32 X14 hx hby hZ e14 f10 (v := (0 : Int32)) d5_31 ⟨by decide, by decide⟩ rfl rfl ?_
    refine mdup2 33 G14 d5_32 rfl rfl rfl ?_
    refine mdaload 34 X14 hx hby hZ e14 V5 (v := (FP.dadd m0_ m1_)) d5_33 ⟨by decide, by decide⟩ rfl rfl ?_
    refine maloadN 35 G14 d5_34 rfl rfl rfl ?_
    refine miloadN 36 G14 d5_35 rfl rfl ?_
    refine mdaload 37 X14 hx hby hZ e14 V5 (v := m3_) d5_36 ⟨by decide, by decide⟩ rfl rfl ?_
    refine mdadd 38 G14 d5_37 (own_rm5_020_hn37_1 o0 o1 m0_ m1_ m2_ m3_ w1 k1 k2 hm) rfl ?_
    refine st15 _ ?_
    refine miinc 42 G15 d5_39 rfl #[rv o0, rv o1, iv (4 : Int32)] rfl rfl ?_
    refine mgoto 9 G15 d5_42 (by decide) rfl ?_
    refine miloadN 10 G15 d5_9 rfl rfl ?_
    refine maloadN 11 G15 d5_10 rfl rfl rfl ?_
    refine mlen 12 X15 hx hby hZ e15 V15 d5_11 rfl ?_
    refine micmpYes 45 G15 d5_12 (flt (by decide : ¬ ((4 : Int32) < (4 : Int32)))).2.1 (by decide) rfl ?_
    refine miconst 46 G15 d5_45 (v := (0 : Int32)) rfl rfl ?_
    refine mistoreN 47 G15 d5_46 #[rv o0, rv o1, iv (0 : Int32)] rfl rfl ?_
    refine miloadN 48 G15 d5_47 rfl rfl ?_
    refine maloadN 49 G15 d5_48 rfl rfl rfl ?_
    refine mlen 50 X15 hx hby hZ e15 V15 d5_49 rfl ?_
    refine micmpNo 53 G15 d5_50 (tlt (by decide : (0 : Int32) < (4 : Int32))).2.1 rfl ?_
    refine maloadN 54 G15 d5_53 rfl rfl rfl ?_
    refine miloadN 55 G15 d5_54 rfl rfl ?_
    refine maloadN 56 G15 d5_55 rfl rfl rfl ?_
    refine maloadN 57 G15 d5_56 rfl rfl rfl ?_
    refine st22 _ ?_
    show Steps p.tables e below (T22.setTop (mkF m 60 #[rv o0, rv o1, iv (0 : Int32)] [(.ref w1), (.ref o1), (.int (0 : Int32)), (.ref o1)])) _
    refine miloadN 61 G22 d5_60 rfl rfl ?_
    refine miaload 62 X22 hx hby hZ e22 f20 (v := (0 : Int32)) d5_61 ⟨by decide, by decide⟩ rfl rfl ?_
    refine mdaload 63 X22 hx hby hZ e22 V15 (v := (FP.dadd (FP.dadd m0_ m1_) m3_)) d5_62 ⟨by decide, by decide⟩ rfl rfl ?_
    refine st23 _ ?_
    refine miinc 67 G23 d5_64 rfl #[rv o0, rv o1, iv (1 : Int32)] rfl rfl ?_
    refine mgoto 47 G23 d5_67 (by decide) rfl ?_
    refine miloadN 48 G23 d5_47 rfl rfl ?_
    refine maloadN 49 G23 d5_48 rfl rfl rfl ?_
    refine mlen 50 X23 hx hby hZ e23 V23 d5_49 rfl ?_
    refine micmpNo 53 G23 d5_50 (tlt (by decide : (1 : Int32) < (4 : Int32))).2.1 rfl ?_
    refine maloadN 54 G23 d5_53 rfl rfl rfl ?_
    refine miloadN 55 G23 d5_54 rfl rfl ?_
    refine maloadN 56 G23 d5_55 rfl rfl rfl ?_
    refine maloadN 57 G23 d5_56 rfl rfl rfl ?_
    refine st30 _ ?_
    show Steps p.tables e below (T30.setTop (mkF m 60 #[rv o0, rv o1, iv (1 : Int32)] [(.ref w1), (.ref o1), (.int (1 : Int32)), (.ref o1)])) _
    refine miloadN 61 G30 d5_60 rfl rfl ?_
    refine miaload 62 X30 hx hby hZ e30 f28 (v := (0 : Int32)) d5_61 ⟨by decide, by decide⟩ rfl rfl ?_
    refine mdaload 63 X30 hx hby hZ e30 V23 (v := (FP.dadd (FP.dadd m0_ m1_) m3_)) d5_62 ⟨by decide, by decide⟩ rfl rfl ?_
    refine st31 _ ?_
    refine miinc 67 G31 d5_64 rfl #[rv o0, rv o1, iv (2 : Int32)] rfl rfl ?_
    refine mgoto 47 G31 d5_67 (by decide) rfl ?_
    refine miloadN 48 G31 d5_47 rfl rfl ?_
    refine maloadN 49 G31 d5_48 rfl rfl rfl ?_
    refine mlen 50 X31 hx hby hZ e31 V31 d5_49 rfl ?_
    refine micmpNo 53 G31 d5_50 (tlt (by decide : (2 : Int32) < (4 : Int32))).2.1 rfl ?_
    refine maloadN 54 G31 d5_53 rfl rfl rfl ?_
    refine miloadN 55 G31 d5_54 rfl rfl ?_
    refine maloadN 56 G31 d5_55 rfl rfl rfl ?_
    refine maloadN 57 G31 d5_56 rfl rfl rfl ?_
    refine st38 _ ?_
    show Steps p.tables e below (T38.setTop (mkF m 60 #[rv o0, rv o1, iv (2 : Int32)] [(.ref w1), (.ref o1), (.int (2 : Int32)), (.ref o1)])) _
    refine miloadN 61 G38 d5_60 rfl rfl ?_
    refine miaload 62 X38 hx hby hZ e38 f36 (v := (2 : Int32)) d5_61 ⟨by decide, by decide⟩ rfl rfl ?_
    refine mdaload 63 X38 hx hby hZ e38 V31 (v := m2_) d5_62 ⟨by decide, by decide⟩ rfl rfl ?_
    refine st39 _ ?_
    refine miinc 67 G39 d5_64 rfl #[rv o0, rv o1, iv (3 : Int32)] rfl rfl ?_
    refine mgoto 47 G39 d5_67 (by decide) rfl ?_
    refine miloadN 48 G39 d5_47 rfl rfl ?_
    refine maloadN 49 G39 d5_48 rfl rfl rfl ?_
    refine mlen 50 X39 hx hby hZ e39 V39 d5_49 rfl ?_
    refine micmpNo 53 G39 d5_50 (tlt (by decide : (3 : Int32) < (4 : Int32))).2.1 rfl ?_
    refine maloadN 54 G39 d5_53 rfl rfl rfl ?_
    refine miloadN 55 G39 d5_54 rfl rfl ?_
    refine maloadN 56 G39 d5_55 rfl rfl rfl ?_
    refine maloadN 57 G39 d5_56 rfl rfl rfl ?_
    refine st46 _ ?_
    show Steps p.tables e below (T46.setTop (mkF m 60 #[rv o0, rv o1, iv (3 : Int32)] [(.ref w1), (.ref o1), (.int (3 : Int32)), (.ref o1)])) _
    refine miloadN 61 G46 d5_60 rfl rfl ?_
    refine miaload 62 X46 hx hby hZ e46 f44 (v := (0 : Int32)) d5_61 ⟨by decide, by decide⟩ rfl rfl ?_
    refine mdaload 63 X46 hx hby hZ e46 V39 (v := (FP.dadd (FP.dadd m0_ m1_) m3_)) d5_62 ⟨by decide, by decide⟩ rfl rfl ?_
    refine st47 _ ?_
    refine miinc 67 G47 d5_64 rfl #[rv o0, rv o1, iv (4 : Int32)] rfl rfl ?_
    refine mgoto 47 G47 d5_67 (by decide) rfl ?_
    refine miloadN 48 G47 d5_47 rfl rfl ?_
    refine maloadN 49 G47 d5_48 rfl rfl rfl ?_
    refine mlen 50 X47 hx hby hZ e47 V47 d5_49 rfl ?_
    refine micmpYes 70 G47 d5_50 (flt (by decide : ¬ ((4 : Int32) < (4 : Int32)))).2.1 (by decide) rfl ?_
    exact X47.returnOut hx Bd.returns (hb hby d5_70) hr
  · show Q5_020 Z o0 o1 m0_ m1_ m2_ m3_ w1 k1 k2 h0 n0 _ T47.heap _
    rw [e47]
    exact ⟨rfl, N47, K47, V47⟩
theorem ef5_022 (m : MethodId) (o0 : Addr) (o1 : Addr) : entryFrame m #[(.ref o0), (.ref o1)] 3 = mkF m 0 #[rv o0, rv o1, .unset] [] := by first | (simp [entryFrame, mkF, argsToLocals, Value.category]; done) | rfl
abbrev room_of_5_022 : Room := { frames := 0, cells := 0, slots := 0, locals := 0 }
def Q5_022 (Z : State) (o0 : Addr) (o1 : Addr) (m0_ : UInt64) (m1_ : UInt64) (m2_ : UInt64) (m3_ : UInt64) (w1 : Addr) (k1 : ClassId) (k2 : ClassId) (h0 : Heap) (n0 : Nat) (v : Option Value) (h : Heap) (L : List Loc) : Prop := v = none ∧ Fr n0 L ∧ Keep h0 h [o1] ∧ Arv Z h o1 k2 .double (4 : Int32) [(.double (FP.dadd m0_ m1_)), (.double (FP.dadd m0_ m1_)), (.double (FP.dadd m2_ m3_)), (.double (FP.dadd m2_ m3_))] (.double (0 : UInt64))
theorem own_rm5_022_hn37 (o0 : Addr) (o1 : Addr) (m0_ : UInt64) (m1_ : UInt64) (m2_ : UInt64) (m3_ : UInt64) (w1 : Addr) (k1 : ClassId) (k2 : ClassId) (hm : own_fin4 m0_ m1_ m2_ m3_) : Jvm.Free.Fl.NoNaN64 (FP.dadd m0_ m1_) := (Jvm.Free.Fl.dadd_out hm.1.noNaN hm.2.1)
theorem own_rm5_022_hn37_1 (o0 : Addr) (o1 : Addr) (m0_ : UInt64) (m1_ : UInt64) (m2_ : UInt64) (m3_ : UInt64) (w1 : Addr) (k1 : ClassId) (k2 : ClassId) (hm : own_fin4 m0_ m1_ m2_ m3_) : Jvm.Free.Fl.NoNaN64 (FP.dadd m2_ m3_) := (Jvm.Free.Fl.dadd_out hm.2.2.1.noNaN hm.2.2.2)
set_option maxRecDepth 65536 in
set_option maxHeartbeats 40000000 in
theorem rm5_022 (l : Launch) (Z : State) (a0 : Array Value) (hw : ∀ d ∈ tables_1, d.before a0 Z = true) (ws : List Jvm.Cond) (o0 : Addr) (o1 : Addr) {m0_ : UInt64} {m1_ : UInt64} {m2_ : UInt64} {m3_ : UInt64} {w1 : Addr} {k1 : ClassId} {k2 : ClassId} (h0 : Heap) (n0 : Nat) (Z0 : n0 ≤ h0.size) (hm : own_fin4 m0_ m1_ m2_ m3_) (F_groups_o0 : Fld Z h0 o0 "com/example/oceanus/oceanus/numerics/Tolerances" "groups" "[I" (.ref w1)) (ne_o0_o1 : o0 ≠ o1) (ne_w1_o1 : w1 ≠ o1) (g_o1 : n0 ≤ o1) (V_w1 : Arv Z h0 w1 k1 .int (4 : Int32) [(.int (0 : Int32)), (.int (0 : Int32)), (.int (2 : Int32)), (.int (2 : Int32))] (.int (0 : Int32))) (V_o1 : Arv Z h0 o1 k2 .double (4 : Int32) [(.double m0_), (.double m1_), (.double m2_), (.double m3_)] (.double (0 : UInt64))) :
    MetFree l (⟨"com/example/oceanus/oceanus/numerics/Tolerances", "group", "([D)V"⟩ : MethodName) (head1 (Jvm.Cond.code (⟨"com/example/oceanus/oceanus/numerics/Tolerances", "group", "([D)V"⟩ : MethodName) prog_115_method_4_code 3 none :: ws) (room_of_5_022)) (fun a U => a = #[(.ref o0), (.ref o1)] ∧ Z.Warmed39 U.vm ∧ U.heap = h0) (fun _ _ _ _ _ => True) (fun _ U o U' => ∃ v L, o = .returned v ∧ Q5_022 Z o0 o1 m0_ m1_ m2_ m3_ w1 k1 k2 h0 n0 v U'.heap L ∧ FrameEnd U o U' L (room_of_5_022).cells (room_of_5_022).slots) := by
  refine MetFree.of_bodySF (plainFor_of_name pn_5) hisR ?_
  intro p e s m args below meth c s₁ Bd hml0 hP hK
  obtain ⟨rfl, hZ, hh⟩ := hP
  have hx := Bd.exec
  have hby := Bd.bytes
  have hml : c.maxLocals = 3 := hml0
  have hown : s.vm.findClass "com/example/oceanus/oceanus/numerics/Tolerances" = some m.cls := findClass_of_methodNamed Bd.named
  have hnm := (name_of_methodNamed Bd.named Bd.method).1
  have X0 : Stand p l e (room_of_5_022) s m #[(.ref o0), (.ref o1)] below meth c s₁ [] 0 0 := Stand.of_body Bd
  have e0 : s₁.heap = h0 := by rw [← hh, Bd.state]; rfl
  have N0 := Fr.nil n0
  have G0 := gd X0 hx hby
  have pre0 : ∀ t, Steps p.tables e below (s₁.setTop (mkF m 0 #[rv o0, rv o1, .unset] [])) t → Steps p.tables e below (s₁.setTop (entryFrame m #[(.ref o0), (.ref o1)] 3)) t := fun t k => castTop (ef5_022 m o0 o1) k
  obtain ⟨T1, X1, e1, st1⟩ := getF X0 hx hZ hown (host := "") (Or.inl (wd hw 40 rfl)) Via.refl e0 F_groups_o0 (g := (mkF m 1 #[rv o0, rv o1, .unset] [(.ref o0)])) rfl rfl (hb hby d5_1)
  have G1 := gd X1 hx hby
  obtain ⟨T2, X2, e2, st2⟩ := getF X1 hx hZ hown (host := "") (Or.inl (wd hw 40 rfl)) Via.refl e1 F_groups_o0 (g := (mkF m 16 #[rv o0, rv o1, iv (0 : Int32)] [(.ref o0)])) rfl rfl (hb hby d5_16)
  have G2 := gd X2 hx hby
  obtain ⟨T3, X3, e3, st3⟩ := getF X2 hx hZ hown (host := "") (Or.inl (wd hw 40 rfl)) Via.refl e2 F_groups_o0 (g := (mkF m 16 #[rv o0, rv o1, iv (1 : Int32)] [(.ref o0)])) rfl rfl (hb hby d5_16)
  have G3 := gd X3 hx hby
  obtain ⟨T4, X4, e4, st4⟩ := getF X3 hx hZ hown (host := "") (Or.inl (wd hw 40 rfl)) Via.refl e3 F_groups_o0 (g := (mkF m 27 #[rv o0, rv o1, iv (1 : Int32)] [(.ref o0), (.ref o1)])) rfl rfl (hb hby d5_27)
  have G4 := gd X4 hx hby
  obtain ⟨T5, h5, X5, e5, W5, Vs5, st5⟩ := own_stD X4 hx hby hZ e4 V_o1 (j := (0 : Int32)) (v := (FP.dadd m0_ m1_)) d5_38 ⟨by decide, by decide⟩ 0 rfl (Nat.le_of_ble_eq_true rfl) #[rv o0, rv o1, iv (1 : Int32)] [] 39 rfl
  have G5 := gd X5 hx hby
  have N5 := Fr.snoc X5 N0 g_o1
  have f6 := F_groups_o0.other W5 (Or.inl ne_o0_o1)
  have f10 := V_w1.other W5 ne_w1_o1
  have Z5 := Nat.le_trans Z0 (Keep.of_wr W5).1
  have K5 : Keep h0 h5 [o1] := (Keep.refl h0 [o1]).wr W5 (Or.inl (List.mem_of_getElem? (i := 0) rfl))
  have V5 : Arv Z h5 o1 k2 .double (4 : Int32) [(.double (FP.dadd m0_ m1_)), (.double m1_), (.double m2_), (.double m3_)] (.double (0 : UInt64)) := Vs5
  obtain ⟨T12, X12, e12, st12⟩ := getF X5 hx hZ hown (host := "") (Or.inl (wd hw 40 rfl)) Via.refl e5 f6 (g := (mkF m 16 #[rv o0, rv o1, iv (2 : Int32)] [(.ref o0)])) rfl rfl (hb hby d5_16)
  have G12 := gd X12 hx hby
  obtain ⟨T13, X13, e13, st13⟩ := getF X12 hx hZ hown (host := "") (Or.inl (wd hw 40 rfl)) Via.refl e12 f6 (g := (mkF m 16 #[rv o0, rv o1, iv (3 : Int32)] [(.ref o0)])) rfl rfl (hb hby d5_16)
  have G13 := gd X13 hx hby
  obtain ⟨T14, X14, e14, st14⟩ := getF X13 hx hZ hown (host := "") (Or.inl (wd hw 40 rfl)) Via.refl e13 f6 (g := (mkF m 27 #[rv o0, rv o1, iv (3 : Int32)] [(.ref o0), (.ref o1)])) rfl rfl (hb hby d5_27)
  have G14 := gd X14 hx hby
  obtain ⟨T15, h15, X15, e15, W15, Vs15, st15⟩ := own_stD X14 hx hby hZ e14 V5 (j := (2 : Int32)) (v := (FP.dadd m2_ m3_)) d5_38 ⟨by decide, by decide⟩ 2 rfl (Nat.le_of_ble_eq_true rfl) #[rv o0, rv o1, iv (3 : Int32)] [] 39 rfl
  have G15 := gd X15 hx hby
  have N15 := Fr.snoc X15 N5 g_o1
  have f16 := f6.other W15 (Or.inl ne_o0_o1)
  have f20 := f10.other W15 ne_w1_o1
  have Z15 := Nat.le_trans Z5 (Keep.of_wr W15).1
  have K15 : Keep h0 h15 [o1] := K5.wr W15 (Or.inl (List.mem_of_getElem? (i := 0) rfl))
  have V15 : Arv Z h15 o1 k2 .double (4 : Int32) [(.double (FP.dadd m0_ m1_)), (.double m1_), (.double (FP.dadd m2_ m3_)), (.double m3_)] (.double (0 : UInt64)) := Vs15
  obtain ⟨T22, X22, e22, st22⟩ := getF X15 hx hZ hown (host := "") (Or.inl (wd hw 40 rfl)) Via.refl e15 f16 (g := (mkF m 57 #[rv o0, rv o1, iv (0 : Int32)] [(.ref o0), (.ref o1), (.int (0 : Int32)), (.ref o1)])) rfl rfl (hb hby d5_57)
  have G22 := gd X22 hx hby
  obtain ⟨T23, h23, X23, e23, W23, Vs23, st23⟩ := own_stD X22 hx hby hZ e22 V15 (j := (0 : Int32)) (v := (FP.dadd m0_ m1_)) d5_63 ⟨by decide, by decide⟩ 0 rfl (Nat.le_of_ble_eq_true rfl) #[rv o0, rv o1, iv (0 : Int32)] [] 64 rfl
  have G23 := gd X23 hx hby
  have N23 := Fr.snoc X23 N15 g_o1
  have f24 := f16.other W23 (Or.inl ne_o0_o1)
  have f28 := f20.other W23 ne_w1_o1
  have Z23 := Nat.le_trans Z15 (Keep.of_wr W23).1
  have K23 : Keep h0 h23 [o1] := K15.wr W23 (Or.inl (List.mem_of_getElem? (i := 0) rfl))
  have V23 : Arv Z h23 o1 k2 .double (4 : Int32) [(.double (FP.dadd m0_ m1_)), (.double m1_), (.double (FP.dadd m2_ m3_)), (.double m3_)] (.double (0 : UInt64)) := Vs23
  obtain ⟨T30, X30, e30, st30⟩ := getF X23 hx hZ hown (host := "") (Or.inl (wd hw 40 rfl)) Via.refl e23 f24 (g := (mkF m 57 #[rv o0, rv o1, iv (1 : Int32)] [(.ref o0), (.ref o1), (.int (1 : Int32)), (.ref o1)])) rfl rfl (hb hby d5_57)
  have G30 := gd X30 hx hby
  obtain ⟨T31, h31, X31, e31, W31, Vs31, st31⟩ := own_stD X30 hx hby hZ e30 V23 (j := (1 : Int32)) (v := (FP.dadd m0_ m1_)) d5_63 ⟨by decide, by decide⟩ 1 rfl (Nat.le_of_ble_eq_true rfl) #[rv o0, rv o1, iv (1 : Int32)] [] 64 rfl
  have G31 := gd X31 hx hby
  have N31 := Fr.snoc X31 N23 g_o1
  have f32 := f24.other W31 (Or.inl ne_o0_o1)
  have f36 := f28.other W31 ne_w1_o1
  have Z31 := Nat.le_trans Z23 (Keep.of_wr W31).1
  have K31 : Keep h0 h31 [o1] := K23.wr W31 (Or.inl (List.mem_of_getElem? (i := 0) rfl))
  have V31 : Arv Z h31 o1 k2 .double (4 : Int32) [(.double (FP.dadd m0_ m1_)), (.double (FP.dadd m0_ m1_)), (.double (FP.dadd m2_ m3_)), (.double m3_)] (.double (0 : UInt64)) := Vs31
  obtain ⟨T38, X38, e38, st38⟩ := getF X31 hx hZ hown (host := "") (Or.inl (wd hw 40 rfl)) Via.refl e31 f32 (g := (mkF m 57 #[rv o0, rv o1, iv (2 : Int32)] [(.ref o0), (.ref o1), (.int (2 : Int32)), (.ref o1)])) rfl rfl (hb hby d5_57)
  have G38 := gd X38 hx hby
  obtain ⟨T39, h39, X39, e39, W39, Vs39, st39⟩ := own_stD X38 hx hby hZ e38 V31 (j := (2 : Int32)) (v := (FP.dadd m2_ m3_)) d5_63 ⟨by decide, by decide⟩ 2 rfl (Nat.le_of_ble_eq_true rfl) #[rv o0, rv o1, iv (2 : Int32)] [] 64 rfl
  have G39 := gd X39 hx hby
  have N39 := Fr.snoc X39 N31 g_o1
  have f40 := f32.other W39 (Or.inl ne_o0_o1)
  have f44 := f36.other W39 ne_w1_o1
  have Z39 := Nat.le_trans Z31 (Keep.of_wr W39).1
  have K39 : Keep h0 h39 [o1] := K31.wr W39 (Or.inl (List.mem_of_getElem? (i := 0) rfl))
  have V39 : Arv Z h39 o1 k2 .double (4 : Int32) [(.double (FP.dadd m0_ m1_)), (.double (FP.dadd m0_ m1_)), (.double (FP.dadd m2_ m3_)), (.double m3_)] (.double (0 : UInt64)) := Vs39
  obtain ⟨T46, X46, e46, st46⟩ := getF X39 hx hZ hown (host := "") (Or.inl (wd hw 40 rfl)) Via.refl e39 f40 (g := (mkF m 57 #[rv o0, rv o1, iv (3 : Int32)] [(.ref o0), (.ref o1), (.int (3 : Int32)), (.ref o1)])) rfl rfl (hb hby d5_57)
  have G46 := gd X46 hx hby
  obtain ⟨T47, h47, X47, e47, W47, Vs47, st47⟩ := own_stD X46 hx hby hZ e46 V39 (j := (3 : Int32)) (v := (FP.dadd m2_ m3_)) d5_63 ⟨by decide, by decide⟩ 3 rfl (Nat.le_of_ble_eq_true rfl) #[rv o0, rv o1, iv (3 : Int32)] [] 64 rfl
  have G47 := gd X47 hx hby
  have N47 := Fr.snoc X47 N39 g_o1
  have f48 := f40.other W47 (Or.inl ne_o0_o1)
  have f52 := f44.other W47 ne_w1_o1
  have Z47 := Nat.le_trans Z39 (Keep.of_wr W47).1
  have K47 : Keep h0 h47 [o1] := K39.wr W47 (Or.inl (List.mem_of_getElem? (i := 0) rfl))
  have V47 : Arv Z h47 o1 k2 .double (4 : Int32) [(.double (FP.dadd m0_ m1_)), (.double (FP.dadd m0_ m1_)), (.double (FP.dadd m2_ m3_)), (.double (FP.dadd m2_ m3_))] (.double (0 : UInt64)) := Vs47
  obtain ⟨fs, hr, hrun, hended, hW, hsame⟩ := X47.leave (v := none) (fun _ => rfl)
  refine ⟨_, _, pre0 _ ?_, hrun, hended, _, _, rfl, ?_, ⟨_, rfl⟩, hW, hsame.mono (by decide) (by decide)⟩
  · show Steps p.tables e below (s₁.setTop (mkF m 0 #[rv o0, rv o1, .unset] [])) _
    refine maloadN 1 G0 d5_0 rfl rfl rfl ?_
    refine st1 _ ?_
    show Steps p.tables e below (T1.setTop (mkF m 4 #[rv o0, rv o1, .unset] [(.ref w1)])) _
    refine XS.ifnullNo X1.here hx rfl (hb hby d5_4) rfl ?_
    show Steps p.tables e below (T1.setTop (mkF m 7 #[rv o0, rv o1, .unset] [])) _
    refine miconst 8 G1 d5_7 (v := (0 : Int32)) rfl rfl ?_
    refine mistoreN 9 G1 d5_8 #[rv o0, rv o1, iv (0 : Int32)] rfl rfl ?_
    refine miloadN 10 G1 d5_9 rfl rfl ?_
    refine maloadN 11 G1 d5_10 rfl rfl rfl ?_
    refine mlen 12 X1 hx hby hZ e1 V_o1 d5_11 rfl ?_
    refine micmpNo 15 G1 d5_12 (tlt (by decide : (0 : Int32) < (4 : Int32))).2.1 rfl ?_
    refine maloadN 16 G1 d5_15 rfl rfl rfl ?_
    refine st2 _ ?_
    show Steps p.tables e below (T2.setTop (mkF m 19 #[rv o0, rv o1, iv (0 : Int32)] [(.ref w1)])) _
    refine miloadN 20 G2 d5_19 rfl rfl ?_
    refine miaload 21 X2 hx hby hZ e2 V_w1 (v := (0 : Int32)) d5_20 ⟨by decide, by decide⟩ rfl rfl ?_
    refine miloadN 22 G2 d5_21 rfl rfl ?_
    refine micmpYes 39 G2 d5_22 (teq (by decide : (0 : Int32) = (0 : Int32))).1 (by decide) rfl ?_
    refine miinc 42 G2 d5_39 rfl #[rv o0, rv o1, iv (1 : Int32)] rfl rfl ?_
    refine mgoto 9 G2 d5_42 (by decide) rfl ?_
    refine miloadN 10 G2 d5_9 rfl rfl ?_
    refine maloadN 11 G2 d5_10 rfl rfl rfl ?_
    refine mlen 12 X2 hx hby hZ e2 V_o1 d5_11 rfl ?_
    refine micmpNo 15 G2 d5_12 (tlt (by decide : (1 : Int32) < (4 : Int32))).2.1 rfl ?_
    refine maloadN 16 G2 d5_15 rfl rfl rfl ?_
    refine st3 _ ?_
    show Steps p.tables e below (T3.setTop (mkF m 19 #[rv o0, rv o1, iv (1 : Int32)] [(.ref w1)])) _
    refine miloadN 20 G3 d5_19 rfl rfl ?_
    refine miaload 21 X3 hx hby hZ e3 V_w1 (v := (0 : Int32)) d5_20 ⟨by decide, by decide⟩ rfl rfl ?_
    refine miloadN 22 G3 d5_21 rfl rfl ?_
    refine micmpNo 25 G3 d5_22 (feq (by decide : ¬ ((0 : Int32) = (1 : Int32)))).1 rfl ?_
    refine maloadN 26 G3 d5_25 rfl rfl rfl ?_
    refine maloadN 27 G3 d5_26 rfl rfl rfl ?_
    refine st4 _ ?_
    show Steps p.tables e below (T4.setTop (mkF m 30 #[rv o0, rv o1, iv (1 : Int32)] [(.ref w1), (.ref o1)])) _
    refine miloadN 31 G4 d5_30 rfl rfl ?_
    refine miaload 32 X4 hx hby hZ e4 V_w1 (v := (0 : Int32)) d5_31 ⟨by decide, by decide⟩ rfl rfl ?_
    refine mdup2 33 G4 d5_32 rfl rfl rfl ?_
    refine mdaload 34 X4 hx hby hZ e4 V_o1 (v := m0_) d5_33 ⟨by decide, by decide⟩ rfl rfl ?_
    refine maloadN 35 G4 d5_34 rfl rfl rfl ?_
    refine miloadN 36 G4 d5_35 rfl rfl ?_
    refine mdaload 37 X4 hx hby hZ e4 V_o1 (v := m1_) d5_36 ⟨by decide, by decide⟩ rfl rfl ?_
    refine mdadd 38 G4 d5_37 (own_rm5_022_hn37 o0 o1 m0_ m1_ m2_ m3_ w1 k1 k2 hm) rfl ?_
    refine st5 _ ?_
    refine miinc 42 G5 d5_39 rfl #[rv o0, rv o1, iv (2 : Int32)] rfl rfl ?_
    refine mgoto 9 G5 d5_42 (by decide) rfl ?_
    refine miloadN 10 G5 d5_9 rfl rfl ?_
    refine maloadN 11 G5 d5_10 rfl rfl rfl ?_
    refine mlen 12 X5 hx hby hZ e5 V5 d5_11 rfl ?_
    refine micmpNo 15 G5 d5_12 (tlt (by decide : (2 : Int32) < (4 : Int32))).2.1 rfl ?_
    refine maloadN 16 G5 d5_15 rfl rfl rfl ?_
    refine st12 _ ?_
    show Steps p.tables e below (T12.setTop (mkF m 19 #[rv o0, rv o1, iv (2 : Int32)] [(.ref w1)])) _
    refine miloadN 20 G12 d5_19 rfl rfl ?_
    refine miaload 21 X12 hx hby hZ e12 f10 (v := (2 : Int32)) d5_20 ⟨by decide, by decide⟩ rfl rfl ?_
    refine miloadN 22 G12 d5_21 rfl rfl ?_
    refine micmpYes 39 G12 d5_22 (teq (by decide : (2 : Int32) = (2 : Int32))).1 (by decide) rfl ?_
    refine miinc 42 G12 d5_39 rfl #[rv o0, rv o1, iv (3 : Int32)] rfl rfl ?_
    refine mgoto 9 G12 d5_42 (by decide) rfl ?_
    refine miloadN 10 G12 d5_9 rfl rfl ?_
    refine maloadN 11 G12 d5_10 rfl rfl rfl ?_
    refine mlen 12 X12 hx hby hZ e12 V5 d5_11 rfl ?_
    refine micmpNo 15 G12 d5_12 (tlt (by decide : (3 : Int32) < (4 : Int32))).2.1 rfl ?_
    refine maloadN 16 G12 d5_15 rfl rfl rfl ?_
    refine st13 _ ?_
    show Steps p.tables e below (T13.setTop (mkF m 19 #[rv o0, rv o1, iv (3 : Int32)] [(.ref w1)])) _
    refine miloadN 20 G13 d5_19 rfl rfl ?_
    refine miaload 21 X13 hx hby hZ e13 f10 (v := (2 : Int32)) d5_20 ⟨by decide, by decide⟩ rfl rfl ?_
    refine miloadN 22 G13 d5_21 rfl rfl ?_
    refine micmpNo 25 G13 d5_22 (feq (by decide : ¬ ((2 : Int32) = (3 : Int32)))).1 rfl ?_
    refine maloadN 26 G13 d5_25 rfl rfl rfl ?_
    refine maloadN 27 G13 d5_26 rfl rfl rfl ?_
    refine st14 _ ?_
    show Steps p.tables e below (T14.setTop (mkF m 30 #[rv o0, rv o1, iv (3 : Int32)] [(.ref w1), (.ref o1)])) _
    refine miloadN 31 G14 d5_30 rfl rfl ?_
    refine miaload 32 X14 hx hby hZ e14 f10 (v := (2 : Int32)) d5_31 ⟨by decide, by decide⟩ rfl rfl ?_
    refine mdup2 33 G14 d5_32 rfl rfl rfl ?_
    refine mdaload 34 X14 hx hby hZ e14 V5 (v := m2_) d5_33 ⟨by decide, by decide⟩ rfl rfl ?_
    refine maloadN 35 G14 d5_34 rfl rfl rfl ?_
    refine miloadN 36 G14 d5_35 rfl rfl ?_
    refine mdaload 37 X14 hx hby hZ e14 V5 (v := m3_) d5_36 ⟨by decide, by decide⟩ rfl rfl ?_
    refine mdadd 38 G14 d5_37 (own_rm5_022_hn37_1 o0 o1 m0_ m1_ m2_ m3_ w1 k1 k2 hm) rfl ?_
    refine st15 _ ?_
    refine miinc 42 G15 d5_39 rfl #[rv o0, rv o1, iv (4 : Int32)] rfl rfl ?_
    refine mgoto 9 G15 d5_42 (by decide) rfl ?_
    refine miloadN 10 G15 d5_9 rfl rfl ?_
    refine maloadN 11 G15 d5_10 rfl rfl rfl ?_
    refine mlen 12 X15 hx hby hZ e15 V15 d5_11 rfl ?_
    refine micmpYes 45 G15 d5_12 (flt (by decide : ¬ ((4 : Int32) < (4 : Int32)))).2.1 (by decide) rfl ?_
    refine miconst 46 G15 d5_45 (v := (0 : Int32)) rfl rfl ?_
    refine mistoreN 47 G15 d5_46 #[rv o0, rv o1, iv (0 : Int32)] rfl rfl ?_
    refine miloadN 48 G15 d5_47 rfl rfl ?_
    refine maloadN 49 G15 d5_48 rfl rfl rfl ?_
    refine mlen 50 X15 hx hby hZ e15 V15 d5_49 rfl ?_
    refine micmpNo 53 G15 d5_50 (tlt (by decide : (0 : Int32) < (4 : Int32))).2.1 rfl ?_
    refine maloadN 54 G15 d5_53 rfl rfl rfl ?_
    refine miloadN 55 G15 d5_54 rfl rfl ?_
    refine maloadN 56 G15 d5_55 rfl rfl rfl ?_
    refine maloadN 57 G15 d5_56 rfl rfl rfl ?_
    refine st22 _ ?_
    show Steps p.tables e below (T22.setTop (mkF m 60 #[rv o0, rv o1, iv (0 : Int32)] [(.ref w1), (.ref o1), (.int (0 : Int32)), (.ref o1)])) _
    refine miloadN 61 G22 d5_60 rfl rfl ?_
    refine miaload 62 X22 hx hby hZ e22 f20 (v := (0 : Int32)) d5_61 ⟨by decide, by decide⟩ rfl rfl ?_
    refine mdaload 63 X22 hx hby hZ e22 V15 (v := (FP.dadd m0_ m1_)) d5_62 ⟨by decide, by decide⟩ rfl rfl ?_
    refine st23 _ ?_
    refine miinc 67 G23 d5_64 rfl #[rv o0, rv o1, iv (1 : Int32)] rfl rfl ?_
    refine mgoto 47 G23 d5_67 (by decide) rfl ?_
    refine miloadN 48 G23 d5_47 rfl rfl ?_
    refine maloadN 49 G23 d5_48 rfl rfl rfl ?_
    refine mlen 50 X23 hx hby hZ e23 V23 d5_49 rfl ?_
    refine micmpNo 53 G23 d5_50 (tlt (by decide : (1 : Int32) < (4 : Int32))).2.1 rfl ?_
    refine maloadN 54 G23 d5_53 rfl rfl rfl ?_
    refine miloadN 55 G23 d5_54 rfl rfl ?_
    refine maloadN 56 G23 d5_55 rfl rfl rfl ?_
    refine maloadN 57 G23 d5_56 rfl rfl rfl ?_
    refine st30 _ ?_
    show Steps p.tables e below (T30.setTop (mkF m 60 #[rv o0, rv o1, iv (1 : Int32)] [(.ref w1), (.ref o1), (.int (1 : Int32)), (.ref o1)])) _
    refine miloadN 61 G30 d5_60 rfl rfl ?_
    refine miaload 62 X30 hx hby hZ e30 f28 (v := (0 : Int32)) d5_61 ⟨by decide, by decide⟩ rfl rfl ?_
    refine mdaload 63 X30 hx hby hZ e30 V23 (v := (FP.dadd m0_ m1_)) d5_62 ⟨by decide, by decide⟩ rfl rfl ?_
    refine st31 _ ?_
    refine miinc 67 G31 d5_64 rfl #[rv o0, rv o1, iv (2 : Int32)] rfl rfl ?_
    refine mgoto 47 G31 d5_67 (by decide) rfl ?_
    refine miloadN 48 G31 d5_47 rfl rfl ?_
    refine maloadN 49 G31 d5_48 rfl rfl rfl ?_
    refine mlen 50 X31 hx hby hZ e31 V31 d5_49 rfl ?_
    refine micmpNo 53 G31 d5_50 (tlt (by decide : (2 : Int32) < (4 : Int32))).2.1 rfl ?_
    refine maloadN 54 G31 d5_53 rfl rfl rfl ?_
    refine miloadN 55 G31 d5_54 rfl rfl ?_
    refine maloadN 56 G31 d5_55 rfl rfl rfl ?_
    refine maloadN 57 G31 d5_56 rfl rfl rfl ?_
    refine st38 _ ?_
    show Steps p.tables e below (T38.setTop (mkF m 60 #[rv o0, rv o1, iv (2 : Int32)] [(.ref w1), (.ref o1), (.int (2 : Int32)), (.ref o1)])) _
    refine miloadN 61 G38 d5_60 rfl rfl ?_
    refine miaload 62 X38 hx hby hZ e38 f36 (v := (2 : Int32)) d5_61 ⟨by decide, by decide⟩ rfl rfl ?_
    refine mdaload 63 X38 hx hby hZ e38 V31 (v := (FP.dadd m2_ m3_)) d5_62 ⟨by decide, by decide⟩ rfl rfl ?_
    refine st39 _ ?_
    refine miinc 67 G39 d5_64 rfl #[rv o0, rv o1, iv (3 : Int32)] rfl rfl ?_
    refine mgoto 47 G39 d5_67 (by decide) rfl ?_
    refine miloadN 48 G39 d5_47 rfl rfl ?_
    refine maloadN 49 G39 d5_48 rfl rfl rfl ?_
    refine mlen 50 X39 hx hby hZ e39 V39 d5_49 rfl ?_
    refine micmpNo 53 G39 d5_50 (tlt (by decide : (3 : Int32) < (4 : Int32))).2.1 rfl ?_
    refine maloadN 54 G39 d5_53 rfl rfl rfl ?_
    refine miloadN 55 G39 d5_54 rfl rfl ?_
    refine maloadN 56 G39 d5_55 rfl rfl rfl ?_
    refine maloadN 57 G39 d5_56 rfl rfl rfl ?_
    refine st46 _ ?_
    show Steps p.tables e below (T46.setTop (mkF m 60 #[rv o0, rv o1, iv (3 : Int32)] [(.ref w1), (.ref o1), (.int (3 : Int32)), (.ref o1)])) _
    refine miloadN 61 G46 d5_60 rfl rfl ?_
    refine miaload 62 X46 hx hby hZ e46 f44 (v := (2 : Int32)) d5_61 ⟨by decide, by decide⟩ rfl rfl ?_
    refine mdaload 63 X46 hx hby hZ e46 V39 (v := (FP.dadd m2_ m3_)) d5_62 ⟨by decide, by decide⟩ rfl rfl ?_
    refine st47 _ ?_
    refine miinc 67 G47 d5_64 rfl #[rv o0, rv o1, iv (4 : Int32)] rfl rfl ?_
    refine mgoto 47 G47 d5_67 (by decide) rfl ?_
    refine miloadN 48 G47 d5_47 rfl rfl ?_
    refine maloadN 49 G47 d5_48 rfl rfl rfl ?_
    refine mlen 50 X47 hx hby hZ e47 V47 d5_49 rfl ?_
    refine micmpYes 70 G47 d5_50 (flt (by decide : ¬ ((4 : Int32) < (4 : Int32)))).2.1 (by decide) rfl ?_
    exact X47.returnOut hx Bd.returns (hb hby d5_70) hr
  · show Q5_022 Z o0 o1 m0_ m1_ m2_ m3_ w1 k1 k2 h0 n0 _ T47.heap _
    rw [e47]
    exact ⟨rfl, N47, K47, V47⟩
theorem ef5_023 (m : MethodId) (o0 : Addr) (o1 : Addr) : entryFrame m #[(.ref o0), (.ref o1)] 3 = mkF m 0 #[rv o0, rv o1, .unset] [] := by first | (simp [entryFrame, mkF, argsToLocals, Value.category]; done) | rfl
abbrev room_of_5_023 : Room := { frames := 0, cells := 0, slots := 0, locals := 0 }
def Q5_023 (Z : State) (o0 : Addr) (o1 : Addr) (m0_ : UInt64) (m1_ : UInt64) (m2_ : UInt64) (m3_ : UInt64) (w1 : Addr) (k1 : ClassId) (k2 : ClassId) (h0 : Heap) (n0 : Nat) (v : Option Value) (h : Heap) (L : List Loc) : Prop := v = none ∧ Fr n0 L ∧ Keep h0 h [o1] ∧ Arv Z h o1 k2 .double (4 : Int32) [(.double (FP.dadd m0_ m1_)), (.double (FP.dadd m0_ m1_)), (.double m2_), (.double m3_)] (.double (0 : UInt64))
theorem own_rm5_023_hn37 (o0 : Addr) (o1 : Addr) (m0_ : UInt64) (m1_ : UInt64) (m2_ : UInt64) (m3_ : UInt64) (w1 : Addr) (k1 : ClassId) (k2 : ClassId) (hm : own_fin4 m0_ m1_ m2_ m3_) : Jvm.Free.Fl.NoNaN64 (FP.dadd m0_ m1_) := (Jvm.Free.Fl.dadd_out hm.1.noNaN hm.2.1)
set_option maxRecDepth 65536 in
set_option maxHeartbeats 40000000 in
theorem rm5_023 (l : Launch) (Z : State) (a0 : Array Value) (hw : ∀ d ∈ tables_1, d.before a0 Z = true) (ws : List Jvm.Cond) (o0 : Addr) (o1 : Addr) {m0_ : UInt64} {m1_ : UInt64} {m2_ : UInt64} {m3_ : UInt64} {w1 : Addr} {k1 : ClassId} {k2 : ClassId} (h0 : Heap) (n0 : Nat) (Z0 : n0 ≤ h0.size) (hm : own_fin4 m0_ m1_ m2_ m3_) (F_groups_o0 : Fld Z h0 o0 "com/example/oceanus/oceanus/numerics/Tolerances" "groups" "[I" (.ref w1)) (ne_o0_o1 : o0 ≠ o1) (ne_w1_o1 : w1 ≠ o1) (g_o1 : n0 ≤ o1) (V_w1 : Arv Z h0 w1 k1 .int (4 : Int32) [(.int (0 : Int32)), (.int (0 : Int32)), (.int (2 : Int32)), (.int (3 : Int32))] (.int (0 : Int32))) (V_o1 : Arv Z h0 o1 k2 .double (4 : Int32) [(.double m0_), (.double m1_), (.double m2_), (.double m3_)] (.double (0 : UInt64))) :
    MetFree l (⟨"com/example/oceanus/oceanus/numerics/Tolerances", "group", "([D)V"⟩ : MethodName) (head1 (Jvm.Cond.code (⟨"com/example/oceanus/oceanus/numerics/Tolerances", "group", "([D)V"⟩ : MethodName) prog_115_method_4_code 3 none :: ws) (room_of_5_023)) (fun a U => a = #[(.ref o0), (.ref o1)] ∧ Z.Warmed39 U.vm ∧ U.heap = h0) (fun _ _ _ _ _ => True) (fun _ U o U' => ∃ v L, o = .returned v ∧ Q5_023 Z o0 o1 m0_ m1_ m2_ m3_ w1 k1 k2 h0 n0 v U'.heap L ∧ FrameEnd U o U' L (room_of_5_023).cells (room_of_5_023).slots) := by
  refine MetFree.of_bodySF (plainFor_of_name pn_5) hisR ?_
  intro p e s m args below meth c s₁ Bd hml0 hP hK
  obtain ⟨rfl, hZ, hh⟩ := hP
  have hx := Bd.exec
  have hby := Bd.bytes
  have hml : c.maxLocals = 3 := hml0
  have hown : s.vm.findClass "com/example/oceanus/oceanus/numerics/Tolerances" = some m.cls := findClass_of_methodNamed Bd.named
  have hnm := (name_of_methodNamed Bd.named Bd.method).1
  have X0 : Stand p l e (room_of_5_023) s m #[(.ref o0), (.ref o1)] below meth c s₁ [] 0 0 := Stand.of_body Bd
  have e0 : s₁.heap = h0 := by rw [← hh, Bd.state]; rfl
  have N0 := Fr.nil n0
  have G0 := gd X0 hx hby
  have pre0 : ∀ t, Steps p.tables e below (s₁.setTop (mkF m 0 #[rv o0, rv o1, .unset] [])) t → Steps p.tables e below (s₁.setTop (entryFrame m #[(.ref o0), (.ref o1)] 3)) t := fun t k => castTop (ef5_023 m o0 o1) k
  obtain ⟨T1, X1, e1, st1⟩ := getF X0 hx hZ hown (host := "") (Or.inl (wd hw 40 rfl)) Via.refl e0 F_groups_o0 (g := (mkF m 1 #[rv o0, rv o1, .unset] [(.ref o0)])) rfl rfl (hb hby d5_1)
  have G1 := gd X1 hx hby
  obtain ⟨T2, X2, e2, st2⟩ := getF X1 hx hZ hown (host := "") (Or.inl (wd hw 40 rfl)) Via.refl e1 F_groups_o0 (g := (mkF m 16 #[rv o0, rv o1, iv (0 : Int32)] [(.ref o0)])) rfl rfl (hb hby d5_16)
  have G2 := gd X2 hx hby
  obtain ⟨T3, X3, e3, st3⟩ := getF X2 hx hZ hown (host := "") (Or.inl (wd hw 40 rfl)) Via.refl e2 F_groups_o0 (g := (mkF m 16 #[rv o0, rv o1, iv (1 : Int32)] [(.ref o0)])) rfl rfl (hb hby d5_16)
  have G3 := gd X3 hx hby
  obtain ⟨T4, X4, e4, st4⟩ := getF X3 hx hZ hown (host := "") (Or.inl (wd hw 40 rfl)) Via.refl e3 F_groups_o0 (g := (mkF m 27 #[rv o0, rv o1, iv (1 : Int32)] [(.ref o0), (.ref o1)])) rfl rfl (hb hby d5_27)
  have G4 := gd X4 hx hby
  obtain ⟨T5, h5, X5, e5, W5, Vs5, st5⟩ := own_stD X4 hx hby hZ e4 V_o1 (j := (0 : Int32)) (v := (FP.dadd m0_ m1_)) d5_38 ⟨by decide, by decide⟩ 0 rfl (Nat.le_of_ble_eq_true rfl) #[rv o0, rv o1, iv (1 : Int32)] [] 39 rfl
  have G5 := gd X5 hx hby
  have N5 := Fr.snoc X5 N0 g_o1
  have f6 := F_groups_o0.other W5 (Or.inl ne_o0_o1)
  have f10 := V_w1.other W5 ne_w1_o1
  have Z5 := Nat.le_trans Z0 (Keep.of_wr W5).1
  have K5 : Keep h0 h5 [o1] := (Keep.refl h0 [o1]).wr W5 (Or.inl (List.mem_of_getElem? (i := 0) rfl))
  have V5 : Arv Z h5 o1 k2 .double (4 : Int32) [(.double (FP.dadd m0_ m1_)), (.double m1_), (.double m2_), (.double m3_)] (.double (0 : UInt64)) := Vs5
  obtain ⟨T12, X12, e12, st12⟩ := getF X5 hx hZ hown (host := "") (Or.inl (wd hw 40 rfl)) Via.refl e5 f6 (g := (mkF m 16 #[rv o0, rv o1, iv (2 : Int32)] [(.ref o0)])) rfl rfl (hb hby d5_16)
  have G12 := gd X12 hx hby
  obtain ⟨T13, X13, e13, st13⟩ := getF X12 hx hZ hown (host := "") (Or.inl (wd hw 40 rfl)) Via.refl e12 f6 (g := (mkF m 16 #[rv o0, rv o1, iv (3 : Int32)] [(.ref o0)])) rfl rfl (hb hby d5_16)
  have G13 := gd X13 hx hby
  obtain ⟨T14, X14, e14, st14⟩ := getF X13 hx hZ hown (host := "") (Or.inl (wd hw 40 rfl)) Via.refl e13 f6 (g := (mkF m 57 #[rv o0, rv o1, iv (0 : Int32)] [(.ref o0), (.ref o1), (.int (0 : Int32)), (.ref o1)])) rfl rfl (hb hby d5_57)
  have G14 := gd X14 hx hby
  obtain ⟨T15, h15, X15, e15, W15, Vs15, st15⟩ := own_stD X14 hx hby hZ e14 V5 (j := (0 : Int32)) (v := (FP.dadd m0_ m1_)) d5_63 ⟨by decide, by decide⟩ 0 rfl (Nat.le_of_ble_eq_true rfl) #[rv o0, rv o1, iv (0 : Int32)] [] 64 rfl
  have G15 := gd X15 hx hby
  have N15 := Fr.snoc X15 N5 g_o1
  have f16 := f6.other W15 (Or.inl ne_o0_o1)
  have f20 := f10.other W15 ne_w1_o1
  have Z15 := Nat.le_trans Z5 (Keep.of_wr W15).1
  have K15 : Keep h0 h15 [o1] := K5.wr W15 (Or.inl (List.mem_of_getElem? (i := 0) rfl))
  have V15 : Arv Z h15 o1 k2 .double (4 : Int32) [(.double (FP.dadd m0_ m1_)), (.double m1_), (.double m2_), (.double m3_)] (.double (0 : UInt64)) := Vs15
  obtain ⟨T22, X22, e22, st22⟩ := getF X15 hx hZ hown (host := "") (Or.inl (wd hw 40 rfl)) Via.refl e15 f16 (g := (mkF m 57 #[rv o0, rv o1, iv (1 : Int32)] [(.ref o0), (.ref o1), (.int (1 : Int32)), (.ref o1)])) rfl rfl (hb hby d5_57)
  have G22 := gd X22 hx hby
  obtain ⟨T23, h23, X23, e23, W23, Vs23, st23⟩ := own_stD X22 hx hby hZ e22 V15 (j := (1 : Int32)) (v := (FP.dadd m0_ m1_)) d5_63 ⟨by decide, by decide⟩ 1 rfl (Nat.le_of_ble_eq_true rfl) #[rv o0, rv o1, iv (1 : Int32)] [] 64 rfl
  have G23 := gd X23 hx hby
  have N23 := Fr.snoc X23 N15 g_o1
  have f24 := f16.other W23 (Or.inl ne_o0_o1)
  have f28 := f20.other W23 ne_w1_o1
  have Z23 := Nat.le_trans Z15 (Keep.of_wr W23).1
  have K23 : Keep h0 h23 [o1] := K15.wr W23 (Or.inl (List.mem_of_getElem? (i := 0) rfl))
  have V23 : Arv Z h23 o1 k2 .double (4 : Int32) [(.double (FP.dadd m0_ m1_)), (.double (FP.dadd m0_ m1_)), (.double m2_), (.double m3_)] (.double (0 : UInt64)) := Vs23
  obtain ⟨T30, X30, e30, st30⟩ := getF X23 hx hZ hown (host := "") (Or.inl (wd hw 40 rfl)) Via.refl e23 f24 (g := (mkF m 57 #[rv o0, rv o1, iv (2 : Int32)] [(.ref o0), (.ref o1), (.int (2 : Int32)), (.ref o1)])) rfl rfl (hb hby d5_57)
  have G30 := gd X30 hx hby
  obtain ⟨T31, h31, X31, e31, W31, Vs31, st31⟩ := own_stD X30 hx hby hZ e30 V23 (j := (2 : Int32)) (v := m2_) d5_63 ⟨by decide, by decide⟩ 2 rfl (Nat.le_of_ble_eq_true rfl) #[rv o0, rv o1, iv (2 : Int32)] [] 64 rfl
  have G31 := gd X31 hx hby
  have N31 := Fr.snoc X31 N23 g_o1
  have f32 := f24.other W31 (Or.inl ne_o0_o1)
  have f36 := f28.other W31 ne_w1_o1
  have Z31 := Nat.le_trans Z23 (Keep.of_wr W31).1
  have K31 : Keep h0 h31 [o1] := K23.wr W31 (Or.inl (List.mem_of_getElem? (i := 0) rfl))
  have V31 : Arv Z h31 o1 k2 .double (4 : Int32) [(.double (FP.dadd m0_ m1_)), (.double (FP.dadd m0_ m1_)), (.double m2_), (.double m3_)] (.double (0 : UInt64)) := Vs31
  obtain ⟨T38, X38, e38, st38⟩ := getF X31 hx hZ hown (host := "") (Or.inl (wd hw 40 rfl)) Via.refl e31 f32 (g := (mkF m 57 #[rv o0, rv o1, iv (3 : Int32)] [(.ref o0), (.ref o1), (.int (3 : Int32)), (.ref o1)])) rfl rfl (hb hby d5_57)
  have G38 := gd X38 hx hby
  obtain ⟨T39, h39, X39, e39, W39, Vs39, st39⟩ := own_stD X38 hx hby hZ e38 V31 (j := (3 : Int32)) (v := m3_) d5_63 ⟨by decide, by decide⟩ 3 rfl (Nat.le_of_ble_eq_true rfl) #[rv o0, rv o1, iv (3 : Int32)] [] 64 rfl
  have G39 := gd X39 hx hby
  have N39 := Fr.snoc X39 N31 g_o1
  have f40 := f32.other W39 (Or.inl ne_o0_o1)
  have f44 := f36.other W39 ne_w1_o1
  have Z39 := Nat.le_trans Z31 (Keep.of_wr W39).1
  have K39 : Keep h0 h39 [o1] := K31.wr W39 (Or.inl (List.mem_of_getElem? (i := 0) rfl))
  have V39 : Arv Z h39 o1 k2 .double (4 : Int32) [(.double (FP.dadd m0_ m1_)), (.double (FP.dadd m0_ m1_)), (.double m2_), (.double m3_)] (.double (0 : UInt64)) := Vs39
  obtain ⟨fs, hr, hrun, hended, hW, hsame⟩ := X39.leave (v := none) (fun _ => rfl)
  refine ⟨_, _, pre0 _ ?_, hrun, hended, _, _, rfl, ?_, ⟨_, rfl⟩, hW, hsame.mono (by decide) (by decide)⟩
  · show Steps p.tables e below (s₁.setTop (mkF m 0 #[rv o0, rv o1, .unset] [])) _
    refine maloadN 1 G0 d5_0 rfl rfl rfl ?_
    refine st1 _ ?_
    show Steps p.tables e below (T1.setTop (mkF m 4 #[rv o0, rv o1, .unset] [(.ref w1)])) _
    refine XS.ifnullNo X1.here hx rfl (hb hby d5_4) rfl ?_
    show Steps p.tables e below (T1.setTop (mkF m 7 #[rv o0, rv o1, .unset] [])) _
    refine miconst 8 G1 d5_7 (v := (0 : Int32)) rfl rfl ?_
    refine mistoreN 9 G1 d5_8 #[rv o0, rv o1, iv (0 : Int32)] rfl rfl ?_
    refine miloadN 10 G1 d5_9 rfl rfl ?_
    refine maloadN 11 G1 d5_10 rfl rfl rfl ?_
    refine mlen 12 X1 hx hby hZ e1 V_o1 d5_11 rfl ?_
    refine micmpNo 15 G1 d5_12 (tlt (by decide : (0 : Int32) < (4 : Int32))).2.1 rfl ?_
    refine maloadN 16 G1 d5_15 rfl rfl rfl ?_
    refine st2 _ ?_
    show Steps p.tables e below (T2.setTop (mkF m 19 #[rv o0, rv o1, iv (0 : Int32)] [(.ref w1)])) _
    refine miloadN 20 G2 d5_19 rfl rfl ?_
    refine miaload 21 X2 hx hby hZ e2 V_w1 (v := (0 : Int32)) d5_20 ⟨by decide, by decide⟩ rfl rfl ?_
    refine miloadN 22 G2 d5_21 rfl rfl ?_
    refine micmpYes 39 G2 d5_22 (teq (by decide : (0 : Int32) = (0 : Int32))).1 (by decide) rfl ?_
    refine miinc 42 G2 d5_39 rfl #[rv o0, rv o1, iv (1 : Int32)] rfl rfl ?_
    refine mgoto 9 G2 d5_42 (by decide) rfl ?_
    refine miloadN 10 G2 d5_9 rfl rfl ?_
    refine maloadN 11 G2 d5_10 rfl rfl rfl ?_
    refine mlen 12 X2 hx hby hZ e2 V_o1 d5_11 rfl ?_
    refine micmpNo 15 G2 d5_12 (tlt (by decide : (1 : Int32) < (4 : Int32))).2.1 rfl ?_
    refine maloadN 16 G2 d5_15 rfl rfl rfl ?_
    refine st3 _ ?_
    show Steps p.tables e below (T3.setTop (mkF m 19 #[rv o0, rv o1, iv (1 : Int32)] [(.ref w1)])) _
    refine miloadN 20 G3 d5_19 rfl rfl ?_
    refine miaload 21 X3 hx hby hZ e3 V_w1 (v := (0 : Int32)) d5_20 ⟨by decide, by decide⟩ rfl rfl ?_
    refine miloadN 22 G3 d5_21 rfl rfl ?_
    refine micmpNo 25 G3 d5_22 (feq (by decide : ¬ ((0 : Int32) = (1 : Int32)))).1 rfl ?_
    refine maloadN 26 G3 d5_25 rfl rfl rfl ?_
    refine maloadN 27 G3 d5_26 rfl rfl rfl ?_
    refine st4 _ ?_
    show Steps p.tables e below (T4.setTop (mkF m 30 #[rv o0, rv o1, iv (1 : Int32)] [(.ref w1), (.ref o1)])) _
    refine miloadN 31 G4 d5_30 rfl rfl ?_
    refine miaload 32 X4 hx hby hZ e4 V_w1 (v := (0 : Int32)) d5_31 ⟨by decide, by decide⟩ rfl rfl ?_
    refine mdup2 33 G4 d5_32 rfl rfl rfl ?_
    refine mdaload 34 X4 hx hby hZ e4 V_o1 (v := m0_) d5_33 ⟨by decide, by decide⟩ rfl rfl ?_
    refine maloadN 35 G4 d5_34 rfl rfl rfl ?_
    refine miloadN 36 G4 d5_35 rfl rfl ?_
    refine mdaload 37 X4 hx hby hZ e4 V_o1 (v := m1_) d5_36 ⟨by decide, by decide⟩ rfl rfl ?_
    refine mdadd 38 G4 d5_37 (own_rm5_023_hn37 o0 o1 m0_ m1_ m2_ m3_ w1 k1 k2 hm) rfl ?_
    refine st5 _ ?_
    refine miinc 42 G5 d5_39 rfl #[rv o0, rv o1, iv (2 : Int32)] rfl rfl ?_
    refine mgoto 9 G5 d5_42 (by decide) rfl ?_
    refine miloadN 10 G5 d5_9 rfl rfl ?_
    refine maloadN 11 G5 d5_10 rfl rfl rfl ?_
    refine mlen 12 X5 hx hby hZ e5 V5 d5_11 rfl ?_
    refine micmpNo 15 G5 d5_12 (tlt (by decide : (2 : Int32) < (4 : Int32))).2.1 rfl ?_
    refine maloadN 16 G5 d5_15 rfl rfl rfl ?_
    refine st12 _ ?_
    show Steps p.tables e below (T12.setTop (mkF m 19 #[rv o0, rv o1, iv (2 : Int32)] [(.ref w1)])) _
    refine miloadN 20 G12 d5_19 rfl rfl ?_
    refine miaload 21 X12 hx hby hZ e12 f10 (v := (2 : Int32)) d5_20 ⟨by decide, by decide⟩ rfl rfl ?_
    refine miloadN 22 G12 d5_21 rfl rfl ?_
    refine micmpYes 39 G12 d5_22 (teq (by decide : (2 : Int32) = (2 : Int32))).1 (by decide) rfl ?_
    refine miinc 42 G12 d5_39 rfl #[rv o0, rv o1, iv (3 : Int32)] rfl rfl ?_
    refine mgoto 9 G12 d5_42 (by decide) rfl ?_
    refine miloadN 10 G12 d5_9 rfl rfl ?_
    refine maloadN 11 G12 d5_10 rfl rfl rfl ?_
    refine mlen 12 X12 hx hby hZ e12 V5 d5_11 rfl ?_
    refine micmpNo 15 G12 d5_12 (tlt (by decide : (3 : Int32) < (4 : Int32))).2.1 rfl ?_
    refine maloadN 16 G12 d5_15 rfl rfl rfl ?_
    refine st13 _ ?_
    show Steps p.tables e below (T13.setTop (mkF m 19 #[rv o0, rv o1, iv (3 : Int32)] [(.ref w1)])) _
    refine miloadN 20 G13 d5_19 rfl rfl ?_
    refine miaload 21 X13 hx hby hZ e13 f10 (v := (3 : Int32)) d5_20 ⟨by decide, by decide⟩ rfl rfl ?_
    refine miloadN 22 G13 d5_21 rfl rfl ?_
    refine micmpYes 39 G13 d5_22 (teq (by decide : (3 : Int32) = (3 : Int32))).1 (by decide) rfl ?_
    refine miinc 42 G13 d5_39 rfl #[rv o0, rv o1, iv (4 : Int32)] rfl rfl ?_
    refine mgoto 9 G13 d5_42 (by decide) rfl ?_
    refine miloadN 10 G13 d5_9 rfl rfl ?_
    refine maloadN 11 G13 d5_10 rfl rfl rfl ?_
    refine mlen 12 X13 hx hby hZ e13 V5 d5_11 rfl ?_
    refine micmpYes 45 G13 d5_12 (flt (by decide : ¬ ((4 : Int32) < (4 : Int32)))).2.1 (by decide) rfl ?_
    refine miconst 46 G13 d5_45 (v := (0 : Int32)) rfl rfl ?_
    refine mistoreN 47 G13 d5_46 #[rv o0, rv o1, iv (0 : Int32)] rfl rfl ?_
    refine miloadN 48 G13 d5_47 rfl rfl ?_
    refine maloadN 49 G13 d5_48 rfl rfl rfl ?_
    refine mlen 50 X13 hx hby hZ e13 V5 d5_49 rfl ?_
    refine micmpNo 53 G13 d5_50 (tlt (by decide : (0 : Int32) < (4 : Int32))).2.1 rfl ?_
    refine maloadN 54 G13 d5_53 rfl rfl rfl ?_
    refine miloadN 55 G13 d5_54 rfl rfl ?_
    refine maloadN 56 G13 d5_55 rfl rfl rfl ?_
    refine maloadN 57 G13 d5_56 rfl rfl rfl ?_
    refine st14 _ ?_
    show Steps p.tables e below (T14.setTop (mkF m 60 #[rv o0, rv o1, iv (0 : Int32)] [(.ref w1), (.ref o1), (.int (0 : Int32)), (.ref o1)])) _
    refine miloadN 61 G14 d5_60 rfl rfl ?_
    refine miaload 62 X14 hx hby hZ e14 f10 (v := (0 : Int32)) d5_61 ⟨by decide, by decide⟩ rfl rfl ?_
    refine mdaload 63 X14 hx hby hZ e14 V5 (v := (FP.dadd m0_ m1_)) d5_62 ⟨by decide, by decide⟩ rfl rfl ?_
    refine st15 _ ?_
    refine miinc 67 G15 d5_64 rfl #[rv o0, rv o1, iv (1 : Int32)] rfl rfl ?_
    refine mgoto 47 G15 d5_67 (by decide) rfl ?_
    refine miloadN 48 G15 d5_47 rfl rfl ?_
    refine maloadN 49 G15 d5_48 rfl rfl rfl ?_
    refine mlen 50 X15 hx hby hZ e15 V15 d5_49 rfl ?_
    refine micmpNo 53 G15 d5_50 (tlt (by decide : (1 : Int32) < (4 : Int32))).2.1 rfl ?_
    refine maloadN 54 G15 d5_53 rfl rfl rfl ?_
    refine miloadN 55 G15 d5_54 rfl rfl ?_
    refine maloadN 56 G15 d5_55 rfl rfl rfl ?_
    refine maloadN 57 G15 d5_56 rfl rfl rfl ?_
    refine st22 _ ?_
    show Steps p.tables e below (T22.setTop (mkF m 60 #[rv o0, rv o1, iv (1 : Int32)] [(.ref w1), (.ref o1), (.int (1 : Int32)), (.ref o1)])) _
    refine miloadN 61 G22 d5_60 rfl rfl ?_
    refine miaload 62 X22 hx hby hZ e22 f20 (v := (0 : Int32)) d5_61 ⟨by decide, by decide⟩ rfl rfl ?_
    refine mdaload 63 X22 hx hby hZ e22 V15 (v := (FP.dadd m0_ m1_)) d5_62 ⟨by decide, by decide⟩ rfl rfl ?_
    refine st23 _ ?_
    refine miinc 67 G23 d5_64 rfl #[rv o0, rv o1, iv (2 : Int32)] rfl rfl ?_
    refine mgoto 47 G23 d5_67 (by decide) rfl ?_
    refine miloadN 48 G23 d5_47 rfl rfl ?_
    refine maloadN 49 G23 d5_48 rfl rfl rfl ?_
    refine mlen 50 X23 hx hby hZ e23 V23 d5_49 rfl ?_
    refine micmpNo 53 G23 d5_50 (tlt (by decide : (2 : Int32) < (4 : Int32))).2.1 rfl ?_
    refine maloadN 54 G23 d5_53 rfl rfl rfl ?_
    refine miloadN 55 G23 d5_54 rfl rfl ?_
    refine maloadN 56 G23 d5_55 rfl rfl rfl ?_
    refine maloadN 57 G23 d5_56 rfl rfl rfl ?_
    refine st30 _ ?_
    show Steps p.tables e below (T30.setTop (mkF m 60 #[rv o0, rv o1, iv (2 : Int32)] [(.ref w1), (.ref o1), (.int (2 : Int32)), (.ref o1)])) _
    refine miloadN 61 G30 d5_60 rfl rfl ?_
    refine miaload 62 X30 hx hby hZ e30 f28 (v := (2 : Int32)) d5_61 ⟨by decide, by decide⟩ rfl rfl ?_
    refine mdaload 63 X30 hx hby hZ e30 V23 (v := m2_) d5_62 ⟨by decide, by decide⟩ rfl rfl ?_
    refine st31 _ ?_
    refine miinc 67 G31 d5_64 rfl #[rv o0, rv o1, iv (3 : Int32)] rfl rfl ?_
    refine mgoto 47 G31 d5_67 (by decide) rfl ?_
    refine miloadN 48 G31 d5_47 rfl rfl ?_
    refine maloadN 49 G31 d5_48 rfl rfl rfl ?_
    refine mlen 50 X31 hx hby hZ e31 V31 d5_49 rfl ?_
    refine micmpNo 53 G31 d5_50 (tlt (by decide : (3 : Int32) < (4 : Int32))).2.1 rfl ?_
    refine maloadN 54 G31 d5_53 rfl rfl rfl ?_
    refine miloadN 55 G31 d5_54 rfl rfl ?_
    refine maloadN 56 G31 d5_55 rfl rfl rfl ?_
    refine maloadN 57 G31 d5_56 rfl rfl rfl ?_
    refine st38 _ ?_
    show Steps p.tables e below (T38.setTop (mkF m 60 #[rv o0, rv o1, iv (3 : Int32)] [(.ref w1), (.ref o1), (.int (3 : Int32)), (.ref o1)])) _
    refine miloadN 61 G38 d5_60 rfl rfl ?_
    refine miaload 62 X38 hx hby hZ e38 f36 (v := (3 : Int32)) d5_61 ⟨by decide, by decide⟩ rfl rfl ?_
    refine mdaload 63 X38 hx hby hZ e38 V31 (v := m3_) d5_62 ⟨by decide, by decide⟩ rfl rfl ?_
    refine st39 _ ?_
    refine miinc 67 G39 d5_64 rfl #[rv o0, rv o1, iv (4 : Int32)] rfl rfl ?_
    refine mgoto 47 G39 d5_67 (by decide) rfl ?_
    refine miloadN 48 G39 d5_47 rfl rfl ?_
    refine maloadN 49 G39 d5_48 rfl rfl rfl ?_
    refine mlen 50 X39 hx hby hZ e39 V39 d5_49 rfl ?_
    refine micmpYes 70 G39 d5_50 (flt (by decide : ¬ ((4 : Int32) < (4 : Int32)))).2.1 (by decide) rfl ?_
    exact X39.returnOut hx Bd.returns (hb hby d5_70) hr
  · show Q5_023 Z o0 o1 m0_ m1_ m2_ m3_ w1 k1 k2 h0 n0 _ T39.heap _
    rw [e39]
    exact ⟨rfl, N39, K39, V39⟩
theorem ef5_100 (m : MethodId) (o0 : Addr) (o1 : Addr) : entryFrame m #[(.ref o0), (.ref o1)] 3 = mkF m 0 #[rv o0, rv o1, .unset] [] := by first | (simp [entryFrame, mkF, argsToLocals, Value.category]; done) | rfl
abbrev room_of_5_100 : Room := { frames := 0, cells := 0, slots := 0, locals := 0 }
def Q5_100 (Z : State) (o0 : Addr) (o1 : Addr) (m0_ : UInt64) (m1_ : UInt64) (m2_ : UInt64) (m3_ : UInt64) (w1 : Addr) (k1 : ClassId) (k2 : ClassId) (h0 : Heap) (n0 : Nat) (v : Option Value) (h : Heap) (L : List Loc) : Prop := v = none ∧ Fr n0 L ∧ Keep h0 h [o1] ∧ Arv Z h o1 k2 .double (4 : Int32) [(.double (FP.dadd (FP.dadd m0_ m2_) m3_)), (.double m1_), (.double (FP.dadd (FP.dadd m0_ m2_) m3_)), (.double (FP.dadd (FP.dadd m0_ m2_) m3_))] (.double (0 : UInt64))
theorem own_rm5_100_hn37 (o0 : Addr) (o1 : Addr) (m0_ : UInt64) (m1_ : UInt64) (m2_ : UInt64) (m3_ : UInt64) (w1 : Addr) (k1 : ClassId) (k2 : ClassId) (hm : own_fin4 m0_ m1_ m2_ m3_) : Jvm.Free.Fl.NoNaN64 (FP.dadd m0_ m2_) := (Jvm.Free.Fl.dadd_out hm.1.noNaN hm.2.2.1)
theorem own_rm5_100_hn37_1 (o0 : Addr) (o1 : Addr) (m0_ : UInt64) (m1_ : UInt64) (m2_ : UInt64) (m3_ : UInt64) (w1 : Addr) (k1 : ClassId) (k2 : ClassId) (hm : own_fin4 m0_ m1_ m2_ m3_) : Jvm.Free.Fl.NoNaN64 (FP.dadd (FP.dadd m0_ m2_) m3_) := (Jvm.Free.Fl.dadd_out (Jvm.Free.Fl.dadd_out hm.1.noNaN hm.2.2.1) hm.2.2.2)
set_option maxRecDepth 65536 in
set_option maxHeartbeats 40000000 in
theorem rm5_100 (l : Launch) (Z : State) (a0 : Array Value) (hw : ∀ d ∈ tables_1, d.before a0 Z = true) (ws : List Jvm.Cond) (o0 : Addr) (o1 : Addr) {m0_ : UInt64} {m1_ : UInt64} {m2_ : UInt64} {m3_ : UInt64} {w1 : Addr} {k1 : ClassId} {k2 : ClassId} (h0 : Heap) (n0 : Nat) (Z0 : n0 ≤ h0.size) (hm : own_fin4 m0_ m1_ m2_ m3_) (F_groups_o0 : Fld Z h0 o0 "com/example/oceanus/oceanus/numerics/Tolerances" "groups" "[I" (.ref w1)) (ne_o0_o1 : o0 ≠ o1) (ne_w1_o1 : w1 ≠ o1) (g_o1 : n0 ≤ o1) (V_w1 : Arv Z h0 w1 k1 .int (4 : Int32) [(.int (0 : Int32)), (.int (1 : Int32)), (.int (0 : Int32)), (.int (0 : Int32))] (.int (0 : Int32))) (V_o1 : Arv Z h0 o1 k2 .double (4 : Int32) [(.double m0_), (.double m1_), (.double m2_), (.double m3_)] (.double (0 : UInt64))) :
    MetFree l (⟨"com/example/oceanus/oceanus/numerics/Tolerances", "group", "([D)V"⟩ : MethodName) (head1 (Jvm.Cond.code (⟨"com/example/oceanus/oceanus/numerics/Tolerances", "group", "([D)V"⟩ : MethodName) prog_115_method_4_code 3 none :: ws) (room_of_5_100)) (fun a U => a = #[(.ref o0), (.ref o1)] ∧ Z.Warmed39 U.vm ∧ U.heap = h0) (fun _ _ _ _ _ => True) (fun _ U o U' => ∃ v L, o = .returned v ∧ Q5_100 Z o0 o1 m0_ m1_ m2_ m3_ w1 k1 k2 h0 n0 v U'.heap L ∧ FrameEnd U o U' L (room_of_5_100).cells (room_of_5_100).slots) := by
  refine MetFree.of_bodySF (plainFor_of_name pn_5) hisR ?_
  intro p e s m args below meth c s₁ Bd hml0 hP hK
  obtain ⟨rfl, hZ, hh⟩ := hP
  have hx := Bd.exec
  have hby := Bd.bytes
  have hml : c.maxLocals = 3 := hml0
  have hown : s.vm.findClass "com/example/oceanus/oceanus/numerics/Tolerances" = some m.cls := findClass_of_methodNamed Bd.named
  have hnm := (name_of_methodNamed Bd.named Bd.method).1
  have X0 : Stand p l e (room_of_5_100) s m #[(.ref o0), (.ref o1)] below meth c s₁ [] 0 0 := Stand.of_body Bd
  have e0 : s₁.heap = h0 := by rw [← hh, Bd.state]; rfl
  have N0 := Fr.nil n0
  have G0 := gd X0 hx hby
  have pre0 : ∀ t, Steps p.tables e below (s₁.setTop (mkF m 0 #[rv o0, rv o1, .unset] [])) t → Steps p.tables e below (s₁.setTop (entryFrame m #[(.ref o0), (.ref o1)] 3)) t := fun t k => castTop (ef5_100 m o0 o1) k
  obtain ⟨T1, X1, e1, st1⟩ := getF X0 hx hZ hown (host := "") (Or.inl (wd hw 40 rfl)) Via.refl e0 F_groups_o0 (g := (mkF m 1 #[rv o0, rv o1, .unset] [(.ref o0)])) rfl rfl (hb hby d5_1)
  have G1 := gd X1 hx hby
  obtain ⟨T2, X2, e2, st2⟩ := getF X1 hx hZ hown (host := "") (Or.inl (wd hw 40 rfl)) Via.refl e1 F_groups_o0 (g := (mkF m 16 #[rv o0, rv o1, iv (0 : Int32)] [(.ref o0)])) rfl rfl (hb hby d5_16)
  have G2 := gd X2 hx hby
  obtain ⟨T3, X3, e3, st3⟩ := getF X2 hx hZ hown (host := "") (Or.inl (wd hw 40 rfl)) Via.refl e2 F_groups_o0 (g := (mkF m 16 #[rv o0, rv o1, iv (1 : Int32)] [(.ref o0)])) rfl rfl (hb hby d5_16)
  have G3 := gd X3 hx hby
  obtain ⟨T4, X4, e4, st4⟩ := getF X3 hx hZ hown (host := "") (Or.inl (wd hw 40 rfl)) Via.refl e3 F_groups_o0 (g := (mkF m 16 #[rv o0, rv o1, iv (2 : Int32)] [(.ref o0)])) rfl rfl (hb hby d5_16)
  have G4 := gd X4 hx hby
  obtain ⟨T5, X5, e5, st5⟩ := getF X4 hx hZ hown (host := "") (Or.inl (wd hw 40 rfl)) Via.refl e4 F_groups_o0 (g := (mkF m 27 #[rv o0, rv o1, iv (2 : Int32)] [(.ref o0), (.ref o1)])) rfl rfl (hb hby d5_27)
  have G5 := gd X5 hx hby
  obtain ⟨T6, h6, X6, e6, W6, Vs6, st6⟩ := own_stD X5 hx hby hZ e5 V_o1 (j := (0 : Int32)) (v := (FP.dadd m0_ m2_)) d5_38 ⟨by decide, by decide⟩ 0 rfl (Nat.le_of_ble_eq_true rfl) #[rv o0, rv o1, iv (2 : Int32)] [] 39 rfl
  have G6 := gd X6 hx hby
  have N6 := Fr.snoc X6 N0 g_o1
  have f7 := F_groups_o0.other W6 (Or.inl ne_o0_o1)
  have f11 := V_w1.other W6 ne_w1_o1
  have Z6 := Nat.le_trans Z0 (Keep.of_wr W6).1
  have K6 : Keep h0 h6 [o1] := (Keep.refl h0 [o1]).wr W6 (Or.inl (List.mem_of_getElem? (i := 0) rfl))
  have V6 : Arv Z h6 o1 k2 .double (4 : Int32) [(.double (FP.dadd m0_ m2_)), (.double m1_), (.double m2_), (.double m3_)] (.double (0 : UInt64)) := Vs6
  obtain ⟨T13, X13, e13, st13⟩ := getF X6 hx hZ hown (host := "") (Or.inl (wd hw 40 rfl)) Via.refl e6 f7 (g := (mkF m 16 #[rv o0, rv o1, iv (3 : Int32)] [(.ref o0)])) rfl rfl (hb hby d5_16)
  have G13 := gd X13 hx hby
  obtain ⟨T14, X14, e14, st14⟩ := getF X13 hx hZ hown (host := "") (Or.inl (wd hw 40 rfl)) Via.refl e13 f7 (g := (mkF m 27 #[rv o0, rv o1, iv (3 : Int32)] [(.ref o0), (.ref o1)])) rfl rfl (hb hby d5_27)
  have G14 := gd X14 hx hby
  obtain ⟨T15, h15, X15, e15, W15, Vs15, st15⟩ := own_stD X14 hx hby hZ e14 V6 (j := (0 : Int32)) (v := (FP.dadd (FP.dadd m0_ m2_) m3_)) d5_38 ⟨by decide, by decide⟩ 0 rfl (Nat.le_of_ble_eq_true rfl) #[rv o0, rv o1, iv (3 : Int32)] [] 39 rfl
  have G15 := gd X15 hx hby
  have N15 := Fr.snoc X15 N6 g_o1
  have f16 := f7.other W15 (Or.inl ne_o0_o1)
  have f20 := f11.other W15 ne_w1_o1
  have Z15 := Nat.le_trans Z6 (Keep.of_wr W15).1
  have K15 : Keep h0 h15 [o1] := K6.wr W15 (Or.inl (List.mem_of_getElem? (i := 0) rfl))
  have V15 : Arv Z h15 o1 k2 .double (4 : Int32) [(.double (FP.dadd (FP.dadd m0_ m2_) m3_)), (.double m1_), (.double m2_), (.double m3_)] (.double (0 : UInt64)) := Vs15
  obtain ⟨T22, X22, e22, st22⟩ := getF X15 hx hZ hown (host := "") (Or.inl (wd hw 40 rfl)) Via.refl e15 f16 (g := (mkF m 57 #[rv o0, rv o1, iv (0 : Int32)] [(.ref o0), (.ref o1), (.int (0 : Int32)), (.ref o1)])) rfl rfl (hb hby d5_57)
  have G22 := gd X22 hx hby
  obtain ⟨T23, h23, X23, e23, W23, Vs23, st23⟩ := own_stD X22 hx hby hZ e22 V15 (j := (0 : Int32)) (v := (FP.dadd (FP.dadd m0_ m2_) m3_)) d5_63 ⟨by decide, by decide⟩ 0 rfl (Nat.le_of_ble_eq_true rfl) #[rv o0, rv o1, iv (0 : Int32)] [] 64 rfl
  have G23 := gd X23 hx hby
  have N23 := Fr.snoc X23 N15 g_o1
  have f24 := f16.other W23 (Or.inl ne_o0_o1)
  have f28 := f20.other W23 ne_w1_o1
  have Z23 := Nat.le_trans Z15 (Keep.of_wr W23).1
  have K23 : Keep h0 h23 [o1] := K15.wr W23 (Or.inl (List.mem_of_getElem? (i := 0) rfl))
  have V23 : Arv Z h23 o1 k2 .double (4 : Int32) [(.double (FP.dadd (FP.dadd m0_ m2_) m3_)), (.double m1_), (.double m2_), (.double m3_)] (.double (0 : UInt64)) := Vs23
  obtain ⟨T30, X30, e30, st30⟩ := getF X23 hx hZ hown (host := "") (Or.inl (wd hw 40 rfl)) Via.refl e23 f24 (g := (mkF m 57 #[rv o0, rv o1, iv (1 : Int32)] [(.ref o0), (.ref o1), (.int (1 : Int32)), (.ref o1)])) rfl rfl (hb hby d5_57)
  have G30 := gd X30 hx hby
  obtain ⟨T31, h31, X31, e31, W31, Vs31, st31⟩ := own_stD X30 hx hby hZ e30 V23 (j := (1 : Int32)) (v := m1_) d5_63 ⟨by decide, by decide⟩ 1 rfl (Nat.le_of_ble_eq_true rfl) #[rv o0, rv o1, iv (1 : Int32)] [] 64 rfl
  have G31 := gd X31 hx hby
  have N31 := Fr.snoc X31 N23 g_o1
  have f32 := f24.other W31 (Or.inl ne_o0_o1)
  have f36 := f28.other W31 ne_w1_o1
  have Z31 := Nat.le_trans Z23 (Keep.of_wr W31).1
  have K31 : Keep h0 h31 [o1] := K23.wr W31 (Or.inl (List.mem_of_getElem? (i := 0) rfl))
  have V31 : Arv Z h31 o1 k2 .double (4 : Int32) [(.double (FP.dadd (FP.dadd m0_ m2_) m3_)), (.double m1_), (.double m2_), (.double m3_)] (.double (0 : UInt64)) := Vs31
  obtain ⟨T38, X38, e38, st38⟩ := getF X31 hx hZ hown (host := "") (Or.inl (wd hw 40 rfl)) Via.refl e31 f32 (g := (mkF m 57 #[rv o0, rv o1, iv (2 : Int32)] [(.ref o0), (.ref o1), (.int (2 : Int32)), (.ref o1)])) rfl rfl (hb hby d5_57)
  have G38 := gd X38 hx hby
  obtain ⟨T39, h39, X39, e39, W39, Vs39, st39⟩ := own_stD X38 hx hby hZ e38 V31 (j := (2 : Int32)) (v := (FP.dadd (FP.dadd m0_ m2_) m3_)) d5_63 ⟨by decide, by decide⟩ 2 rfl (Nat.le_of_ble_eq_true rfl) #[rv o0, rv o1, iv (2 : Int32)] [] 64 rfl
  have G39 := gd X39 hx hby
  have N39 := Fr.snoc X39 N31 g_o1
  have f40 := f32.other W39 (Or.inl ne_o0_o1)
  have f44 := f36.other W39 ne_w1_o1
  have Z39 := Nat.le_trans Z31 (Keep.of_wr W39).1
  have K39 : Keep h0 h39 [o1] := K31.wr W39 (Or.inl (List.mem_of_getElem? (i := 0) rfl))
  have V39 : Arv Z h39 o1 k2 .double (4 : Int32) [(.double (FP.dadd (FP.dadd m0_ m2_) m3_)), (.double m1_), (.double (FP.dadd (FP.dadd m0_ m2_) m3_)), (.double m3_)] (.double (0 : UInt64)) := Vs39
  obtain ⟨T46, X46, e46, st46⟩ := getF X39 hx hZ hown (host := "") (Or.inl (wd hw 40 rfl)) Via.refl e39 f40 (g := (mkF m 57 #[rv o0, rv o1, iv (3 : Int32)] [(.ref o0), (.ref o1), (.int (3 : Int32)), (.ref o1)])) rfl rfl (hb hby d5_57)
  have G46 := gd X46 hx hby
  obtain ⟨T47, h47, X47, e47, W47, Vs47, st47⟩ := own_stD X46 hx hby hZ e46 V39 (j := (3 : Int32)) (v := (FP.dadd (FP.dadd m0_ m2_) m3_)) d5_63 ⟨by decide, by decide⟩ 3 rfl (Nat.le_of_ble_eq_true rfl) #[rv o0, rv o1, iv (3 : Int32)] [] 64 rfl
  have G47 := gd X47 hx hby
  have N47 := Fr.snoc X47 N39 g_o1
  have f48 := f40.other W47 (Or.inl ne_o0_o1)
  have f52 := f44.other W47 ne_w1_o1
  have Z47 := Nat.le_trans Z39 (Keep.of_wr W47).1
  have K47 : Keep h0 h47 [o1] := K39.wr W47 (Or.inl (List.mem_of_getElem? (i := 0) rfl))
  have V47 : Arv Z h47 o1 k2 .double (4 : Int32) [(.double (FP.dadd (FP.dadd m0_ m2_) m3_)), (.double m1_), (.double (FP.dadd (FP.dadd m0_ m2_) m3_)), (.double (FP.dadd (FP.dadd m0_ m2_) m3_))] (.double (0 : UInt64)) := Vs47
  obtain ⟨fs, hr, hrun, hended, hW, hsame⟩ := X47.leave (v := none) (fun _ => rfl)
  refine ⟨_, _, pre0 _ ?_, hrun, hended, _, _, rfl, ?_, ⟨_, rfl⟩, hW, hsame.mono (by decide) (by decide)⟩
  · show Steps p.tables e below (s₁.setTop (mkF m 0 #[rv o0, rv o1, .unset] [])) _
    refine maloadN 1 G0 d5_0 rfl rfl rfl ?_
    refine st1 _ ?_
    show Steps p.tables e below (T1.setTop (mkF m 4 #[rv o0, rv o1, .unset] [(.ref w1)])) _
    refine XS.ifnullNo X1.here hx rfl (hb hby d5_4) rfl ?_
    show Steps p.tables e below (T1.setTop (mkF m 7 #[rv o0, rv o1, .unset] [])) _
    refine miconst 8 G1 d5_7 (v := (0 : Int32)) rfl rfl ?_
    refine mistoreN 9 G1 d5_8 #[rv o0, rv o1, iv (0 : Int32)] rfl rfl ?_
    refine miloadN 10 G1 d5_9 rfl rfl ?_
    refine maloadN 11 G1 d5_10 rfl rfl rfl ?_
    refine mlen 12 X1 hx hby hZ e1 V_o1 d5_11 rfl ?_
    refine micmpNo 15 G1 d5_12 (tlt (by decide : (0 : Int32) < (4 : Int32))).2.1 rfl ?_
    refine maloadN 16 G1 d5_15 rfl rfl rfl ?_
    refine st2 _ ?_
    show Steps p.tables e below (T2.setTop (mkF m 19 #[rv o0, rv o1, iv (0 : Int32)] [(.ref w1)])) _
    refine miloadN 20 G2 d5_19 rfl rfl ?_
    refine miaload 21 X2 hx hby hZ e2 V_w1 (v := (0 : Int32)) d5_20 ⟨by decide, by decide⟩ rfl rfl ?_
    refine miloadN 22 G2 d5_21 rfl rfl ?_
    refine micmpYes 39 G2 d5_22 (teq (by decide : (0 : Int32) = (0 : Int32))).1 (by decide) rfl ?_
    refine miinc 42 G2 d5_39 rfl #[rv o0, rv o1, iv (1 : Int32)] rfl rfl ?_
    refine mgoto 9 G2 d5_42 (by decide) rfl ?_
    refine miloadN 10 G2 d5_9 rfl rfl ?_
    refine maloadN 11 G2 d5_10 rfl rfl rfl ?_
    refine mlen 12 X2 hx hby hZ e2 V_o1 d5_11 rfl ?_
    refine micmpNo 15 G2 d5_12 (tlt (by decide : (1 : Int32) < (4 : Int32))).2.1 rfl ?_
    refine maloadN 16 G2 d5_15 rfl rfl rfl ?_
    refine st3 _ ?_
    show Steps p.tables e below (T3.setTop (mkF m 19 #[rv o0, rv o1, iv (1 : Int32)] [(.ref w1)])) _
    refine miloadN 20 G3 d5_19 rfl rfl ?_
    refine miaload 21 X3 hx hby hZ e3 V_w1 (v := (1 : Int32)) d5_20 ⟨by decide, by decide⟩ rfl rfl ?_
    refine miloadN 22 G3 d5_21 rfl rfl ?_
    refine micmpYes 39 G3 d5_22 (teq (by decide : (1 : Int32) = (1 : Int32))).1 (by decide) rfl ?_
    refine miinc 42 G3 d5_39 rfl #[rv o0, rv o1, iv (2 : Int32)] rfl rfl ?_
    refine mgoto 9 G3 d5_42 (by decide) rfl ?_
    refine miloadN 10 G3 d5_9 rfl rfl ?_
    refine maloadN 11 G3 d5_10 rfl rfl rfl ?_
    refine mlen 12 X3 hx hby hZ e3 V_o1 d5_11 rfl ?_
    refine micmpNo 15 G3 d5_12 (tlt (by decide : (2 : Int32) < (4 : Int32))).2.1 rfl ?_
    refine maloadN 16 G3 d5_15 rfl rfl rfl ?_
    refine st4 _ ?_
    show Steps p.tables e below (T4.setTop (mkF m 19 #[rv o0, rv o1, iv (2 : Int32)] [(.ref w1)])) _
    refine miloadN 20 G4 d5_19 rfl rfl ?_
    refine miaload 21 X4 hx hby hZ e4 V_w1 (v := (0 : Int32)) d5_20 ⟨by decide, by decide⟩ rfl rfl ?_
    refine miloadN 22 G4 d5_21 rfl rfl ?_
    refine micmpNo 25 G4 d5_22 (feq (by decide : ¬ ((0 : Int32) = (2 : Int32)))).1 rfl ?_
    refine maloadN 26 G4 d5_25 rfl rfl rfl ?_
    refine maloadN 27 G4 d5_26 rfl rfl rfl ?_
    refine st5 _ ?_
    show Steps p.tables e below (T5.setTop (mkF m 30 #[rv o0, rv o1, iv (2 : Int32)] [(.ref w1), (.ref o1)])) _
    refine miloadN 31 G5 d5_30 rfl rfl ?_
    refine miaload 32 X5 hx hby hZ e5 V_w1 (v := (0 : Int32)) d5_31 ⟨by decide, by decide⟩ rfl rfl ?_
    refine mdup2 33 G5 d5_32 rfl rfl rfl ?_
    refine mdaload 34 X5 hx hby hZ e5 V_o1 (v := m0_) d5_33 ⟨by decide, by decide⟩ rfl rfl ?_
    refine maloadN 35 G5 d5_34 rfl rfl rfl ?_
    refine miloadN 36 G5 d5_35 rfl rfl ?_
    refine mdaload 37 X5 hx hby hZ e5 V_o1 (v := m2_) d5_36 ⟨by decide, by decide⟩ rfl rfl ?_
    refine mdadd 38 G5 d5_37 (own_rm5_100_hn37 o0 o1 m0_ m1_ m2_ m3_ w1 k1 k2 hm) rfl ?_
    refine st6 _ ?_
    refine miinc 42 G6 d5_39 rfl #[rv o0, rv o1, iv (3 : Int32)] rfl rfl ?_
    refine mgoto 9 G6 d5_42 (by decide) rfl ?_
    refine miloadN 10 G6 d5_9 rfl rfl ?_
    refine maloadN 11 G6 d5_10 rfl rfl rfl ?_
    refine mlen 12 X6 hx hby hZ e6 V6 d5_11 rfl ?_
    refine micmpNo 15 G6 d5_12 (tlt (by decide : (3 : Int32) < (4 : Int32))).2.1 rfl ?_
    refine maloadN 16 G6 d5_15 rfl rfl rfl ?_
    refine st13 _ ?_
    show Steps p.tables e below (T13.setTop (mkF m 19 #[rv o0, rv o1, iv (3 : Int32)] [(.ref w1)])) _
    refine miloadN 20 G13 d5_19 rfl rfl ?_
    refine miaload 21 X13 hx hby hZ e13 f11 (v := (0 : Int32)) d5_20 ⟨by decide, by decide⟩ rfl rfl ?_
    refine miloadN 22 G13 d5_21 rfl rfl ?_
    refine micmpNo 25 G13 d5_22 (feq (by decide : ¬ ((0 : Int32) = (3 : Int32)))).1 rfl ?_
    refine maloadN 26 G13 d5_25 rfl rfl rfl ?_
    refine maloadN 27 G13 d5_26 rfl rfl rfl ?_
    refine st14 _ ?_
    show Steps p.tables e below (T14.setTop (mkF m 30 #[rv o0, rv o1, iv (3 : Int32)] [(.ref w1), (.ref o1)])) _
    refine miloadN 31 G14 d5_30 rfl rfl ?_
    refine miaload 32 X14 hx hby hZ e14 f11 (v := (0 : Int32)) d5_31 ⟨by decide, by decide⟩ rfl rfl ?_
    refine mdup2 33 G14 d5_32 rfl rfl rfl ?_
    refine mdaload 34 X14 hx hby hZ e14 V6 (v := (FP.dadd m0_ m2_)) d5_33 ⟨by decide, by decide⟩ rfl rfl ?_
    refine maloadN 35 G14 d5_34 rfl rfl rfl ?_
    refine miloadN 36 G14 d5_35 rfl rfl ?_
    refine mdaload 37 X14 hx hby hZ e14 V6 (v := m3_) d5_36 ⟨by decide, by decide⟩ rfl rfl ?_
    refine mdadd 38 G14 d5_37 (own_rm5_100_hn37_1 o0 o1 m0_ m1_ m2_ m3_ w1 k1 k2 hm) rfl ?_
    refine st15 _ ?_
    refine miinc 42 G15 d5_39 rfl #[rv o0, rv o1, iv (4 : Int32)] rfl rfl ?_
    refine mgoto 9 G15 d5_42 (by decide) rfl ?_
    refine miloadN 10 G15 d5_9 rfl rfl ?_
    refine maloadN 11 G15 d5_10 rfl rfl rfl ?_
    refine mlen 12 X15 hx hby hZ e15 V15 d5_11 rfl ?_
    refine micmpYes 45 G15 d5_12 (flt (by decide : ¬ ((4 : Int32) < (4 : Int32)))).2.1 (by decide) rfl ?_
    refine miconst 46 G15 d5_45 (v := (0 : Int32)) rfl rfl ?_
    refine mistoreN 47 G15 d5_46 #[rv o0, rv o1, iv (0 : Int32)] rfl rfl ?_
    refine miloadN 48 G15 d5_47 rfl rfl ?_
    refine maloadN 49 G15 d5_48 rfl rfl rfl ?_
    refine mlen 50 X15 hx hby hZ e15 V15 d5_49 rfl ?_
    refine micmpNo 53 G15 d5_50 (tlt (by decide : (0 : Int32) < (4 : Int32))).2.1 rfl ?_
    refine maloadN 54 G15 d5_53 rfl rfl rfl ?_
    refine miloadN 55 G15 d5_54 rfl rfl ?_
    refine maloadN 56 G15 d5_55 rfl rfl rfl ?_
    refine maloadN 57 G15 d5_56 rfl rfl rfl ?_
    refine st22 _ ?_
    show Steps p.tables e below (T22.setTop (mkF m 60 #[rv o0, rv o1, iv (0 : Int32)] [(.ref w1), (.ref o1), (.int (0 : Int32)), (.ref o1)])) _
    refine miloadN 61 G22 d5_60 rfl rfl ?_
    refine miaload 62 X22 hx hby hZ e22 f20 (v := (0 : Int32)) d5_61 ⟨by decide, by decide⟩ rfl rfl ?_
    refine mdaload 63 X22 hx hby hZ e22 V15 (v := (FP.dadd (FP.dadd m0_ m2_) m3_)) d5_62 ⟨by decide, by decide⟩ rfl rfl ?_
    refine st23 _ ?_
    refine miinc 67 G23 d5_64 rfl #[rv o0, rv o1, iv (1 : Int32)] rfl rfl ?_
    refine mgoto 47 G23 d5_67 (by decide) rfl ?_
    refine miloadN 48 G23 d5_47 rfl rfl ?_
    refine maloadN 49 G23 d5_48 rfl rfl rfl ?_
    refine mlen 50 X23 hx hby hZ e23 V23 d5_49 rfl ?_
    refine micmpNo 53 G23 d5_50 (tlt (by decide : (1 : Int32) < (4 : Int32))).2.1 rfl ?_
    refine maloadN 54 G23 d5_53 rfl rfl rfl ?_
    refine miloadN 55 G23 d5_54 rfl rfl ?_
    refine maloadN 56 G23 d5_55 rfl rfl rfl ?_
    refine maloadN 57 G23 d5_56 rfl rfl rfl ?_
    refine st30 _ ?_
    show Steps p.tables e below (T30.setTop (mkF m 60 #[rv o0, rv o1, iv (1 : Int32)] [(.ref w1), (.ref o1), (.int (1 : Int32)), (.ref o1)])) _
    refine miloadN 61 G30 d5_60 rfl rfl ?_
    refine miaload 62 X30 hx hby hZ e30 f28 (v := (1 : Int32)) d5_61 ⟨by decide, by decide⟩ rfl rfl ?_
    refine mdaload 63 X30 hx hby hZ e30 V23 (v := m1_) d5_62 ⟨by decide, by decide⟩ rfl rfl ?_
    refine st31 _ ?_
    refine miinc 67 G31 d5_64 rfl #[rv o0, rv o1, iv (2 : Int32)] rfl rfl ?_
    refine mgoto 47 G31 d5_67 (by decide) rfl ?_
    refine miloadN 48 G31 d5_47 rfl rfl ?_
    refine maloadN 49 G31 d5_48 rfl rfl rfl ?_
    refine mlen 50 X31 hx hby hZ e31 V31 d5_49 rfl ?_
    refine micmpNo 53 G31 d5_50 (tlt (by decide : (2 : Int32) < (4 : Int32))).2.1 rfl ?_
    refine maloadN 54 G31 d5_53 rfl rfl rfl ?_
    refine miloadN 55 G31 d5_54 rfl rfl ?_
    refine maloadN 56 G31 d5_55 rfl rfl rfl ?_
    refine maloadN 57 G31 d5_56 rfl rfl rfl ?_
    refine st38 _ ?_
    show Steps p.tables e below (T38.setTop (mkF m 60 #[rv o0, rv o1, iv (2 : Int32)] [(.ref w1), (.ref o1), (.int (2 : Int32)), (.ref o1)])) _
    refine miloadN 61 G38 d5_60 rfl rfl ?_
    refine miaload 62 X38 hx hby hZ e38 f36 (v := (0 : Int32)) d5_61 ⟨by decide, by decide⟩ rfl rfl ?_
    refine mdaload 63 X38 hx hby hZ e38 V31 (v := (FP.dadd (FP.dadd m0_ m2_) m3_)) d5_62 ⟨by decide, by decide⟩ rfl rfl ?_
    refine st39 _ ?_
    refine miinc 67 G39 d5_64 rfl #[rv o0, rv o1, iv (3 : Int32)] rfl rfl ?_
    refine mgoto 47 G39 d5_67 (by decide) rfl ?_
    refine miloadN 48 G39 d5_47 rfl rfl ?_
    refine maloadN 49 G39 d5_48 rfl rfl rfl ?_
    refine mlen 50 X39 hx hby hZ e39 V39 d5_49 rfl ?_
    refine micmpNo 53 G39 d5_50 (tlt (by decide : (3 : Int32) < (4 : Int32))).2.1 rfl ?_
    refine maloadN 54 G39 d5_53 rfl rfl rfl ?_
    refine miloadN 55 G39 d5_54 rfl rfl ?_
    refine maloadN 56 G39 d5_55 rfl rfl rfl ?_
    refine maloadN 57 G39 d5_56 rfl rfl rfl ?_
    refine st46 _ ?_
    show Steps p.tables e below (T46.setTop (mkF m 60 #[rv o0, rv o1, iv (3 : Int32)] [(.ref w1), (.ref o1), (.int (3 : Int32)), (.ref o1)])) _
    refine miloadN 61 G46 d5_60 rfl rfl ?_
    refine miaload 62 X46 hx hby hZ e46 f44 (v := (0 : Int32)) d5_61 ⟨by decide, by decide⟩ rfl rfl ?_
    refine mdaload 63 X46 hx hby hZ e46 V39 (v := (FP.dadd (FP.dadd m0_ m2_) m3_)) d5_62 ⟨by decide, by decide⟩ rfl rfl ?_
    refine st47 _ ?_
    refine miinc 67 G47 d5_64 rfl #[rv o0, rv o1, iv (4 : Int32)] rfl rfl ?_
    refine mgoto 47 G47 d5_67 (by decide) rfl ?_
    refine miloadN 48 G47 d5_47 rfl rfl ?_
    refine maloadN 49 G47 d5_48 rfl rfl rfl ?_
    refine mlen 50 X47 hx hby hZ e47 V47 d5_49 rfl ?_
    refine micmpYes 70 G47 d5_50 (flt (by decide : ¬ ((4 : Int32) < (4 : Int32)))).2.1 (by decide) rfl ?_
    exact X47.returnOut hx Bd.returns (hb hby d5_70) hr
  · show Q5_100 Z o0 o1 m0_ m1_ m2_ m3_ w1 k1 k2 h0 n0 _ T47.heap _
    rw [e47]
    exact ⟨rfl, N47, K47, V47⟩
theorem ef5_101 (m : MethodId) (o0 : Addr) (o1 : Addr) : entryFrame m #[(.ref o0), (.ref o1)] 3 = mkF m 0 #[rv o0, rv o1, .unset] [] := by first | (simp [entryFrame, mkF, argsToLocals, Value.category]; done) | rfl
abbrev room_of_5_101 : Room := { frames := 0, cells := 0, slots := 0, locals := 0 }
def Q5_101 (Z : State) (o0 : Addr) (o1 : Addr) (m0_ : UInt64) (m1_ : UInt64) (m2_ : UInt64) (m3_ : UInt64) (w1 : Addr) (k1 : ClassId) (k2 : ClassId) (h0 : Heap) (n0 : Nat) (v : Option Value) (h : Heap) (L : List Loc) : Prop := v = none ∧ Fr n0 L ∧ Keep h0 h [o1] ∧ Arv Z h o1 k2 .double (4 : Int32) [(.double (FP.dadd m0_ m2_)), (.double (FP.dadd m1_ m3_)), (.double (FP.dadd m0_ m2_)), (.double (FP.dadd m1_ m3_))] (.double (0 : UInt64))
theorem own_rm5_101_hn37 (o0 : Addr) (o1 : Addr) (m0_ : UInt64) (m1_ : UInt64) (m2_ : UInt64) (m3_ : UInt64) (w1 : Addr) (k1 : ClassId) (k2 : ClassId) (hm : own_fin4 m0_ m1_ m2_ m3_) : Jvm.Free.Fl.NoNaN64 (FP.dadd m0_ m2_) := (Jvm.Free.Fl.dadd_out hm.1.noNaN hm.2.2.1)
theorem own_rm5_101_hn37_1 (o0 : Addr) (o1 : Addr) (m0_ : UInt64) (m1_ : UInt64) (m2_ : UInt64) (m3_ : UInt64) (w1 : Addr) (k1 : ClassId) (k2 : ClassId) (hm : own_fin4 m0_ m1_ m2_ m3_) : Jvm.Free.Fl.NoNaN64 (FP.dadd m1_ m3_) := (Jvm.Free.Fl.dadd_out hm.2.1.noNaN hm.2.2.2)
set_option maxRecDepth 65536 in
set_option maxHeartbeats 40000000 in
theorem rm5_101 (l : Launch) (Z : State) (a0 : Array Value) (hw : ∀ d ∈ tables_1, d.before a0 Z = true) (ws : List Jvm.Cond) (o0 : Addr) (o1 : Addr) {m0_ : UInt64} {m1_ : UInt64} {m2_ : UInt64} {m3_ : UInt64} {w1 : Addr} {k1 : ClassId} {k2 : ClassId} (h0 : Heap) (n0 : Nat) (Z0 : n0 ≤ h0.size) (hm : own_fin4 m0_ m1_ m2_ m3_) (F_groups_o0 : Fld Z h0 o0 "com/example/oceanus/oceanus/numerics/Tolerances" "groups" "[I" (.ref w1)) (ne_o0_o1 : o0 ≠ o1) (ne_w1_o1 : w1 ≠ o1) (g_o1 : n0 ≤ o1) (V_w1 : Arv Z h0 w1 k1 .int (4 : Int32) [(.int (0 : Int32)), (.int (1 : Int32)), (.int (0 : Int32)), (.int (1 : Int32))] (.int (0 : Int32))) (V_o1 : Arv Z h0 o1 k2 .double (4 : Int32) [(.double m0_), (.double m1_), (.double m2_), (.double m3_)] (.double (0 : UInt64))) :
    MetFree l (⟨"com/example/oceanus/oceanus/numerics/Tolerances", "group", "([D)V"⟩ : MethodName) (head1 (Jvm.Cond.code (⟨"com/example/oceanus/oceanus/numerics/Tolerances", "group", "([D)V"⟩ : MethodName) prog_115_method_4_code 3 none :: ws) (room_of_5_101)) (fun a U => a = #[(.ref o0), (.ref o1)] ∧ Z.Warmed39 U.vm ∧ U.heap = h0) (fun _ _ _ _ _ => True) (fun _ U o U' => ∃ v L, o = .returned v ∧ Q5_101 Z o0 o1 m0_ m1_ m2_ m3_ w1 k1 k2 h0 n0 v U'.heap L ∧ FrameEnd U o U' L (room_of_5_101).cells (room_of_5_101).slots) := by
  refine MetFree.of_bodySF (plainFor_of_name pn_5) hisR ?_
  intro p e s m args below meth c s₁ Bd hml0 hP hK
  obtain ⟨rfl, hZ, hh⟩ := hP
  have hx := Bd.exec
  have hby := Bd.bytes
  have hml : c.maxLocals = 3 := hml0
  have hown : s.vm.findClass "com/example/oceanus/oceanus/numerics/Tolerances" = some m.cls := findClass_of_methodNamed Bd.named
  have hnm := (name_of_methodNamed Bd.named Bd.method).1
  have X0 : Stand p l e (room_of_5_101) s m #[(.ref o0), (.ref o1)] below meth c s₁ [] 0 0 := Stand.of_body Bd
  have e0 : s₁.heap = h0 := by rw [← hh, Bd.state]; rfl
  have N0 := Fr.nil n0
  have G0 := gd X0 hx hby
  have pre0 : ∀ t, Steps p.tables e below (s₁.setTop (mkF m 0 #[rv o0, rv o1, .unset] [])) t → Steps p.tables e below (s₁.setTop (entryFrame m #[(.ref o0), (.ref o1)] 3)) t := fun t k => castTop (ef5_101 m o0 o1) k
  obtain ⟨T1, X1, e1, st1⟩ := getF X0 hx hZ hown (host := "") (Or.inl (wd hw 40 rfl)) Via.refl e0 F_groups_o0 (g := (mkF m 1 #[rv o0, rv o1, .unset] [(.ref o0)])) rfl rfl (hb hby d5_1)
  have G1 := gd X1 hx hby
  obtain ⟨T2, X2, e2, st2⟩ := getF X1 hx hZ hown (host := "") (Or.inl (wd hw 40 rfl)) Via.refl e1 F_groups_o0 (g := (mkF m 16 #[rv o0, rv o1, iv (0 : Int32)] [(.ref o0)])) rfl rfl (hb hby d5_16)
  have G2 := gd X2 hx hby
  obtain ⟨T3, X3, e3, st3⟩ := getF X2 hx hZ hown (host := "") (Or.inl (wd hw 40 rfl)) Via.refl e2 F_groups_o0 (g := (mkF m 16 #[rv o0, rv o1, iv (1 : Int32)] [(.ref o0)])) rfl rfl (hb hby d5_16)
  have G3 := gd X3 hx hby
  obtain ⟨T4, X4, e4, st4⟩ := getF X3 hx hZ hown (host := "") (Or.inl (wd hw 40 rfl)) Via.refl e3 F_groups_o0 (g := (mkF m 16 #[rv o0, rv o1, iv (2 : Int32)] [(.ref o0)])) rfl rfl (hb hby d5_16)
  have G4 := gd X4 hx hby
  obtain ⟨T5, X5, e5, st5⟩ := getF X4 hx hZ hown (host := "") (Or.inl (wd hw 40 rfl)) Via.refl e4 F_groups_o0 (g := (mkF m 27 #[rv o0, rv o1, iv (2 : Int32)] [(.ref o0), (.ref o1)])) rfl rfl (hb hby d5_27)
  have G5 := gd X5 hx hby
  obtain ⟨T6, h6, X6, e6, W6, Vs6, st6⟩ := own_stD X5 hx hby hZ e5 V_o1 (j := (0 : Int32)) (v := (FP.dadd m0_ m2_)) d5_38 ⟨by decide, by decide⟩ 0 rfl (Nat.le_of_ble_eq_true rfl) #[rv o0, rv o1, iv (2 : Int32)] [] 39 rfl
  have G6 := gd X6 hx hby
  have N6 := Fr.snoc X6 N0 g_o1
  have f7 := F_groups_o0.other W6 (Or.inl ne_o0_o1)
  have f11 := V_w1.other W6 ne_w1_o1
  have Z6 := Nat.le_trans Z0 (Keep.of_wr W6).1
  have K6 : Keep h0 h6 [o1] := (Keep.refl h0 [o1]).wr W6 (Or.inl (List.mem_of_getElem? (i := 0) rfl))
  have V6 : Arv Z h6 o1 k2 .double (4 : Int32) [(.double (FP.dadd m0_ m2_)), (.double m1_), (.double m2_), (.double m3_)] (.double (0 : UInt64)) := Vs6
  obtain ⟨T13, X13, e13, st13⟩ := getF X6 hx hZ hown (host := "") (Or.inl (wd hw 40 rfl)) Via.refl e6 f7 (g := (mkF m 16 #[rv o0, rv o1, iv (3 : Int32)] [(.ref o0)])) rfl rfl (hb hby d5_16)
  have G13 := gd X13 hx hby
  obtain ⟨T14, X14, e14, st14⟩ := getF X13 hx hZ hown (host := "") (Or.inl (wd hw 40 rfl)) Via.refl e13 f7 (g := (mkF m 27 #[rv o0, rv o1, iv (3 : Int32)] [(.ref o0), (.ref o1)])) rfl rfl (hb hby d5_27)
  have G14 := gd X14 hx hby
  obtain ⟨T15, h15, X15, e15, W15, Vs15, st15⟩ := own_stD X14 hx hby hZ e14 V6 (j := (1 : Int32)) (v := (FP.dadd m1_ m3_)) d5_38 ⟨by decide, by decide⟩ 1 rfl (Nat.le_of_ble_eq_true rfl) #[rv o0, rv o1, iv (3 : Int32)] [] 39 rfl
  have G15 := gd X15 hx hby
  have N15 := Fr.snoc X15 N6 g_o1
  have f16 := f7.other W15 (Or.inl ne_o0_o1)
  have f20 := f11.other W15 ne_w1_o1
  have Z15 := Nat.le_trans Z6 (Keep.of_wr W15).1
  have K15 : Keep h0 h15 [o1] := K6.wr W15 (Or.inl (List.mem_of_getElem? (i := 0) rfl))
  have V15 : Arv Z h15 o1 k2 .double (4 : Int32) [(.double (FP.dadd m0_ m2_)), (.double (FP.dadd m1_ m3_)), (.double m2_), (.double m3_)] (.double (0 : UInt64)) := Vs15
  obtain ⟨T22, X22, e22, st22⟩ := getF X15 hx hZ hown (host := "") (Or.inl (wd hw 40 rfl)) Via.refl e15 f16 (g := (mkF m 57 #[rv o0, rv o1, iv (0 : Int32)] [(.ref o0), (.ref o1), (.int (0 : Int32)), (.ref o1)])) rfl rfl (hb hby d5_57)
  have G22 := gd X22 hx hby
  obtain ⟨T23, h23, X23, e23, W23, Vs23, st23⟩ := own_stD X22 hx hby hZ e22 V15 (j := (0 : Int32)) (v := (FP.dadd m0_ m2_)) d5_63 ⟨by decide, by decide⟩ 0 rfl (Nat.le_of_ble_eq_true rfl) #[rv o0, rv o1, iv (0 : Int32)] [] 64 rfl
  have G23 := gd X23 hx hby
  have N23 := Fr.snoc X23 N15 g_o1
  have f24 := f16.other W23 (Or.inl ne_o0_o1)
  have f28 := f20.other W23 ne_w1_o1
  have Z23 := Nat.le_trans Z15 (Keep.of_wr W23).1
  have K23 : Keep h0 h23 [o1] := K15.wr W23 (Or.inl (List.mem_of_getElem? (i := 0) rfl))
  have V23 : Arv Z h23 o1 k2 .double (4 : Int32) [(.double (FP.dadd m0_ m2_)), (.double (FP.dadd m1_ m3_)), (.double m2_), (.double m3_)] (.double (0 : UInt64)) := Vs23
  obtain ⟨T30, X30, e30, st30⟩ := getF X23 hx hZ hown (host := "") (Or.inl (wd hw 40 rfl)) Via.refl e23 f24 (g := (mkF m 57 #[rv o0, rv o1, iv (1 : Int32)] [(.ref o0), (.ref o1), (.int (1 : Int32)), (.ref o1)])) rfl rfl (hb hby d5_57)
  have G30 := gd X30 hx hby
  obtain ⟨T31, h31, X31, e31, W31, Vs31, st31⟩ := own_stD X30 hx hby hZ e30 V23 (j := (1 : Int32)) (v := (FP.dadd m1_ m3_)) d5_63 ⟨by decide, by decide⟩ 1 rfl (Nat.le_of_ble_eq_true rfl) #[rv o0, rv o1, iv (1 : Int32)] [] 64 rfl
  have G31 := gd X31 hx hby
  have N31 := Fr.snoc X31 N23 g_o1
  have f32 := f24.other W31 (Or.inl ne_o0_o1)
  have f36 := f28.other W31 ne_w1_o1
  have Z31 := Nat.le_trans Z23 (Keep.of_wr W31).1
  have K31 : Keep h0 h31 [o1] := K23.wr W31 (Or.inl (List.mem_of_getElem? (i := 0) rfl))
  have V31 : Arv Z h31 o1 k2 .double (4 : Int32) [(.double (FP.dadd m0_ m2_)), (.double (FP.dadd m1_ m3_)), (.double m2_), (.double m3_)] (.double (0 : UInt64)) := Vs31
  obtain ⟨T38, X38, e38, st38⟩ := getF X31 hx hZ hown (host := "") (Or.inl (wd hw 40 rfl)) Via.refl e31 f32 (g := (mkF m 57 #[rv o0, rv o1, iv (2 : Int32)] [(.ref o0), (.ref o1), (.int (2 : Int32)), (.ref o1)])) rfl rfl (hb hby d5_57)
  have G38 := gd X38 hx hby
  obtain ⟨T39, h39, X39, e39, W39, Vs39, st39⟩ := own_stD X38 hx hby hZ e38 V31 (j := (2 : Int32)) (v := (FP.dadd m0_ m2_)) d5_63 ⟨by decide, by decide⟩ 2 rfl (Nat.le_of_ble_eq_true rfl) #[rv o0, rv o1, iv (2 : Int32)] [] 64 rfl
  have G39 := gd X39 hx hby
  have N39 := Fr.snoc X39 N31 g_o1
  have f40 := f32.other W39 (Or.inl ne_o0_o1)
  have f44 := f36.other W39 ne_w1_o1
  have Z39 := Nat.le_trans Z31 (Keep.of_wr W39).1
  have K39 : Keep h0 h39 [o1] := K31.wr W39 (Or.inl (List.mem_of_getElem? (i := 0) rfl))
  have V39 : Arv Z h39 o1 k2 .double (4 : Int32) [(.double (FP.dadd m0_ m2_)), (.double (FP.dadd m1_ m3_)), (.double (FP.dadd m0_ m2_)), (.double m3_)] (.double (0 : UInt64)) := Vs39
  obtain ⟨T46, X46, e46, st46⟩ := getF X39 hx hZ hown (host := "") (Or.inl (wd hw 40 rfl)) Via.refl e39 f40 (g := (mkF m 57 #[rv o0, rv o1, iv (3 : Int32)] [(.ref o0), (.ref o1), (.int (3 : Int32)), (.ref o1)])) rfl rfl (hb hby d5_57)
  have G46 := gd X46 hx hby
  obtain ⟨T47, h47, X47, e47, W47, Vs47, st47⟩ := own_stD X46 hx hby hZ e46 V39 (j := (3 : Int32)) (v := (FP.dadd m1_ m3_)) d5_63 ⟨by decide, by decide⟩ 3 rfl (Nat.le_of_ble_eq_true rfl) #[rv o0, rv o1, iv (3 : Int32)] [] 64 rfl
  have G47 := gd X47 hx hby
  have N47 := Fr.snoc X47 N39 g_o1
  have f48 := f40.other W47 (Or.inl ne_o0_o1)
  have f52 := f44.other W47 ne_w1_o1
  have Z47 := Nat.le_trans Z39 (Keep.of_wr W47).1
  have K47 : Keep h0 h47 [o1] := K39.wr W47 (Or.inl (List.mem_of_getElem? (i := 0) rfl))
  have V47 : Arv Z h47 o1 k2 .double (4 : Int32) [(.double (FP.dadd m0_ m2_)), (.double (FP.dadd m1_ m3_)), (.double (FP.dadd m0_ m2_)), (.double (FP.dadd m1_ m3_))] (.double (0 : UInt64)) := Vs47
  obtain ⟨fs, hr, hrun, hended, hW, hsame⟩ := X47.leave (v := none) (fun _ => rfl)
  refine ⟨_, _, pre0 _ ?_, hrun, hended, _, _, rfl, ?_, ⟨_, rfl⟩, hW, hsame.mono (by decide) (by decide)⟩
  · show Steps p.tables e below (s₁.setTop (mkF m 0 #[rv o0, rv o1, .unset] [])) _
    refine maloadN 1 G0 d5_0 rfl rfl rfl ?_
    refine st1 _ ?_
    show Steps p.tables e below (T1.setTop (mkF m 4 #[rv o0, rv o1, .unset] [(.ref w1)])) _
    refine XS.ifnullNo X1.here hx rfl (hb hby d5_4) rfl ?_
    show Steps p.tables e below (T1.setTop (mkF m 7 #[rv o0, rv o1, .unset] [])) _
    refine miconst 8 G1 d5_7 (v := (0 : Int32)) rfl rfl ?_
    refine mistoreN 9 G1 d5_8 #[rv o0, rv o1, iv (0 : Int32)] rfl rfl ?_
    refine miloadN 10 G1 d5_9 rfl rfl ?_
    refine maloadN 11 G1 d5_10 rfl rfl rfl ?_
    refine mlen 12 X1 hx hby hZ e1 V_o1 d5_11 rfl ?_
    refine micmpNo 15 G1 d5_12 (tlt (by decide : (0 : Int32) < (4 : Int32))).2.1 rfl ?_
    refine maloadN 16 G1 d5_15 rfl rfl rfl ?_
    refine st2 _ ?_
    show Steps p.tables e below (T2.setTop (mkF m 19 #[rv o0, rv o1, iv (0 : Int32)] [(.ref w1)])) _
    refine miloadN 20 G2 d5_19 rfl rfl ?_
    refine miaload 21 X2 hx hby hZ e2 V_w1 (v := (0 : Int32)) d5_20 ⟨by decide, by decide⟩ rfl rfl ?_
    refine miloadN 22 G2 d5_21 rfl rfl ?_
    refine micmpYes 39 G2 d5_22 (teq (by decide : (0 : Int32) = (0 : Int32))).1 (by decide) rfl ?_
    refine miinc 42 G2 d5_39 rfl #[rv o0, rv o1, iv (1 : Int32)] rfl rfl ?_
    refine mgoto 9 G2 d5_42 (by decide) rfl ?_
    refine miloadN 10 G2 d5_9 rfl rfl ?_
    refine maloadN 11 G2 d5_10 rfl rfl rfl ?_
    refine mlen 12 X2 hx hby hZ e2 V_o1 d5_11 rfl ?_
    refine micmpNo 15 G2 d5_12 (tlt (by decide : (1 : Int32) < (4 : Int32))).2.1 rfl ?_
    refine maloadN 16 G2 d5_15 rfl rfl rfl ?_
    refine st3 _ ?_
    show Steps p.tables e below (T3.setTop (mkF m 19 #[rv o0, rv o1, iv (1 : Int32)] [(.ref w1)])) _
    refine miloadN 20 G3 d5_19 rfl rfl ?_
    refine miaload 21 X3 hx hby hZ e3 V_w1 (v := (1 : Int32)) d5_20 ⟨by decide, by decide⟩ rfl rfl ?_
    refine miloadN 22 G3 d5_21 rfl rfl ?_
    refine micmpYes 39 G3 d5_22 (teq (by decide : (1 : Int32) = (1 : Int32))).1 (by decide) rfl ?_
    refine miinc 42 G3 d5_39 rfl #[rv o0, rv o1, iv (2 : Int32)] rfl rfl ?_
    refine mgoto 9 G3 d5_42 (by decide) rfl ?_
    refine miloadN 10 G3 d5_9 rfl rfl ?_
    refine maloadN 11 G3 d5_10 rfl rfl rfl ?_
    refine mlen 12 X3 hx hby hZ e3 V_o1 d5_11 rfl ?_
    refine micmpNo 15 G3 d5_12 (tlt (by decide : (2 : Int32) < (4 : Int32))).2.1 rfl ?_
    refine maloadN 16 G3 d5_15 rfl rfl rfl ?_
    refine st4 _ ?_
    show Steps p.tables e below (T4.setTop (mkF m 19 #[rv o0, rv o1, iv (2 : Int32)] [(.ref w1)])) _
    refine miloadN 20 G4 d5_19 rfl rfl ?_
    refine miaload 21 X4 hx hby hZ e4 V_w1 (v := (0 : Int32)) d5_20 ⟨by decide, by decide⟩ rfl rfl ?_
    refine miloadN 22 G4 d5_21 rfl rfl ?_
    refine micmpNo 25 G4 d5_22 (feq (by decide : ¬ ((0 : Int32) = (2 : Int32)))).1 rfl ?_
    refine maloadN 26 G4 d5_25 rfl rfl rfl ?_
    refine maloadN 27 G4 d5_26 rfl rfl rfl ?_
    refine st5 _ ?_
    show Steps p.tables e below (T5.setTop (mkF m 30 #[rv o0, rv o1, iv (2 : Int32)] [(.ref w1), (.ref o1)])) _
    refine miloadN 31 G5 d5_30 rfl rfl ?_
    refine miaload 32 X5 hx hby hZ e5 V_w1 (v := (0 : Int32)) d5_31 ⟨by decide, by decide⟩ rfl rfl ?_
    refine mdup2 33 G5 d5_32 rfl rfl rfl ?_
    refine mdaload 34 X5 hx hby hZ e5 V_o1 (v := m0_) d5_33 ⟨by decide, by decide⟩ rfl rfl ?_
    refine maloadN 35 G5 d5_34 rfl rfl rfl ?_
    refine miloadN 36 G5 d5_35 rfl rfl ?_
    refine mdaload 37 X5 hx hby hZ e5 V_o1 (v := m2_) d5_36 ⟨by decide, by decide⟩ rfl rfl ?_
    refine mdadd 38 G5 d5_37 (own_rm5_101_hn37 o0 o1 m0_ m1_ m2_ m3_ w1 k1 k2 hm) rfl ?_
    refine st6 _ ?_
    refine miinc 42 G6 d5_39 rfl #[rv o0, rv o1, iv (3 : Int32)] rfl rfl ?_
    refine mgoto 9 G6 d5_42 (by decide) rfl ?_
    refine miloadN 10 G6 d5_9 rfl rfl ?_
    refine maloadN 11 G6 d5_10 rfl rfl rfl ?_
    refine mlen 12 X6 hx hby hZ e6 V6 d5_11 rfl ?_
    refine micmpNo 15 G6 d5_12 (tlt (by decide : (3 : Int32) < (4 : Int32))).2.1 rfl ?_
    refine maloadN 16 G6 d5_15 rfl rfl rfl ?_
    refine st13 _ ?_
    show Steps p.tables e below (T13.setTop (mkF m 19 #[rv o0, rv o1, iv (3 : Int32)] [(.ref w1)])) _
    refine miloadN 20 G13 d5_19 rfl rfl ?_
    refine miaload 21 X13 hx hby hZ e13 f11 (v := (1 : Int32)) d5_20 ⟨by decide, by decide⟩ rfl rfl ?_
    refine miloadN 22 G13 d5_21 rfl rfl ?_
    refine micmpNo 25 G13 d5_22 (feq (by decide : ¬ ((1 : Int32) = (3 : Int32)))).1 rfl ?_
    refine maloadN 26 G13 d5_25 rfl rfl rfl ?_
    refine maloadN 27 G13 d5_26 rfl rfl rfl ?_
    refine st14 _ ?_
    show Steps p.tables e below (T14.setTop (mkF m 30 #[rv o0, rv o1, iv (3 : Int32)] [(.ref w1), (.ref o1)])) _
    refine miloadN 31 G14 d5_30 rfl rfl ?_
    refine miaload 32 X14 hx hby hZ e14 f11 (v := (1 : Int32)) d5_31 ⟨by decide, by decide⟩ rfl rfl ?_
    refine mdup2 33 G14 d5_32 rfl rfl rfl ?_
    refine mdaload 34 X14 hx hby hZ e14 V6 (v := m1_) d5_33 ⟨by decide, by decide⟩ rfl rfl ?_
    refine maloadN 35 G14 d5_34 rfl rfl rfl ?_
    refine miloadN 36 G14 d5_35 rfl rfl ?_
    refine mdaload 37 X14 hx hby hZ e14 V6 (v := m3_) d5_36 ⟨by decide, by decide⟩ rfl rfl ?_
    refine mdadd 38 G14 d5_37 (own_rm5_101_hn37_1 o0 o1 m0_ m1_ m2_ m3_ w1 k1 k2 hm) rfl ?_
    refine st15 _ ?_
    refine miinc 42 G15 d5_39 rfl #[rv o0, rv o1, iv (4 : Int32)] rfl rfl ?_
    refine mgoto 9 G15 d5_42 (by decide) rfl ?_
    refine miloadN 10 G15 d5_9 rfl rfl ?_
    refine maloadN 11 G15 d5_10 rfl rfl rfl ?_
    refine mlen 12 X15 hx hby hZ e15 V15 d5_11 rfl ?_
    refine micmpYes 45 G15 d5_12 (flt (by decide : ¬ ((4 : Int32) < (4 : Int32)))).2.1 (by decide) rfl ?_
    refine miconst 46 G15 d5_45 (v := (0 : Int32)) rfl rfl ?_
    refine mistoreN 47 G15 d5_46 #[rv o0, rv o1, iv (0 : Int32)] rfl rfl ?_
    refine miloadN 48 G15 d5_47 rfl rfl ?_
    refine maloadN 49 G15 d5_48 rfl rfl rfl ?_
    refine mlen 50 X15 hx hby hZ e15 V15 d5_49 rfl ?_
    refine micmpNo 53 G15 d5_50 (tlt (by decide : (0 : Int32) < (4 : Int32))).2.1 rfl ?_
    refine maloadN 54 G15 d5_53 rfl rfl rfl ?_
    refine miloadN 55 G15 d5_54 rfl rfl ?_
    refine maloadN 56 G15 d5_55 rfl rfl rfl ?_
    refine maloadN 57 G15 d5_56 rfl rfl rfl ?_
    refine st22 _ ?_
    show Steps p.tables e below (T22.setTop (mkF m 60 #[rv o0, rv o1, iv (0 : Int32)] [(.ref w1), (.ref o1), (.int (0 : Int32)), (.ref o1)])) _
    refine miloadN 61 G22 d5_60 rfl rfl ?_
    refine miaload 62 X22 hx hby hZ e22 f20 (v := (0 : Int32)) d5_61 ⟨by decide, by decide⟩ rfl rfl ?_
    refine mdaload 63 X22 hx hby hZ e22 V15 (v := (FP.dadd m0_ m2_)) d5_62 ⟨by decide, by decide⟩ rfl rfl ?_
    refine st23 _ ?_
    refine miinc 67 G23 d5_64 rfl #[rv o0, rv o1, iv (1 : Int32)] rfl rfl ?_
    refine mgoto 47 G23 d5_67 (by decide) rfl ?_
    refine miloadN 48 G23 d5_47 rfl rfl ?_
    refine maloadN 49 G23 d5_48 rfl rfl rfl ?_
    refine mlen 50 X23 hx hby hZ e23 V23 d5_49 rfl ?_
    refine micmpNo 53 G23 d5_50 (tlt (by decide : (1 : Int32) < (4 : Int32))).2.1 rfl ?_
    refine maloadN 54 G23 d5_53 rfl rfl rfl ?_
    refine miloadN 55 G23 d5_54 rfl rfl ?_
    refine maloadN 56 G23 d5_55 rfl rfl rfl ?_
    refine maloadN 57 G23 d5_56 rfl rfl rfl ?_
    refine st30 _ ?_
    show Steps p.tables e below (T30.setTop (mkF m 60 #[rv o0, rv o1, iv (1 : Int32)] [(.ref w1), (.ref o1), (.int (1 : Int32)), (.ref o1)])) _
    refine miloadN 61 G30 d5_60 rfl rfl ?_
    refine miaload 62 X30 hx hby hZ e30 f28 (v := (1 : Int32)) d5_61 ⟨by decide, by decide⟩ rfl rfl ?_
    refine mdaload 63 X30 hx hby hZ e30 V23 (v := (FP.dadd m1_ m3_)) d5_62 ⟨by decide, by decide⟩ rfl rfl ?_
    refine st31 _ ?_
    refine miinc 67 G31 d5_64 rfl #[rv o0, rv o1, iv (2 : Int32)] rfl rfl ?_
    refine mgoto 47 G31 d5_67 (by decide) rfl ?_
    refine miloadN 48 G31 d5_47 rfl rfl ?_
    refine maloadN 49 G31 d5_48 rfl rfl rfl ?_
    refine mlen 50 X31 hx hby hZ e31 V31 d5_49 rfl ?_
    refine micmpNo 53 G31 d5_50 (tlt (by decide : (2 : Int32) < (4 : Int32))).2.1 rfl ?_
    refine maloadN 54 G31 d5_53 rfl rfl rfl ?_
    refine miloadN 55 G31 d5_54 rfl rfl ?_
    refine maloadN 56 G31 d5_55 rfl rfl rfl ?_
    refine maloadN 57 G31 d5_56 rfl rfl rfl ?_
    refine st38 _ ?_
    show Steps p.tables e below (T38.setTop (mkF m 60 #[rv o0, rv o1, iv (2 : Int32)] [(.ref w1), (.ref o1), (.int (2 : Int32)), (.ref o1)])) _
    refine miloadN 61 G38 d5_60 rfl rfl ?_
    refine miaload 62 X38 hx hby hZ e38 f36 (v := (0 : Int32)) d5_61 ⟨by decide, by decide⟩ rfl rfl ?_
    refine mdaload 63 X38 hx hby hZ e38 V31 (v := (FP.dadd m0_ m2_)) d5_62 ⟨by decide, by decide⟩ rfl rfl ?_
    refine st39 _ ?_
    refine miinc 67 G39 d5_64 rfl #[rv o0, rv o1, iv (3 : Int32)] rfl rfl ?_
    refine mgoto 47 G39 d5_67 (by decide) rfl ?_
    refine miloadN 48 G39 d5_47 rfl rfl ?_
    refine maloadN 49 G39 d5_48 rfl rfl rfl ?_
    refine mlen 50 X39 hx hby hZ e39 V39 d5_49 rfl ?_
    refine micmpNo 53 G39 d5_50 (tlt (by decide : (3 : Int32) < (4 : Int32))).2.1 rfl ?_
    refine maloadN 54 G39 d5_53 rfl rfl rfl ?_
    refine miloadN 55 G39 d5_54 rfl rfl ?_
    refine maloadN 56 G39 d5_55 rfl rfl rfl ?_
    refine maloadN 57 G39 d5_56 rfl rfl rfl ?_
    refine st46 _ ?_
    show Steps p.tables e below (T46.setTop (mkF m 60 #[rv o0, rv o1, iv (3 : Int32)] [(.ref w1), (.ref o1), (.int (3 : Int32)), (.ref o1)])) _
    refine miloadN 61 G46 d5_60 rfl rfl ?_
    refine miaload 62 X46 hx hby hZ e46 f44 (v := (1 : Int32)) d5_61 ⟨by decide, by decide⟩ rfl rfl ?_
    refine mdaload 63 X46 hx hby hZ e46 V39 (v := (FP.dadd m1_ m3_)) d5_62 ⟨by decide, by decide⟩ rfl rfl ?_
    refine st47 _ ?_
    refine miinc 67 G47 d5_64 rfl #[rv o0, rv o1, iv (4 : Int32)] rfl rfl ?_
    refine mgoto 47 G47 d5_67 (by decide) rfl ?_
    refine miloadN 48 G47 d5_47 rfl rfl ?_
    refine maloadN 49 G47 d5_48 rfl rfl rfl ?_
    refine mlen 50 X47 hx hby hZ e47 V47 d5_49 rfl ?_
    refine micmpYes 70 G47 d5_50 (flt (by decide : ¬ ((4 : Int32) < (4 : Int32)))).2.1 (by decide) rfl ?_
    exact X47.returnOut hx Bd.returns (hb hby d5_70) hr
  · show Q5_101 Z o0 o1 m0_ m1_ m2_ m3_ w1 k1 k2 h0 n0 _ T47.heap _
    rw [e47]
    exact ⟨rfl, N47, K47, V47⟩
theorem ef5_103 (m : MethodId) (o0 : Addr) (o1 : Addr) : entryFrame m #[(.ref o0), (.ref o1)] 3 = mkF m 0 #[rv o0, rv o1, .unset] [] := by first | (simp [entryFrame, mkF, argsToLocals, Value.category]; done) | rfl
abbrev room_of_5_103 : Room := { frames := 0, cells := 0, slots := 0, locals := 0 }
def Q5_103 (Z : State) (o0 : Addr) (o1 : Addr) (m0_ : UInt64) (m1_ : UInt64) (m2_ : UInt64) (m3_ : UInt64) (w1 : Addr) (k1 : ClassId) (k2 : ClassId) (h0 : Heap) (n0 : Nat) (v : Option Value) (h : Heap) (L : List Loc) : Prop := v = none ∧ Fr n0 L ∧ Keep h0 h [o1] ∧ Arv Z h o1 k2 .double (4 : Int32) [(.double (FP.dadd m0_ m2_)), (.double m1_), (.double (FP.dadd m0_ m2_)), (.double m3_)] (.double (0 : UInt64))
theorem own_rm5_103_hn37 (o0 : Addr) (o1 : Addr) (m0_ : UInt64) (m1_ : UInt64) (m2_ : UInt64) (m3_ : UInt64) (w1 : Addr) (k1 : ClassId) (k2 : ClassId) (hm : own_fin4 m0_ m1_ m2_ m3_) : Jvm.Free.Fl.NoNaN64 (FP.dadd m0_ m2_) := (Jvm.Free.Fl.dadd_out hm.1.noNaN hm.2.2.1)
set_option maxRecDepth 65536 in
set_option maxHeartbeats 40000000 in
theorem rm5_103 (l : Launch) (Z : State) (a0 : Array Value) (hw : ∀ d ∈ tables_1, d.before a0 Z = true) (ws : List Jvm.Cond) (o0 : Addr) (o1 : Addr) {m0_ : UInt64} {m1_ : UInt64} {m2_ : UInt64} {m3_ : UInt64} {w1 : Addr} {k1 : ClassId} {k2 : ClassId} (h0 : Heap) (n0 : Nat) (Z0 : n0 ≤ h0.size) (hm : own_fin4 m0_ m1_ m2_ m3_) (F_groups_o0 : Fld Z h0 o0 "com/example/oceanus/oceanus/numerics/Tolerances" "groups" "[I" (.ref w1)) (ne_o0_o1 : o0 ≠ o1) (ne_w1_o1 : w1 ≠ o1) (g_o1 : n0 ≤ o1) (V_w1 : Arv Z h0 w1 k1 .int (4 : Int32) [(.int (0 : Int32)), (.int (1 : Int32)), (.int (0 : Int32)), (.int (3 : Int32))] (.int (0 : Int32))) (V_o1 : Arv Z h0 o1 k2 .double (4 : Int32) [(.double m0_), (.double m1_), (.double m2_), (.double m3_)] (.double (0 : UInt64))) :
    MetFree l (⟨"com/example/oceanus/oceanus/numerics/Tolerances", "group", "([D)V"⟩ : MethodName) (head1 (Jvm.Cond.code (⟨"com/example/oceanus/oceanus/numerics/Tolerances", "group", "([D)V"⟩ : MethodName) prog_115_method_4_code 3 none :: ws) (room_of_5_103)) (fun a U => a = #[(.ref o0), (.ref o1)] ∧ Z.Warmed39 U.vm ∧ U.heap = h0) (fun _ _ _ _ _ => True) (fun _ U o U' => ∃ v L, o = .returned v ∧ Q5_103 Z o0 o1 m0_ m1_ m2_ m3_ w1 k1 k2 h0 n0 v U'.heap L ∧ FrameEnd U o U' L (room_of_5_103).cells (room_of_5_103).slots) := by
  refine MetFree.of_bodySF (plainFor_of_name pn_5) hisR ?_
  intro p e s m args below meth c s₁ Bd hml0 hP hK
  obtain ⟨rfl, hZ, hh⟩ := hP
  have hx := Bd.exec
  have hby := Bd.bytes
  have hml : c.maxLocals = 3 := hml0
  have hown : s.vm.findClass "com/example/oceanus/oceanus/numerics/Tolerances" = some m.cls := findClass_of_methodNamed Bd.named
  have hnm := (name_of_methodNamed Bd.named Bd.method).1
  have X0 : Stand p l e (room_of_5_103) s m #[(.ref o0), (.ref o1)] below meth c s₁ [] 0 0 := Stand.of_body Bd
  have e0 : s₁.heap = h0 := by rw [← hh, Bd.state]; rfl
  have N0 := Fr.nil n0
  have G0 := gd X0 hx hby
  have pre0 : ∀ t, Steps p.tables e below (s₁.setTop (mkF m 0 #[rv o0, rv o1, .unset] [])) t → Steps p.tables e below (s₁.setTop (entryFrame m #[(.ref o0), (.ref o1)] 3)) t := fun t k => castTop (ef5_103 m o0 o1) k
  obtain ⟨T1, X1, e1, st1⟩ := getF X0 hx hZ hown (host := "") (Or.inl (wd hw 40 rfl)) Via.refl e0 F_groups_o0 (g := (mkF m 1 #[rv o0, rv o1, .unset] [(.ref o0)])) rfl rfl (hb hby d5_1)
  have G1 := gd X1 hx hby
  obtain ⟨T2, X2, e2, st2⟩ := getF X1 hx hZ hown (host := "") (Or.inl (wd hw 40 rfl)) Via.refl e1 F_groups_o0 (g := (mkF m 16 #[rv o0, rv o1, iv (0 : Int32)] [(.ref o0)])) rfl rfl (hb hby d5_16)
  have G2 := gd X2 hx hby
  obtain ⟨T3, X3, e3, st3⟩ := getF X2 hx hZ hown (host := "") (Or.inl (wd hw 40 rfl)) Via.refl e2 F_groups_o0 (g := (mkF m 16 #[rv o0, rv o1, iv (1 : Int32)] [(.ref o0)])) rfl rfl (hb hby d5_16)
  have G3 := gd X3 hx hby
  obtain ⟨T4, X4, e4, st4⟩ := getF X3 hx hZ hown (host := "") (Or.inl (wd hw 40 rfl)) Via.refl e3 F_groups_o0 (g := (mkF m 16 #[rv o0, rv o1, iv (2 : Int32)] [(.ref o0)])) rfl rfl (hb hby d5_16)
  have G4 := gd X4 hx hby
  obtain ⟨T5, X5, e5, st5⟩ := getF X4 hx hZ hown (host := "") (Or.inl (wd hw 40 rfl)) Via.refl e4 F_groups_o0 (g := (mkF m 27 #[rv o0, rv o1, iv (2 : Int32)] [(.ref o0), (.ref o1)])) rfl rfl (hb hby d5_27)
  have G5 := gd X5 hx hby
  obtain ⟨T6, h6, X6, e6, W6, Vs6, st6⟩ := own_stD X5 hx hby hZ e5 V_o1 (j := (0 : Int32)) (v := (FP.dadd m0_ m2_)) d5_38 ⟨by decide, by decide⟩ 0 rfl (Nat.le_of_ble_eq_true rfl) #[rv o0, rv o1, iv (2 : Int32)] [] 39 rfl
  have G6 := gd X6 hx hby
  have N6 := Fr.snoc X6 N0 g_o1
  have f7 := F_groups_o0.other W6 (Or.inl ne_o0_o1)
  have f11 := V_w1.other W6 ne_w1_o1
  have Z6 := Nat.le_trans Z0 (Keep.of_wr W6).1
  have K6 : Keep h0 h6 [o1] := (Keep.refl h0 [o1]).wr W6 (Or.inl (List.mem_of_getElem? (i := 0) rfl))
  have V6 : Arv Z h6 o1 k2 .double (4 : Int32) [(.double (FP.dadd m0_ m2_)), (.double m1_), (.double m2_), (.double m3_)] (.double (0 : UInt64)) := Vs6
  obtain ⟨T13, X13, e13, st13⟩ := getF X6 hx hZ hown (host := "") (Or.inl (wd hw 40 rfl)) Via.refl e6 f7 (g := (mkF m 16 #[rv o0, rv o1, iv (3 : Int32)] [(.ref o0)])) rfl rfl (hb hby d5_16)
  have G13 := gd X13 hx hby
  obtain ⟨T14, X14, e14, st14⟩ := getF X13 hx hZ hown (host := "") (Or.inl (wd hw 40 rfl)) Via.refl e13 f7 (g := (mkF m 57 #[rv o0, rv o1, iv (0 : Int32)] [(.ref o0), (.ref o1), (.int (0 : Int32)), (.ref o1)])) rfl rfl (hb hby d5_57)
  have G14 := gd X14 hx hby
  obtain ⟨T15, h15, X15, e15, W15, Vs15, st15⟩ := own_stD X14 hx hby hZ e14 V6 (j := (0 : Int32)) (v := (FP.dadd m0_ m2_)) d5_63 ⟨by decide, by decide⟩ 0 rfl (Nat.le_of_ble_eq_true rfl) #[rv o0, rv o1, iv (0 : Int32)] [] 64 rfl
  have G15 := gd X15 hx hby
  have N15 := Fr.snoc X15 N6 g_o1
  have f16 := f7.other W15 (Or.inl ne_o0_o1)
  have f20 := f11.other W15 ne_w1_o1
  have Z15 := Nat.le_trans Z6 (Keep.of_wr W15).1
  have K15 : Keep h0 h15 [o1] := K6.wr W15 (Or.inl (List.mem_of_getElem? (i := 0) rfl))
  have V15 : Arv Z h15 o1 k2 .double (4 : Int32) [(.double (FP.dadd m0_ m2_)), (.double m1_), (.double m2_), (.double m3_)] (.double (0 : UInt64)) := Vs15
  obtain ⟨T22, X22, e22, st22⟩ := getF X15 hx hZ hown (host := "") (Or.inl (wd hw 40 rfl)) Via.refl e15 f16 (g := (mkF m 57 #[rv o0, rv o1, iv (1 : Int32)] [(.ref o0), (.ref o1), (.int (1 : Int32)), (.ref o1)])) rfl rfl (hb hby d5_57)
  have G22 := gd X22 hx hby
  obtain ⟨T23, h23, X23, e23, W23, Vs23, st23⟩ := own_stD X22 hx hby hZ e22 V15 (j := (1 : Int32)) (v := m1_) d5_63 ⟨by decide, by decide⟩ 1 rfl (Nat.le_of_ble_eq_true rfl) #[rv o0, rv o1, iv (1 : Int32)] [] 64 rfl
  have G23 := gd X23 hx hby
  have N23 := Fr.snoc X23 N15 g_o1
  have f24 := f16.other W23 (Or.inl ne_o0_o1)
  have f28 := f20.other W23 ne_w1_o1
  have Z23 := Nat.le_trans Z15 (Keep.of_wr W23).1
  have K23 : Keep h0 h23 [o1] := K15.wr W23 (Or.inl (List.mem_of_getElem? (i := 0) rfl))
  have V23 : Arv Z h23 o1 k2 .double (4 : Int32) [(.double (FP.dadd m0_ m2_)), (.double m1_), (.double m2_), (.double m3_)] (.double (0 : UInt64)) := Vs23
  obtain ⟨T30, X30, e30, st30⟩ := getF X23 hx hZ hown (host := "") (Or.inl (wd hw 40 rfl)) Via.refl e23 f24 (g := (mkF m 57 #[rv o0, rv o1, iv (2 : Int32)] [(.ref o0), (.ref o1), (.int (2 : Int32)), (.ref o1)])) rfl rfl (hb hby d5_57)
  have G30 := gd X30 hx hby
  obtain ⟨T31, h31, X31, e31, W31, Vs31, st31⟩ := own_stD X30 hx hby hZ e30 V23 (j := (2 : Int32)) (v := (FP.dadd m0_ m2_)) d5_63 ⟨by decide, by decide⟩ 2 rfl (Nat.le_of_ble_eq_true rfl) #[rv o0, rv o1, iv (2 : Int32)] [] 64 rfl
  have G31 := gd X31 hx hby
  have N31 := Fr.snoc X31 N23 g_o1
  have f32 := f24.other W31 (Or.inl ne_o0_o1)
  have f36 := f28.other W31 ne_w1_o1
  have Z31 := Nat.le_trans Z23 (Keep.of_wr W31).1
  have K31 : Keep h0 h31 [o1] := K23.wr W31 (Or.inl (List.mem_of_getElem? (i := 0) rfl))
  have V31 : Arv Z h31 o1 k2 .double (4 : Int32) [(.double (FP.dadd m0_ m2_)), (.double m1_), (.double (FP.dadd m0_ m2_)), (.double m3_)] (.double (0 : UInt64)) := Vs31
  obtain ⟨T38, X38, e38, st38⟩ := getF X31 hx hZ hown (host := "") (Or.inl (wd hw 40 rfl)) Via.refl e31 f32 (g := (mkF m 57 #[rv o0, rv o1, iv (3 : Int32)] [(.ref o0), (.ref o1), (.int (3 : Int32)), (.ref o1)])) rfl rfl (hb hby d5_57)
  have G38 := gd X38 hx hby
  obtain ⟨T39, h39, X39, e39, W39, Vs39, st39⟩ := own_stD X38 hx hby hZ e38 V31 (j := (3 : Int32)) (v := m3_) d5_63 ⟨by decide, by decide⟩ 3 rfl (Nat.le_of_ble_eq_true rfl) #[rv o0, rv o1, iv (3 : Int32)] [] 64 rfl
  have G39 := gd X39 hx hby
  have N39 := Fr.snoc X39 N31 g_o1
  have f40 := f32.other W39 (Or.inl ne_o0_o1)
  have f44 := f36.other W39 ne_w1_o1
  have Z39 := Nat.le_trans Z31 (Keep.of_wr W39).1
  have K39 : Keep h0 h39 [o1] := K31.wr W39 (Or.inl (List.mem_of_getElem? (i := 0) rfl))
  have V39 : Arv Z h39 o1 k2 .double (4 : Int32) [(.double (FP.dadd m0_ m2_)), (.double m1_), (.double (FP.dadd m0_ m2_)), (.double m3_)] (.double (0 : UInt64)) := Vs39
  obtain ⟨fs, hr, hrun, hended, hW, hsame⟩ := X39.leave (v := none) (fun _ => rfl)
  refine ⟨_, _, pre0 _ ?_, hrun, hended, _, _, rfl, ?_, ⟨_, rfl⟩, hW, hsame.mono (by decide) (by decide)⟩
  · show Steps p.tables e below (s₁.setTop (mkF m 0 #[rv o0, rv o1, .unset] [])) _
    refine maloadN 1 G0 d5_0 rfl rfl rfl ?_
    refine st1 _ ?_
    show Steps p.tables e below (T1.setTop (mkF m 4 #[rv o0, rv o1, .unset] [(.ref w1)])) _
    refine XS.ifnullNo X1.here hx rfl (hb hby d5_4) rfl ?_
    show Steps p.tables e below (T1.setTop (mkF m 7 #[rv o0, rv o1, .unset] [])) _
    refine miconst 8 G1 d5_7 (v := (0 : Int32)) rfl rfl ?_
    refine mistoreN 9 G1 d5_8 #[rv o0, rv o1, iv (0 : Int32)] rfl rfl ?_
    refine miloadN 10 G1 d5_9 rfl rfl ?_
    refine maloadN 11 G1 d5_10 rfl rfl rfl ?_
    refine mlen 12 X1 hx hby hZ e1 V_o1 d5_11 rfl ?_
    refine micmpNo 15 G1 d5_12 (tlt (by decide : (0 : Int32) < (4 : Int32))).2.1 rfl ?_
    refine maloadN 16 G1 d5_15 rfl rfl rfl ?_
    refine st2 _ ?_
    show Steps p.tables e below (T2.setTop (mkF m 19 #[rv o0, rv o1, iv (0 : Int32)] [(.ref w1)])) _
    refine miloadN 20 G2 d5_19 rfl rfl ?_
    refine miaload 21 X2 hx hby hZ e2 V_w1 (v := (0 : Int32)) d5_20 ⟨by decide, by decide⟩ rfl rfl ?_
    refine miloadN 22 G2 d5_21 rfl rfl ?_
    refine micmpYes 39 G2 d5_22 (teq (by decide : (0 : Int32) = (0 : Int32))).1 (by decide) rfl ?_
    refine miinc 42 G2 d5_39 rfl #[rv o0, rv o1, iv (1 : Int32)] rfl rfl ?_
    refine mgoto 9 G2 d5_42 (by decide) rfl ?_
    refine miloadN 10 G2 d5_9 rfl rfl ?_
    refine maloadN 11 G2 d5_10 rfl rfl rfl ?_
    refine mlen 12 X2 hx hby hZ e2 V_o1 d5_11 rfl ?_
    refine micmpNo 15 G2 d5_12 (tlt (by decide : (1 : Int32) < (4 : Int32))).2.1 rfl ?_
    refine maloadN 16 G2 d5_15 rfl rfl rfl ?_
    refine st3 _ ?_
    show Steps p.tables e below (T3.setTop (mkF m 19 #[rv o0, rv o1, iv (1 : Int32)] [(.ref w1)])) _
    refine miloadN 20 G3 d5_19 rfl rfl ?_
    refine miaload 21 X3 hx hby hZ e3 V_w1 (v := (1 : Int32)) d5_20 ⟨by decide, by decide⟩ rfl rfl ?_
    refine miloadN 22 G3 d5_21 rfl rfl ?_
    refine micmpYes 39 G3 d5_22 (teq (by decide : (1 : Int32) = (1 : Int32))).1 (by decide) rfl ?_
    refine miinc 42 G3 d5_39 rfl #[rv o0, rv o1, iv (2 : Int32)] rfl rfl ?_
    refine mgoto 9 G3 d5_42 (by decide) rfl ?_
    refine miloadN 10 G3 d5_9 rfl rfl ?_
    refine maloadN 11 G3 d5_10 rfl rfl rfl ?_
    refine mlen 12 X3 hx hby hZ e3 V_o1 d5_11 rfl ?_
    refine micmpNo 15 G3 d5_12 (tlt (by decide : (2 : Int32) < (4 : Int32))).2.1 rfl ?_
    refine maloadN 16 G3 d5_15 rfl rfl rfl ?_
    refine st4 _ ?_
    show Steps p.tables e below (T4.setTop (mkF m 19 #[rv o0, rv o1, iv (2 : Int32)] [(.ref w1)])) _
    refine miloadN 20 G4 d5_19 rfl rfl ?_
    refine miaload 21 X4 hx hby hZ e4 V_w1 (v := (0 : Int32)) d5_20 ⟨by decide, by decide⟩ rfl rfl ?_
    refine miloadN 22 G4 d5_21 rfl rfl ?_
    refine micmpNo 25 G4 d5_22 (feq (by decide : ¬ ((0 : Int32) = (2 : Int32)))).1 rfl ?_
    refine maloadN 26 G4 d5_25 rfl rfl rfl ?_
    refine maloadN 27 G4 d5_26 rfl rfl rfl ?_
    refine st5 _ ?_
    show Steps p.tables e below (T5.setTop (mkF m 30 #[rv o0, rv o1, iv (2 : Int32)] [(.ref w1), (.ref o1)])) _
    refine miloadN 31 G5 d5_30 rfl rfl ?_
    refine miaload 32 X5 hx hby hZ e5 V_w1 (v := (0 : Int32)) d5_31 ⟨by decide, by decide⟩ rfl rfl ?_
    refine mdup2 33 G5 d5_32 rfl rfl rfl ?_
    refine mdaload 34 X5 hx hby hZ e5 V_o1 (v := m0_) d5_33 ⟨by decide, by decide⟩ rfl rfl ?_
    refine maloadN 35 G5 d5_34 rfl rfl rfl ?_
    refine miloadN 36 G5 d5_35 rfl rfl ?_
    refine mdaload 37 X5 hx hby hZ e5 V_o1 (v := m2_) d5_36 ⟨by decide, by decide⟩ rfl rfl ?_
    refine mdadd 38 G5 d5_37 (own_rm5_103_hn37 o0 o1 m0_ m1_ m2_ m3_ w1 k1 k2 hm) rfl ?_
    refine st6 _ ?_
    refine miinc 42 G6 d5_39 rfl #[rv o0, rv o1, iv (3 : Int32)] rfl rfl ?_
    refine mgoto 9 G6 d5_42 (by decide) rfl ?_
    refine miloadN 10 G6 d5_9 rfl rfl ?_
    refine maloadN 11 G6 d5_10 rfl rfl rfl ?_
    refine mlen 12 X6 hx hby hZ e6 V6 d5_11 rfl ?_
    refine micmpNo 15 G6 d5_12 (tlt (by decide : (3 : Int32) < (4 : Int32))).2.1 rfl ?_
    refine maloadN 16 G6 d5_15 rfl rfl rfl ?_
    refine st13 _ ?_
    show Steps p.tables e below (T13.setTop (mkF m 19 #[rv o0, rv o1, iv (3 : Int32)] [(.ref w1)])) _
    refine miloadN 20 G13 d5_19 rfl rfl ?_
    refine miaload 21 X13 hx hby hZ e13 f11 (v := (3 : Int32)) d5_20 ⟨by decide, by decide⟩ rfl rfl ?_
    refine miloadN 22 G13 d5_21 rfl rfl ?_
    refine micmpYes 39 G13 d5_22 (teq (by decide : (3 : Int32) = (3 : Int32))).1 (by decide) rfl ?_
    refine miinc 42 G13 d5_39 rfl #[rv o0, rv o1, iv (4 : Int32)] rfl rfl ?_
    refine mgoto 9 G13 d5_42 (by decide) rfl ?_
    refine miloadN 10 G13 d5_9 rfl rfl ?_
    refine maloadN 11 G13 d5_10 rfl rfl rfl ?_
    refine mlen 12 X13 hx hby hZ e13 V6 d5_11 rfl ?_
    refine micmpYes 45 G13 d5_12 (flt (by decide : ¬ ((4 : Int32) < (4 : Int32)))).2.1 (by decide) rfl ?_
    refine miconst 46 G13 d5_45 (v := (0 : Int32)) rfl rfl ?_
    refine mistoreN 47 G13 d5_46 #[rv o0, rv o1, iv (0 : Int32)] rfl rfl ?_
    refine miloadN 48 G13 d5_47 rfl rfl ?_
    refine maloadN 49 G13 d5_48 rfl rfl rfl ?_
    refine mlen 50 X13 hx hby hZ e13 V6 d5_49 rfl ?_
    refine micmpNo 53 G13 d5_50 (tlt (by decide : (0 : Int32) < (4 : Int32))).2.1 rfl ?_
    refine maloadN 54 G13 d5_53 rfl rfl rfl ?_
    refine miloadN 55 G13 d5_54 rfl rfl ?_
    refine maloadN 56 G13 d5_55 rfl rfl rfl ?_
    refine maloadN 57 G13 d5_56 rfl rfl rfl ?_
    refine st14 _ ?_
    show Steps p.tables e below (T14.setTop (mkF m 60 #[rv o0, rv o1, iv (0 : Int32)] [(.ref w1), (.ref o1), (.int (0 : Int32)), (.ref o1)])) _
    refine miloadN 61 G14 d5_60 rfl rfl ?_
    refine miaload 62 X14 hx hby hZ e14 f11 (v := (0 : Int32)) d5_61 ⟨by decide, by decide⟩ rfl rfl ?_
    refine mdaload 63 X14 hx hby hZ e14 V6 (v := (FP.dadd m0_ m2_)) d5_62 ⟨by decide, by decide⟩ rfl rfl ?_
    refine st15 _ ?_
    refine miinc 67 G15 d5_64 rfl #[rv o0, rv o1, iv (1 : Int32)] rfl rfl ?_
    refine mgoto 47 G15 d5_67 (by decide) rfl ?_
    refine miloadN 48 G15 d5_47 rfl rfl ?_
    refine maloadN 49 G15 d5_48 rfl rfl rfl ?_
    refine mlen 50 X15 hx hby hZ e15 V15 d5_49 rfl ?_
    refine micmpNo 53 G15 d5_50 (tlt (by decide : (1 : Int32) < (4 : Int32))).2.1 rfl ?_
    refine maloadN 54 G15 d5_53 rfl rfl rfl ?_
    refine miloadN 55 G15 d5_54 rfl rfl ?_
    refine maloadN 56 G15 d5_55 rfl rfl rfl ?_
    refine maloadN 57 G15 d5_56 rfl rfl rfl ?_
    refine st22 _ ?_
    show Steps p.tables e below (T22.setTop (mkF m 60 #[rv o0, rv o1, iv (1 : Int32)] [(.ref w1), (.ref o1), (.int (1 : Int32)), (.ref o1)])) _
    refine miloadN 61 G22 d5_60 rfl rfl ?_
    refine miaload 62 X22 hx hby hZ e22 f20 (v := (1 : Int32)) d5_61 ⟨by decide, by decide⟩ rfl rfl ?_
    refine mdaload 63 X22 hx hby hZ e22 V15 (v := m1_) d5_62 ⟨by decide, by decide⟩ rfl rfl ?_
    refine st23 _ ?_
    refine miinc 67 G23 d5_64 rfl #[rv o0, rv o1, iv (2 : Int32)] rfl rfl ?_
    refine mgoto 47 G23 d5_67 (by decide) rfl ?_
    refine miloadN 48 G23 d5_47 rfl rfl ?_
    refine maloadN 49 G23 d5_48 rfl rfl rfl ?_
    refine mlen 50 X23 hx hby hZ e23 V23 d5_49 rfl ?_
    refine micmpNo 53 G23 d5_50 (tlt (by decide : (2 : Int32) < (4 : Int32))).2.1 rfl ?_
    refine maloadN 54 G23 d5_53 rfl rfl rfl ?_
    refine miloadN 55 G23 d5_54 rfl rfl ?_
    refine maloadN 56 G23 d5_55 rfl rfl rfl ?_
    refine maloadN 57 G23 d5_56 rfl rfl rfl ?_
    refine st30 _ ?_
    show Steps p.tables e below (T30.setTop (mkF m 60 #[rv o0, rv o1, iv (2 : Int32)] [(.ref w1), (.ref o1), (.int (2 : Int32)), (.ref o1)])) _
    refine miloadN 61 G30 d5_60 rfl rfl ?_
    refine miaload 62 X30 hx hby hZ e30 f28 (v := (0 : Int32)) d5_61 ⟨by decide, by decide⟩ rfl rfl ?_
    refine mdaload 63 X30 hx hby hZ e30 V23 (v := (FP.dadd m0_ m2_)) d5_62 ⟨by decide, by decide⟩ rfl rfl ?_
    refine st31 _ ?_
    refine miinc 67 G31 d5_64 rfl #[rv o0, rv o1, iv (3 : Int32)] rfl rfl ?_
    refine mgoto 47 G31 d5_67 (by decide) rfl ?_
    refine miloadN 48 G31 d5_47 rfl rfl ?_
    refine maloadN 49 G31 d5_48 rfl rfl rfl ?_
    refine mlen 50 X31 hx hby hZ e31 V31 d5_49 rfl ?_
    refine micmpNo 53 G31 d5_50 (tlt (by decide : (3 : Int32) < (4 : Int32))).2.1 rfl ?_
    refine maloadN 54 G31 d5_53 rfl rfl rfl ?_
    refine miloadN 55 G31 d5_54 rfl rfl ?_
    refine maloadN 56 G31 d5_55 rfl rfl rfl ?_
    refine maloadN 57 G31 d5_56 rfl rfl rfl ?_
    refine st38 _ ?_
    show Steps p.tables e below (T38.setTop (mkF m 60 #[rv o0, rv o1, iv (3 : Int32)] [(.ref w1), (.ref o1), (.int (3 : Int32)), (.ref o1)])) _
    refine miloadN 61 G38 d5_60 rfl rfl ?_
    refine miaload 62 X38 hx hby hZ e38 f36 (v := (3 : Int32)) d5_61 ⟨by decide, by decide⟩ rfl rfl ?_
    refine mdaload 63 X38 hx hby hZ e38 V31 (v := m3_) d5_62 ⟨by decide, by decide⟩ rfl rfl ?_
    refine st39 _ ?_
    refine miinc 67 G39 d5_64 rfl #[rv o0, rv o1, iv (4 : Int32)] rfl rfl ?_
    refine mgoto 47 G39 d5_67 (by decide) rfl ?_
    refine miloadN 48 G39 d5_47 rfl rfl ?_
    refine maloadN 49 G39 d5_48 rfl rfl rfl ?_
    refine mlen 50 X39 hx hby hZ e39 V39 d5_49 rfl ?_
    refine micmpYes 70 G39 d5_50 (flt (by decide : ¬ ((4 : Int32) < (4 : Int32)))).2.1 (by decide) rfl ?_
    exact X39.returnOut hx Bd.returns (hb hby d5_70) hr
  · show Q5_103 Z o0 o1 m0_ m1_ m2_ m3_ w1 k1 k2 h0 n0 _ T39.heap _
    rw [e39]
    exact ⟨rfl, N39, K39, V39⟩
theorem ef5_110 (m : MethodId) (o0 : Addr) (o1 : Addr) : entryFrame m #[(.ref o0), (.ref o1)] 3 = mkF m 0 #[rv o0, rv o1, .unset] [] := by first | (simp [entryFrame, mkF, argsToLocals, Value.category]; done) | rfl
abbrev room_of_5_110 : Room := { frames := 0, cells := 0, slots := 0, locals := 0 }
def Q5_110 (Z : State) (o0 : Addr) (o1 : Addr) (m0_ : UInt64) (m1_ : UInt64) (m2_ : UInt64) (m3_ : UInt64) (w1 : Addr) (k1 : ClassId) (k2 : ClassId) (h0 : Heap) (n0 : Nat) (v : Option Value) (h : Heap) (L : List Loc) : Prop := v = none ∧ Fr n0 L ∧ Keep h0 h [o1] ∧ Arv Z h o1 k2 .double (4 : Int32) [(.double (FP.dadd m0_ m3_)), (.double (FP.dadd m1_ m2_)), (.double (FP.dadd m1_ m2_)), (.double (FP.dadd m0_ m3_))] (.double (0 : UInt64))
theorem own_rm5_110_hn37 (o0 : Addr) (o1 : Addr) (m0_ : UInt64) (m1_ : UInt64) (m2_ : UInt64) (m3_ : UInt64) (w1 : Addr) (k1 : ClassId) (k2 : ClassId) (hm : own_fin4 m0_ m1_ m2_ m3_) : Jvm.Free.Fl.NoNaN64 (FP.dadd m1_ m2_) := (Jvm.Free.Fl.dadd_out hm.2.1.noNaN hm.2.2.1)
theorem own_rm5_110_hn37_1 (o0 : Addr) (o1 : Addr) (m0_ : UInt64) (m1_ : UInt64) (m2_ : UInt64) (m3_ : UInt64) (w1 : Addr) (k1 : ClassId) (k2 : ClassId) (hm : own_fin4 m0_ m1_ m2_ m3_) : Jvm.Free.Fl.NoNaN64 (FP.dadd m0_ m3_) := (Jvm.Free.Fl.dadd_out hm.1.noNaN hm.2.2.2)
set_option maxRecDepth 65536 in
set_option maxHeartbeats 40000000 in
theorem rm5_110 (l : Launch) (Z : State) (a0 : Array Value) (hw : ∀ d ∈ tables_1, d.before a0 Z = true) (ws : List Jvm.Cond) (o0 : Addr) (o1 : Addr) {m0_ : UInt64} {m1_ : UInt64} {m2_ : UInt64} {m3_ : UInt64} {w1 : Addr} {k1 : ClassId} {k2 : ClassId} (h0 : Heap) (n0 : Nat) (Z0 : n0 ≤ h0.size) (hm : own_fin4 m0_ m1_ m2_ m3_) (F_groups_o0 : Fld Z h0 o0 "com/example/oceanus/oceanus/numerics/Tolerances" "groups" "[I" (.ref w1)) (ne_o0_o1 : o0 ≠ o1) (ne_w1_o1 : w1 ≠ o1) (g_o1 : n0 ≤ o1) (V_w1 : Arv Z h0 w1 k1 .int (4 : Int32) [(.int (0 : Int32)), (.int (1 : Int32)), (.int (1 : Int32)), (.int (0 : Int32))] (.int (0 : Int32))) (V_o1 : Arv Z h0 o1 k2 .double (4 : Int32) [(.double m0_), (.double m1_), (.double m2_), (.double m3_)] (.double (0 : UInt64))) :
    MetFree l (⟨"com/example/oceanus/oceanus/numerics/Tolerances", "group", "([D)V"⟩ : MethodName) (head1 (Jvm.Cond.code (⟨"com/example/oceanus/oceanus/numerics/Tolerances", "group", "([D)V"⟩ : MethodName) prog_115_method_4_code 3 none :: ws) (room_of_5_110)) (fun a U => a = #[(.ref o0), (.ref o1)] ∧ Z.Warmed39 U.vm ∧ U.heap = h0) (fun _ _ _ _ _ => True) (fun _ U o U' => ∃ v L, o = .returned v ∧ Q5_110 Z o0 o1 m0_ m1_ m2_ m3_ w1 k1 k2 h0 n0 v U'.heap L ∧ FrameEnd U o U' L (room_of_5_110).cells (room_of_5_110).slots) := by
  refine MetFree.of_bodySF (plainFor_of_name pn_5) hisR ?_
  intro p e s m args below meth c s₁ Bd hml0 hP hK
  obtain ⟨rfl, hZ, hh⟩ := hP
  have hx := Bd.exec
  have hby := Bd.bytes
  have hml : c.maxLocals = 3 := hml0
  have hown : s.vm.findClass "com/example/oceanus/oceanus/numerics/Tolerances" = some m.cls := findClass_of_methodNamed Bd.named
  have hnm := (name_of_methodNamed Bd.named Bd.method).1
  have X0 : Stand p l e (room_of_5_110) s m #[(.ref o0), (.ref o1)] below meth c s₁ [] 0 0 := Stand.of_body Bd
  have e0 : s₁.heap = h0 := by rw [← hh, Bd.state]; rfl
  have N0 := Fr.nil n0
  have G0 := gd X0 hx hby
  have pre0 : ∀ t, Steps p.tables e below (s₁.setTop (mkF m 0 #[rv o0, rv o1, .unset] [])) t → Steps p.tables e below (s₁.setTop (entryFrame m #[(.ref o0), (.ref o1)] 3)) t := fun t k => castTop (ef5_110 m o0 o1) k
  obtain ⟨T1, X1, e1, st1⟩ := getF X0 hx hZ hown (host := "") (Or.inl (wd hw 40 rfl)) Via.refl e0 F_groups_o0 (g := (mkF m 1 #[rv o0, rv o1, .unset] [(.ref o0)])) rfl rfl (hb hby d5_1)
  have G1 := gd X1 hx hby
  obtain ⟨T2, X2, e2, st2⟩ := getF X1 hx hZ hown (host := "") (Or.inl (wd hw 40 rfl)) Via.refl e1 F_groups_o0 (g := (mkF m 16 #[rv o0, rv o1, iv (0 : Int32)] [(.ref o0)])) rfl rfl (hb hby d5_16)
  have G2 := gd X2 hx hby
  obtain ⟨T3, X3, e3, st3⟩ := getF X2 hx hZ hown (host := "") (Or.inl (wd hw 40 rfl)) Via.refl e2 F_groups_o0 (g := (mkF m 16 #[rv o0, rv o1, iv (1 : Int32)] [(.ref o0)])) rfl rfl (hb hby d5_16)
  have G3 := gd X3 hx hby
  obtain ⟨T4, X4, e4, st4⟩ := getF X3 hx hZ hown (host := "") (Or.inl (wd hw 40 rfl)) Via.refl e3 F_groups_o0 (g := (mkF m 16 #[rv o0, rv o1, iv (2 : Int32)] [(.ref o0)])) rfl rfl (hb hby d5_16)
  have G4 := gd X4 hx hby
  obtain ⟨T5, X5, e5, st5⟩ := getF X4 hx hZ hown (host := "") (Or.inl (wd hw 40 rfl)) Via.refl e4 F_groups_o0 (g := (mkF m 27 #[rv o0, rv o1, iv (2 : Int32)] [(.ref o0), (.ref o1)])) rfl rfl (hb hby d5_27)
  have G5 := gd X5 hx hby
  obtain ⟨T6, h6, X6, e6, W6, Vs6, st6⟩ := own_stD X5 hx hby hZ e5 V_o1 (j := (1 : Int32)) (v := (FP.dadd m1_ m2_)) d5_38 ⟨by decide, by decide⟩ 1 rfl (Nat.le_of_ble_eq_true rfl) #[rv o0, rv o1, iv (2 : Int32)] [] 39 rfl
  have G6 := gd X6 hx hby
  have N6 := Fr.snoc X6 N0 g_o1
  have f7 := F_groups_o0.other W6 (Or.inl ne_o0_o1)
  have f11 := V_w1.other W6 ne_w1_o1
  have Z6 := Nat.le_trans Z0 (Keep.of_wr W6).1
  have K6 : Keep h0 h6 [o1] := (Keep.refl h0 [o1]).wr W6 (Or.inl (List.mem_of_getElem? (i := 0) rfl))
  have V6 : Arv Z h6 o1 k2 .double (4 : Int32) [(.double m0_), (.double (FP.dadd m1_ m2_)), (.double m2_), (.double m3_)] (.double (0 : UInt64)) := Vs6
  obtain ⟨T13, X13, e13, st13⟩ := getF X6 hx hZ hown (host := "") (Or.inl (wd hw 40 rfl)) Via.refl e6 f7 (g := (mkF m 16 #[rv o0, rv o1, iv (3 : Int32)] [(.ref o0)])) rfl rfl (hb hby d5_16)
  have G13 := gd X13 hx hby
  obtain ⟨T14, X14, e14, st14⟩ := getF X13 hx hZ hown (host := "") (Or.inl (wd hw 40 rfl)) Via.refl e13 f7 (g := (mkF m 27 #[rv o0, rv o1, iv (3 : Int32)] [(.ref o0), (.ref o1)])) rfl rfl (hb hby d5_27)
  have G14 := gd X14 hx hby
  obtain ⟨T15, h15, X15, e15, W15, Vs15, st15⟩ := own_stD X14 hx hby hZ e14 V6 (j := (0 : Int32)) (v := (FP.dadd m0_ m3_)) d5_38 ⟨by decide, by decide⟩ 0 rfl (Nat.le_of_ble_eq_true rfl) #[rv o0, rv o1, iv (3 : Int32)] [] 39 rfl
  have G15 := gd X15 hx hby
  have N15 := Fr.snoc X15 N6 g_o1
  have f16 := f7.other W15 (Or.inl ne_o0_o1)
  have f20 := f11.other W15 ne_w1_o1
  have Z15 := Nat.le_trans Z6 (Keep.of_wr W15).1
  have K15 : Keep h0 h15 [o1] := K6.wr W15 (Or.inl (List.mem_of_getElem? (i := 0) rfl))
  have V15 : Arv Z h15 o1 k2 .double (4 : Int32) [(.double (FP.dadd m0_ m3_)), (.double (FP.dadd m1_ m2_)), (.double m2_), (.double m3_)] (.double (0 : UInt64)) := Vs15
  obtain ⟨T22, X22, e22, st22⟩ := getF X15 hx hZ hown (host := "") (Or.inl (wd hw 40 rfl)) Via.refl e15 f16 (g := (mkF m 57 #[rv o0, rv o1, iv (0 : Int32)] [(.ref o0), (.ref o1), (.int (0 : Int32)), (.ref o1)])) rfl rfl (hb hby d5_57)
  have G22 := gd X22 hx hby
  obtain ⟨T23, h23, X23, e23, W23, Vs23, st23⟩ := own_stD X22 hx hby hZ e22 V15 (j := (0 : Int32)) (v := (FP.dadd m0_ m3_)) d5_63 ⟨by decide, by decide⟩ 0 rfl (Nat.le_of_ble_eq_true rfl) #[rv o0, rv o1, iv (0 : Int32)] [] 64 rfl
  have G23 := gd X23 hx hby
  have N23 := Fr.snoc X23 N15 g_o1
  have f24 := f16.other W23 (Or.inl ne_o0_o1)
  have f28 := f20.other W23 ne_w1_o1
  have Z23 := Nat.le_trans Z15 (Keep.of_wr W23).1
  have K23 : Keep h0 h23 [o1] := K15.wr W23 (Or.inl (List.mem_of_getElem? (i := 0) rfl))
  have V23 : Arv Z h23 o1 k2 .double (4 : Int32) [(.double (FP.dadd m0_ m3_)), (.double (FP.dadd m1_ m2_)), (.double m2_), (.double m3_)] (.double (0 : UInt64)) := Vs23
  obtain ⟨T30, X30, e30, st30⟩ := getF X23 hx hZ hown (host := "") (Or.inl (wd hw 40 rfl)) Via.refl e23 f24 (g := (mkF m 57 #[rv o0, rv o1, iv (1 : Int32)] [(.ref o0), (.ref o1), (.int (1 : Int32)), (.ref o1)])) rfl rfl (hb hby d5_57)
  have G30 := gd X30 hx hby
  obtain ⟨T31, h31, X31, e31, W31, Vs31, st31⟩ := own_stD X30 hx hby hZ e30 V23 (j := (1 : Int32)) (v := (FP.dadd m1_ m2_)) d5_63 ⟨by decide, by decide⟩ 1 rfl (Nat.le_of_ble_eq_true rfl) #[rv o0, rv o1, iv (1 : Int32)] [] 64 rfl
  have G31 := gd X31 hx hby
  have N31 := Fr.snoc X31 N23 g_o1
  have f32 := f24.other W31 (Or.inl ne_o0_o1)
  have f36 := f28.other W31 ne_w1_o1
  have Z31 := Nat.le_trans Z23 (Keep.of_wr W31).1
  have K31 : Keep h0 h31 [o1] := K23.wr W31 (Or.inl (List.mem_of_getElem? (i := 0) rfl))
  have V31 : Arv Z h31 o1 k2 .double (4 : Int32) [(.double (FP.dadd m0_ m3_)), (.double (FP.dadd m1_ m2_)), (.double m2_), (.double m3_)] (.double (0 : UInt64)) := Vs31
  obtain ⟨T38, X38, e38, st38⟩ := getF X31 hx hZ hown (host := "") (Or.inl (wd hw 40 rfl)) Via.refl e31 f32 (g := (mkF m 57 #[rv o0, rv o1, iv (2 : Int32)] [(.ref o0), (.ref o1), (.int (2 : Int32)), (.ref o1)])) rfl rfl (hb hby d5_57)
  have G38 := gd X38 hx hby
  obtain ⟨T39, h39, X39, e39, W39, Vs39, st39⟩ := own_stD X38 hx hby hZ e38 V31 (j := (2 : Int32)) (v := (FP.dadd m1_ m2_)) d5_63 ⟨by decide, by decide⟩ 2 rfl (Nat.le_of_ble_eq_true rfl) #[rv o0, rv o1, iv (2 : Int32)] [] 64 rfl
  have G39 := gd X39 hx hby
  have N39 := Fr.snoc X39 N31 g_o1
  have f40 := f32.other W39 (Or.inl ne_o0_o1)
  have f44 := f36.other W39 ne_w1_o1
  have Z39 := Nat.le_trans Z31 (Keep.of_wr W39).1
  have K39 : Keep h0 h39 [o1] := K31.wr W39 (Or.inl (List.mem_of_getElem? (i := 0) rfl))
  have V39 : Arv Z h39 o1 k2 .double (4 : Int32) [(.double (FP.dadd m0_ m3_)), (.double (FP.dadd m1_ m2_)), (.double (FP.dadd m1_ m2_)), (.double m3_)] (.double (0 : UInt64)) := Vs39
  obtain ⟨T46, X46, e46, st46⟩ := getF X39 hx hZ hown (host := "") (Or.inl (wd hw 40 rfl)) Via.refl e39 f40 (g := (mkF m 57 #[rv o0, rv o1, iv (3 : Int32)] [(.ref o0), (.ref o1), (.int (3 : Int32)), (.ref o1)])) rfl rfl (hb hby d5_57)
  have G46 := gd X46 hx hby
  obtain ⟨T47, h47, X47, e47, W47, Vs47, st47⟩ := own_stD X46 hx hby hZ e46 V39 (j := (3 : Int32)) (v := (FP.dadd m0_ m3_)) d5_63 ⟨by decide, by decide⟩ 3 rfl (Nat.le_of_ble_eq_true rfl) #[rv o0, rv o1, iv (3 : Int32)] [] 64 rfl
  have G47 := gd X47 hx hby
  have N47 := Fr.snoc X47 N39 g_o1
  have f48 := f40.other W47 (Or.inl ne_o0_o1)
  have f52 := f44.other W47 ne_w1_o1
  have Z47 := Nat.le_trans Z39 (Keep.of_wr W47).1
  have K47 : Keep h0 h47 [o1] := K39.wr W47 (Or.inl (List.mem_of_getElem? (i := 0) rfl))
  have V47 : Arv Z h47 o1 k2 .double (4 : Int32) [(.double (FP.dadd m0_ m3_)), (.double (FP.dadd m1_ m2_)), (.double (FP.dadd m1_ m2_)), (.double (FP.dadd m0_ m3_))] (.double (0 : UInt64)) := Vs47
  obtain ⟨fs, hr, hrun, hended, hW, hsame⟩ := X47.leave (v := none) (fun _ => rfl)
  refine ⟨_, _, pre0 _ ?_, hrun, hended, _, _, rfl, ?_, ⟨_, rfl⟩, hW, hsame.mono (by decide) (by decide)⟩
  · show Steps p.tables e below (s₁.setTop (mkF m 0 #[rv o0, rv o1, .unset] [])) _
    refine maloadN 1 G0 d5_0 rfl rfl rfl ?_
    refine st1 _ ?_
    show Steps p.tables e below (T1.setTop (mkF m 4 #[rv o0, rv o1, .unset] [(.ref w1)])) _
    refine XS.ifnullNo X1.here hx rfl (hb hby d5_4) rfl ?_
    show Steps p.tables e below (T1.setTop (mkF m 7 #[rv o0, rv o1, .unset] [])) _
    refine miconst 8 G1 d5_7 (v := (0 : Int32)) rfl rfl ?_
    refine mistoreN 9 G1 d5_8 #[rv o0, rv o1, iv (0 : Int32)] rfl rfl ?_
    refine miloadN 10 G1 d5_9 rfl rfl ?_
    refine maloadN 11 G1 d5_10 rfl rfl rfl ?_
    refine mlen 12 X1 hx hby hZ e1 V_o1 d5_11 rfl ?_
    refine micmpNo 15 G1 d5_12 (tlt (by decide : (0 : Int32) < (4 : Int32))).2.1 rfl ?_
    refine maloadN 16 G1 d5_15 rfl rfl rfl ?_
    refine st2 _ ?_
    show Steps p.tables e below (T2.setTop (mkF m 19 #[rv o0, rv o1, iv (0 : Int32)] [(.ref w1)])) _
    refine miloadN 20 G2 d5_19 rfl rfl ?_
    refine miaload 21 X2 hx hby hZ e2 V_w1 (v := (0 : Int32)) d5_20 ⟨by decide, by decide⟩ rfl rfl ?_
    refine miloadN 22 G2 d5_21 rfl rfl ?_
    refine micmpYes 39 G2 d5_22 (teq (by decide : (0 : Int32) = (0 : Int32))).1 (by decide) rfl ?_
    refine miinc 42 G2 d5_39 rfl #[rv o0, rv o1, iv (1 : Int32)] rfl rfl ?_
    refine mgoto 9 G2 d5_42 (by decide) rfl ?_
    refine miloadN 10 G2 d5_9 rfl rfl ?_
    refine maloadN 11 G2 d5_10 rfl rfl rfl ?_
    refine mlen 12 X2 hx hby hZ e2 V_o1 d5_11 rfl ?_
    refine micmpNo 15 G2 d5_12 (tlt (by decide : (1 : Int32) < (4 : Int32))).2.1 rfl ?_
    refine maloadN 16 G2 d5_15 rfl rfl rfl ?_
    refine st3 _ ?_
    show Steps p.tables e below (T3.setTop (mkF m 19 #[rv o0, rv o1, iv (1 : Int32)] [(.ref w1)])) _
    refine miloadN 20 G3 d5_19 rfl rfl ?_
    refine miaload 21 X3 hx hby hZ e3 V_w1 (v := (1 : Int32)) d5_20 ⟨by decide, by decide⟩ rfl rfl ?_
    refine miloadN 22 G3 d5_21 rfl rfl ?_
    refine micmpYes 39 G3 d5_22 (teq (by decide : (1 : Int32) = (1 : Int32))).1 (by decide) rfl ?_
    refine miinc 42 G3 d5_39 rfl #[rv o0, rv o1, iv (2 : Int32)] rfl rfl ?_
    refine mgoto 9 G3 d5_42 (by decide) rfl ?_
    refine miloadN 10 G3 d5_9 rfl rfl ?_
    refine maloadN 11 G3 d5_10 rfl rfl rfl ?_
    refine mlen 12 X3 hx hby hZ e3 V_o1 d5_11 rfl ?_
    refine micmpNo 15 G3 d5_12 (tlt (by decide : (2 : Int32) < (4 : Int32))).2.1 rfl ?_
    refine maloadN 16 G3 d5_15 rfl rfl rfl ?_
    refine st4 _ ?_
    show Steps p.tables e below (T4.setTop (mkF m 19 #[rv o0, rv o1, iv (2 : Int32)] [(.ref w1)])) _
    refine miloadN 20 G4 d5_19 rfl rfl ?_
    refine miaload 21 X4 hx hby hZ e4 V_w1 (v := (1 : Int32)) d5_20 ⟨by decide, by decide⟩ rfl rfl ?_
    refine miloadN 22 G4 d5_21 rfl rfl ?_
    refine micmpNo 25 G4 d5_22 (feq (by decide : ¬ ((1 : Int32) = (2 : Int32)))).1 rfl ?_
    refine maloadN 26 G4 d5_25 rfl rfl rfl ?_
    refine maloadN 27 G4 d5_26 rfl rfl rfl ?_
    refine st5 _ ?_
    show Steps p.tables e below (T5.setTop (mkF m 30 #[rv o0, rv o1, iv (2 : Int32)] [(.ref w1), (.ref o1)])) _
    refine miloadN 31 G5 d5_30 rfl rfl ?_
    refine miaload 32 X5 hx hby hZ e5 V_w1 (v := (1 : Int32)) d5_31 ⟨by decide, by decide⟩ rfl rfl ?_
    refine mdup2 33 G5 d5_32 rfl rfl rfl ?_
    refine mdaload 34 X5 hx hby hZ e5 V_o1 (v := m1_) d5_33 ⟨by decide, by decide⟩ rfl rfl ?_
    refine maloadN 35 G5 d5_34 rfl rfl rfl ?_
    refine miloadN 36 G5 d5_35 rfl rfl ?_
    refine mdaload 37 X5 hx hby hZ e5 V_o1 (v := m2_) d5_36 ⟨by decide, by decide⟩ rfl rfl ?_
    refine mdadd 38 G5 d5_37 (own_rm5_110_hn37 o0 o1 m0_ m1_ m2_ m3_ w1 k1 k2 hm) rfl ?_
    refine st6 _ ?_
    refine miinc 42 G6 d5_39 rfl #[rv o0, rv o1, iv (3 : Int32)] rfl rfl ?_
    refine mgoto 9 G6 d5_42 (by decide) rfl ?_
    refine miloadN 10 G6 d5_9 rfl rfl ?_
    refine maloadN 11 G6 d5_10 rfl rfl rfl ?_
    refine mlen 12 X6 hx hby hZ e6 V6 d5_11 rfl ?_
    refine micmpNo 15 G6 d5_12 (tlt (by decide : (3 : Int32) < (4 : Int32))).2.1 rfl ?_
    refine maloadN 16 G6 d5_15 rfl rfl rfl ?_
    refine st13 _ ?_
    show Steps p.tables e below (T13.setTop (mkF m 19 #[rv o0, rv o1, iv (3 : Int32)] [(.ref w1)])) _
    refine miloadN 20 G13 d5_19 rfl rfl ?_
    refine miaload 21 X13 hx hby hZ e13 f11 (v := (0 : Int32)) d5_20 ⟨by decide, by decide⟩ rfl rfl ?_
    refine miloadN 22 G13 d5_21 rfl rfl ?_
    refine micmpNo 25 G13 d5_22 (feq (by decide : ¬ ((0 : Int32) = (3 : Int32)))).1 rfl ?_
    refine maloadN 26 G13 d5_25 rfl rfl rfl ?_
    refine maloadN 27 G13 d5_26 rfl rfl rfl ?_
    refine st14 _ ?_
    show Steps p.tables e below (T14.setTop (mkF m 30 #[rv o0, rv o1, iv (3 : Int32)] [(.ref w1), (.ref o1)])) _
    refine miloadN 31 G14 d5_30 rfl rfl ?_
    refine miaload 32 X14 hx hby hZ e14 f11 (v := (0 : Int32)) d5_31 ⟨by decide, by decide⟩ rfl rfl ?_
    refine mdup2 33 G14 d5_32 rfl rfl rfl ?_
    refine mdaload 34 X14 hx hby hZ e14 V6 (v := m0_) d5_33 ⟨by decide, by decide⟩ rfl rfl ?_
    refine maloadN 35 G14 d5_34 rfl rfl rfl ?_
    refine miloadN 36 G14 d5_35 rfl rfl ?_
    refine mdaload 37 X14 hx hby hZ e14 V6 (v := m3_) d5_36 ⟨by decide, by decide⟩ rfl rfl ?_
    refine mdadd 38 G14 d5_37 (own_rm5_110_hn37_1 o0 o1 m0_ m1_ m2_ m3_ w1 k1 k2 hm) rfl ?_
    refine st15 _ ?_
    refine miinc 42 G15 d5_39 rfl #[rv o0, rv o1, iv (4 : Int32)] rfl rfl ?_
    refine mgoto 9 G15 d5_42 (by decide) rfl ?_
    refine miloadN 10 G15 d5_9 rfl rfl ?_
    refine maloadN 11 G15 d5_10 rfl rfl rfl ?_
    refine mlen 12 X15 hx hby hZ e15 V15 d5_11 rfl ?_
    refine micmpYes 45 G15 d5_12 (flt (by decide : ¬ ((4 : Int32) < (4 : Int32)))).2.1 (by decide) rfl ?_
    refine miconst 46 G15 d5_45 (v := (0 : Int32)) rfl rfl ?_
    refine mistoreN 47 G15 d5_46 #[rv o0, rv o1, iv (0 : Int32)] rfl rfl ?_
    refine miloadN 48 G15 d5_47 rfl rfl ?_
    refine maloadN 49 G15 d5_48 rfl rfl rfl ?_
    refine mlen 50 X15 hx hby hZ e15 V15 d5_49 rfl ?_
    refine micmpNo 53 G15 d5_50 (tlt (by decide : (0 : Int32) < (4 : Int32))).2.1 rfl ?_
    refine maloadN 54 G15 d5_53 rfl rfl rfl ?_
    refine miloadN 55 G15 d5_54 rfl rfl ?_
    refine maloadN 56 G15 d5_55 rfl rfl rfl ?_
    refine maloadN 57 G15 d5_56 rfl rfl rfl ?_
    refine st22 _ ?_
    show Steps p.tables e below (T22.setTop (mkF m 60 #[rv o0, rv o1, iv (0 : Int32)] [(.ref w1), (.ref o1), (.int (0 : Int32)), (.ref o1)])) _
    refine miloadN 61 G22 d5_60 rfl rfl ?_
    refine miaload 62 X22 hx hby hZ e22 f20 (v := (0 : Int32)) d5_61 ⟨by decide, by decide⟩ rfl rfl ?_
    refine mdaload 63 X22 hx hby hZ e22 V15 (v := (FP.dadd m0_ m3_)) d5_62 ⟨by decide, by decide⟩ rfl rfl ?_
    refine st23 _ ?_
    refine miinc 67 G23 d5_64 rfl #[rv o0, rv o1, iv (1 : Int32)] rfl rfl ?_
    refine mgoto 47 G23 d5_67 (by decide) rfl ?_
    refine miloadN 48 G23 d5_47 rfl rfl ?_
    refine maloadN 49 G23 d5_48 rfl rfl rfl ?_
    refine mlen 50 X23 hx hby hZ e23 V23 d5_49 rfl ?_
    refine micmpNo 53 G23 d5_50 (tlt (by decide : (1 : Int32) < (4 : Int32))).2.1 rfl ?_
    refine maloadN 54 G23 d5_53 rfl rfl rfl ?_
    refine miloadN 55 G23 d5_54 rfl rfl ?_
    refine maloadN 56 G23 d5_55 rfl rfl rfl ?_
    refine maloadN 57 G23 d5_56 rfl rfl rfl ?_
    refine st30 _ ?_
    show Steps p.tables e below (T30.setTop (mkF m 60 #[rv o0, rv o1, iv (1 : Int32)] [(.ref w1), (.ref o1), (.int (1 : Int32)), (.ref o1)])) _
    refine miloadN 61 G30 d5_60 rfl rfl ?_
    refine miaload 62 X30 hx hby hZ e30 f28 (v := (1 : Int32)) d5_61 ⟨by decide, by decide⟩ rfl rfl ?_
    refine mdaload 63 X30 hx hby hZ e30 V23 (v := (FP.dadd m1_ m2_)) d5_62 ⟨by decide, by decide⟩ rfl rfl ?_
    refine st31 _ ?_
    refine miinc 67 G31 d5_64 rfl #[rv o0, rv o1, iv (2 : Int32)] rfl rfl ?_
    refine mgoto 47 G31 d5_67 (by decide) rfl ?_
    refine miloadN 48 G31 d5_47 rfl rfl ?_
    refine maloadN 49 G31 d5_48 rfl rfl rfl ?_
    refine mlen 50 X31 hx hby hZ e31 V31 d5_49 rfl ?_
    refine micmpNo 53 G31 d5_50 (tlt (by decide : (2 : Int32) < (4 : Int32))).2.1 rfl ?_
    refine maloadN 54 G31 d5_53 rfl rfl rfl ?_
    refine miloadN 55 G31 d5_54 rfl rfl ?_
    refine maloadN 56 G31 d5_55 rfl rfl rfl ?_
    refine maloadN 57 G31 d5_56 rfl rfl rfl ?_
    refine st38 _ ?_
    show Steps p.tables e below (T38.setTop (mkF m 60 #[rv o0, rv o1, iv (2 : Int32)] [(.ref w1), (.ref o1), (.int (2 : Int32)), (.ref o1)])) _
    refine miloadN 61 G38 d5_60 rfl rfl ?_
    refine miaload 62 X38 hx hby hZ e38 f36 (v := (1 : Int32)) d5_61 ⟨by decide, by decide⟩ rfl rfl ?_
    refine mdaload 63 X38 hx hby hZ e38 V31 (v := (FP.dadd m1_ m2_)) d5_62 ⟨by decide, by decide⟩ rfl rfl ?_
    refine st39 _ ?_
    refine miinc 67 G39 d5_64 rfl #[rv o0, rv o1, iv (3 : Int32)] rfl rfl ?_
    refine mgoto 47 G39 d5_67 (by decide) rfl ?_
    refine miloadN 48 G39 d5_47 rfl rfl ?_
    refine maloadN 49 G39 d5_48 rfl rfl rfl ?_
    refine mlen 50 X39 hx hby hZ e39 V39 d5_49 rfl ?_
    refine micmpNo 53 G39 d5_50 (tlt (by decide : (3 : Int32) < (4 : Int32))).2.1 rfl ?_
    refine maloadN 54 G39 d5_53 rfl rfl rfl ?_
    refine miloadN 55 G39 d5_54 rfl rfl ?_
    refine maloadN 56 G39 d5_55 rfl rfl rfl ?_
    refine maloadN 57 G39 d5_56 rfl rfl rfl ?_
    refine st46 _ ?_
    show Steps p.tables e below (T46.setTop (mkF m 60 #[rv o0, rv o1, iv (3 : Int32)] [(.ref w1), (.ref o1), (.int (3 : Int32)), (.ref o1)])) _
    refine miloadN 61 G46 d5_60 rfl rfl ?_
    refine miaload 62 X46 hx hby hZ e46 f44 (v := (0 : Int32)) d5_61 ⟨by decide, by decide⟩ rfl rfl ?_
    refine mdaload 63 X46 hx hby hZ e46 V39 (v := (FP.dadd m0_ m3_)) d5_62 ⟨by decide, by decide⟩ rfl rfl ?_
    refine st47 _ ?_
    refine miinc 67 G47 d5_64 rfl #[rv o0, rv o1, iv (4 : Int32)] rfl rfl ?_
    refine mgoto 47 G47 d5_67 (by decide) rfl ?_
    refine miloadN 48 G47 d5_47 rfl rfl ?_
    refine maloadN 49 G47 d5_48 rfl rfl rfl ?_
    refine mlen 50 X47 hx hby hZ e47 V47 d5_49 rfl ?_
    refine micmpYes 70 G47 d5_50 (flt (by decide : ¬ ((4 : Int32) < (4 : Int32)))).2.1 (by decide) rfl ?_
    exact X47.returnOut hx Bd.returns (hb hby d5_70) hr
  · show Q5_110 Z o0 o1 m0_ m1_ m2_ m3_ w1 k1 k2 h0 n0 _ T47.heap _
    rw [e47]
    exact ⟨rfl, N47, K47, V47⟩
theorem ef5_111 (m : MethodId) (o0 : Addr) (o1 : Addr) : entryFrame m #[(.ref o0), (.ref o1)] 3 = mkF m 0 #[rv o0, rv o1, .unset] [] := by first | (simp [entryFrame, mkF, argsToLocals, Value.category]; done) | rfl
abbrev room_of_5_111 : Room := { frames := 0, cells := 0, slots := 0, locals := 0 }
def Q5_111 (Z : State) (o0 : Addr) (o1 : Addr) (m0_ : UInt64) (m1_ : UInt64) (m2_ : UInt64) (m3_ : UInt64) (w1 : Addr) (k1 : ClassId) (k2 : ClassId) (h0 : Heap) (n0 : Nat) (v : Option Value) (h : Heap) (L : List Loc) : Prop := v = none ∧ Fr n0 L ∧ Keep h0 h [o1] ∧ Arv Z h o1 k2 .double (4 : Int32) [(.double m0_), (.double (FP.dadd (FP.dadd m1_ m2_) m3_)), (.double (FP.dadd (FP.dadd m1_ m2_) m3_)), (.double (FP.dadd (FP.dadd m1_ m2_) m3_))] (.double (0 : UInt64))
theorem own_rm5_111_hn37 (o0 : Addr) (o1 : Addr) (m0_ : UInt64) (m1_ : UInt64) (m2_ : UInt64) (m3_ : UInt64) (w1 : Addr) (k1 : ClassId) (k2 : ClassId) (hm : own_fin4 m0_ m1_ m2_ m3_) : Jvm.Free.Fl.NoNaN64 (FP.dadd m1_ m2_) := (Jvm.Free.Fl.dadd_out hm.2.1.noNaN hm.2.2.1)
theorem own_rm5_111_hn37_1 (o0 : Addr) (o1 : Addr) (m0_ : UInt64) (m1_ : UInt64) (m2_ : UInt64) (m3_ : UInt64) (w1 : Addr) (k1 : ClassId) (k2 : ClassId) (hm : own_fin4 m0_ m1_ m2_ m3_) : Jvm.Free.Fl.NoNaN64 (FP.dadd (FP.dadd m1_ m2_) m3_) := (Jvm.Free.Fl.dadd_out (Jvm.Free.Fl.dadd_out hm.2.1.noNaN hm.2.2.1) hm.2.2.2)
set_option maxRecDepth 65536 in
set_option maxHeartbeats 40000000 in
theorem rm5_111 (l : Launch) (Z : State) (a0 : Array Value) (hw : ∀ d ∈ tables_1, d.before a0 Z = true) (ws : List Jvm.Cond) (o0 : Addr) (o1 : Addr) {m0_ : UInt64} {m1_ : UInt64} {m2_ : UInt64} {m3_ : UInt64} {w1 : Addr} {k1 : ClassId} {k2 : ClassId} (h0 : Heap) (n0 : Nat) (Z0 : n0 ≤ h0.size) (hm : own_fin4 m0_ m1_ m2_ m3_) (F_groups_o0 : Fld Z h0 o0 "com/example/oceanus/oceanus/numerics/Tolerances" "groups" "[I" (.ref w1)) (ne_o0_o1 : o0 ≠ o1) (ne_w1_o1 : w1 ≠ o1) (g_o1 : n0 ≤ o1) (V_w1 : Arv Z h0 w1 k1 .int (4 : Int32) [(.int (0 : Int32)), (.int (1 : Int32)), (.int (1 : Int32)), (.int (1 : Int32))] (.int (0 : Int32))) (V_o1 : Arv Z h0 o1 k2 .double (4 : Int32) [(.double m0_), (.double m1_), (.double m2_), (.double m3_)] (.double (0 : UInt64))) :
    MetFree l (⟨"com/example/oceanus/oceanus/numerics/Tolerances", "group", "([D)V"⟩ : MethodName) (head1 (Jvm.Cond.code (⟨"com/example/oceanus/oceanus/numerics/Tolerances", "group", "([D)V"⟩ : MethodName) prog_115_method_4_code 3 none :: ws) (room_of_5_111)) (fun a U => a = #[(.ref o0), (.ref o1)] ∧ Z.Warmed39 U.vm ∧ U.heap = h0) (fun _ _ _ _ _ => True) (fun _ U o U' => ∃ v L, o = .returned v ∧ Q5_111 Z o0 o1 m0_ m1_ m2_ m3_ w1 k1 k2 h0 n0 v U'.heap L ∧ FrameEnd U o U' L (room_of_5_111).cells (room_of_5_111).slots) := by
  refine MetFree.of_bodySF (plainFor_of_name pn_5) hisR ?_
  intro p e s m args below meth c s₁ Bd hml0 hP hK
  obtain ⟨rfl, hZ, hh⟩ := hP
  have hx := Bd.exec
  have hby := Bd.bytes
  have hml : c.maxLocals = 3 := hml0
  have hown : s.vm.findClass "com/example/oceanus/oceanus/numerics/Tolerances" = some m.cls := findClass_of_methodNamed Bd.named
  have hnm := (name_of_methodNamed Bd.named Bd.method).1
  have X0 : Stand p l e (room_of_5_111) s m #[(.ref o0), (.ref o1)] below meth c s₁ [] 0 0 := Stand.of_body Bd
  have e0 : s₁.heap = h0 := by rw [← hh, Bd.state]; rfl
  have N0 := Fr.nil n0
  have G0 := gd X0 hx hby
  have pre0 : ∀ t, Steps p.tables e below (s₁.setTop (mkF m 0 #[rv o0, rv o1, .unset] [])) t → Steps p.tables e below (s₁.setTop (entryFrame m #[(.ref o0), (.ref o1)] 3)) t := fun t k => castTop (ef5_111 m o0 o1) k
  obtain ⟨T1, X1, e1, st1⟩ := getF X0 hx hZ hown (host := "") (Or.inl (wd hw 40 rfl)) Via.refl e0 F_groups_o0 (g := (mkF m 1 #[rv o0, rv o1, .unset] [(.ref o0)])) rfl rfl (hb hby d5_1)
  have G1 := gd X1 hx hby
  obtain ⟨T2, X2, e2, st2⟩ := getF X1 hx hZ hown (host := "") (Or.inl (wd hw 40 rfl)) Via.refl e1 F_groups_o0 (g := (mkF m 16 #[rv o0, rv o1, iv (0 : Int32)] [(.ref o0)])) rfl rfl (hb hby d5_16)
  have G2 := gd X2 hx hby
  obtain ⟨T3, X3, e3, st3⟩ := getF X2 hx hZ hown (host := "") (Or.inl (wd hw 40 rfl)) Via.refl e2 F_groups_o0 (g := (mkF m 16 #[rv o0, rv o1, iv (1 : Int32)] [(.ref o0)])) rfl rfl (hb hby d5_16)
  have G3 := gd X3 hx hby
  obtain ⟨T4, X4, e4, st4⟩ := getF X3 hx hZ hown (host := "") (Or.inl (wd hw 40 rfl)) Via.refl e3 F_groups_o0 (g := (mkF m 16 #[rv o0, rv o1, iv (2 : Int32)] [(.ref o0)])) rfl rfl (hb hby d5_16)
  have G4 := gd X4 hx hby
  obtain ⟨T5, X5, e5, st5⟩ := getF X4 hx hZ hown (host := "") (Or.inl (wd hw 40 rfl)) Via.refl e4 F_groups_o0 (g := (mkF m 27 #[rv o0, rv o1, iv (2 : Int32)] [(.ref o0), (.ref o1)])) rfl rfl (hb hby d5_27)
  have G5 := gd X5 hx hby
  obtain ⟨T6, h6, X6, e6, W6, Vs6, st6⟩ := own_stD X5 hx hby hZ e5 V_o1 (j := (1 : Int32)) (v := (FP.dadd m1_ m2_)) d5_38 ⟨by decide, by decide⟩ 1 rfl (Nat.le_of_ble_eq_true rfl) #[rv o0, rv o1, iv (2 : Int32)] [] 39 rfl
  have G6 := gd X6 hx hby
  have N6 := Fr.snoc X6 N0 g_o1
  have f7 := F_groups_o0.other W6 (Or.inl ne_o0_o1)
  have f11 := V_w1.other W6 ne_w1_o1
  have Z6 := Nat.le_trans Z0 (Keep.of_wr W6).1
  have K6 : Keep h0 h6 [o1] := (Keep.refl h0 [o1]).wr W6 (Or.inl (List.mem_of_getElem? (i := 0) rfl))
  have V6 : Arv Z h6 o1 k2 .double (4 : Int32) [(.double m0_), (.double (FP.dadd m1_ m2_)), (.double m2_), (.double m3_)] (.double (0 : UInt64)) := Vs6
  obtain ⟨T13, X13, e13, st13⟩ := getF X6 hx hZ hown (host := "") (Or.inl (wd hw 40 rfl)) Via.refl e6 f7 (g := (mkF m 16 #[rv o0, rv o1, iv (3 : Int32)] [(.ref o0)])) rfl rfl (hb hby d5_16)
  have G13 := gd X13 hx hby
  obtain ⟨T14, X14, e14, st14⟩ := getF X13 hx hZ hown (host := "") (Or.inl (wd hw 40 rfl)) Via.refl e13 f7 (g := (mkF m 27 #[rv o0, rv o1, iv (3 : Int32)] [(.ref o0), (.ref o1)])) rfl rfl (hb hby d5_27)
  have G14 := gd X14 hx hby
  obtain ⟨T15, h15, X15, e15, W15, Vs15, st15⟩ := own_stD X14 hx hby hZ e14 V6 (j := (1 : Int32)) (v := (FP.dadd (FP.dadd m1_ m2_) m3_)) d5_38 ⟨by decide, by decide⟩ 1 rfl (Nat.le_of_ble_eq_true rfl) #[rv o0, rv o1, iv (3 : Int32)] [] 39 rfl
  have G15 := gd X15 hx hby
  have N15 := Fr.snoc X15 N6 g_o1
  have f16 := f7.other W15 (Or.inl ne_o0_o1)
  have f20 := f11.other W15 ne_w1_o1
  have Z15 := Nat.le_trans Z6 (Keep.of_wr W15).1
  have K15 : Keep h0 h15 [o1] := K6.wr W15 (Or.inl (List.mem_of_getElem? (i := 0) rfl))
  have V15 : Arv Z h15 o1 k2 .double (4 : Int32) [(.double m0_), (.double (FP.dadd (FP.dadd m1_ m2_) m3_)), (.double m2_), (.double m3_)] (.double (0 : UInt64)) := Vs15
  obtain ⟨T22, X22, e22, st22⟩ := getF X15 hx hZ hown (host := "") (Or.inl (wd hw 40 rfl)) Via.refl e15 f16 (g := (mkF m 57 #[rv o0, rv o1, iv (0 : Int32)] [(.ref o0), (.ref o1), (.int (0 : Int32)), (.ref o1)])) rfl rfl (hb hby d5_57)
  have G22 := gd X22 hx hby
  obtain ⟨T23, h23, X23, e23, W23, Vs23, st23⟩ := own_stD X22 hx hby hZ e22 V15 (j := (0 : Int32)) (v := m0_) d5_63 ⟨by decide, by decide⟩ 0 rfl (Nat.le_of_ble_eq_true rfl) #[rv o0, rv o1, iv (0 : Int32)] [] 64 rfl
  have G23 := gd X23 hx hby
  have N23 := Fr.snoc X23 N15 g_o1
  have f24 := f16.other W23 (Or.inl ne_o0_o1)
  have f28 := f20.other W23 ne_w1_o1
  have Z23 := Nat.le_trans Z15 (Keep.of_wr W23).1
  have K23 : Keep h0 h23 [o1] := K15.wr W23 (Or.inl (List.mem_of_getElem? (i := 0) rfl))
  have V23 : Arv Z h23 o1 k2 .double (4 : Int32) [(.double m0_), (.double (FP.dadd (FP.dadd m1_ m2_) m3_)), (.double m2_), (.double m3_)] (.double (0 : UInt64)) := Vs23
  obtain ⟨T30, X30, e30, st30⟩ := getF X23 hx hZ hown (host := "") (Or.inl (wd hw 40 rfl)) Via.refl e23 f24 (g := (mkF m 57 #[rv o0, rv o1, iv (1 : Int32)] [(.ref o0), (.ref o1), (.int (1 : Int32)), (.ref o1)])) rfl rfl (hb hby d5_57)
  have G30 := gd X30 hx hby
  obtain ⟨T31, h31, X31, e31, W31, Vs31, st31⟩ := own_stD X30 hx hby hZ e30 V23 (j := (1 : Int32)) (v := (FP.dadd (FP.dadd m1_ m2_) m3_)) d5_63 ⟨by decide, by decide⟩ 1 rfl (Nat.le_of_ble_eq_true rfl) #[rv o0, rv o1, iv (1 : Int32)] [] 64 rfl
  have G31 := gd X31 hx hby
  have N31 := Fr.snoc X31 N23 g_o1
  have f32 := f24.other W31 (Or.inl ne_o0_o1)
  have f36 := f28.other W31 ne_w1_o1
  have Z31 := Nat.le_trans Z23 (Keep.of_wr W31).1
  have K31 : Keep h0 h31 [o1] := K23.wr W31 (Or.inl (List.mem_of_getElem? (i := 0) rfl))
  have V31 : Arv Z h31 o1 k2 .double (4 : Int32) [(.double m0_), (.double (FP.dadd (FP.dadd m1_ m2_) m3_)), (.double m2_), (.double m3_)] (.double (0 : UInt64)) := Vs31
  obtain ⟨T38, X38, e38, st38⟩ := getF X31 hx hZ hown (host := "") (Or.inl (wd hw 40 rfl)) Via.refl e31 f32 (g := (mkF m 57 #[rv o0, rv o1, iv (2 : Int32)] [(.ref o0), (.ref o1), (.int (2 : Int32)), (.ref o1)])) rfl rfl (hb hby d5_57)
  have G38 := gd X38 hx hby
  obtain ⟨T39, h39, X39, e39, W39, Vs39, st39⟩ := own_stD X38 hx hby hZ e38 V31 (j := (2 : Int32)) (v := (FP.dadd (FP.dadd m1_ m2_) m3_)) d5_63 ⟨by decide, by decide⟩ 2 rfl (Nat.le_of_ble_eq_true rfl) #[rv o0, rv o1, iv (2 : Int32)] [] 64 rfl
  have G39 := gd X39 hx hby
  have N39 := Fr.snoc X39 N31 g_o1
  have f40 := f32.other W39 (Or.inl ne_o0_o1)
  have f44 := f36.other W39 ne_w1_o1
  have Z39 := Nat.le_trans Z31 (Keep.of_wr W39).1
  have K39 : Keep h0 h39 [o1] := K31.wr W39 (Or.inl (List.mem_of_getElem? (i := 0) rfl))
  have V39 : Arv Z h39 o1 k2 .double (4 : Int32) [(.double m0_), (.double (FP.dadd (FP.dadd m1_ m2_) m3_)), (.double (FP.dadd (FP.dadd m1_ m2_) m3_)), (.double m3_)] (.double (0 : UInt64)) := Vs39
  obtain ⟨T46, X46, e46, st46⟩ := getF X39 hx hZ hown (host := "") (Or.inl (wd hw 40 rfl)) Via.refl e39 f40 (g := (mkF m 57 #[rv o0, rv o1, iv (3 : Int32)] [(.ref o0), (.ref o1), (.int (3 : Int32)), (.ref o1)])) rfl rfl (hb hby d5_57)
  have G46 := gd X46 hx hby
  obtain ⟨T47, h47, X47, e47, W47, Vs47, st47⟩ := own_stD X46 hx hby hZ e46 V39 (j := (3 : Int32)) (v := (FP.dadd (FP.dadd m1_ m2_) m3_)) d5_63 ⟨by decide, by decide⟩ 3 rfl (Nat.le_of_ble_eq_true rfl) #[rv o0, rv o1, iv (3 : Int32)] [] 64 rfl
  have G47 := gd X47 hx hby
  have N47 := Fr.snoc X47 N39 g_o1
  have f48 := f40.other W47 (Or.inl ne_o0_o1)
  have f52 := f44.other W47 ne_w1_o1
  have Z47 := Nat.le_trans Z39 (Keep.of_wr W47).1
  have K47 : Keep h0 h47 [o1] := K39.wr W47 (Or.inl (List.mem_of_getElem? (i := 0) rfl))
  have V47 : Arv Z h47 o1 k2 .double (4 : Int32) [(.double m0_), (.double (FP.dadd (FP.dadd m1_ m2_) m3_)), (.double (FP.dadd (FP.dadd m1_ m2_) m3_)), (.double (FP.dadd (FP.dadd m1_ m2_) m3_))] (.double (0 : UInt64)) := Vs47
  obtain ⟨fs, hr, hrun, hended, hW, hsame⟩ := X47.leave (v := none) (fun _ => rfl)
  refine ⟨_, _, pre0 _ ?_, hrun, hended, _, _, rfl, ?_, ⟨_, rfl⟩, hW, hsame.mono (by decide) (by decide)⟩
  · show Steps p.tables e below (s₁.setTop (mkF m 0 #[rv o0, rv o1, .unset] [])) _
    refine maloadN 1 G0 d5_0 rfl rfl rfl ?_
    refine st1 _ ?_
    show Steps p.tables e below (T1.setTop (mkF m 4 #[rv o0, rv o1, .unset] [(.ref w1)])) _
    refine XS.ifnullNo X1.here hx rfl (hb hby d5_4) rfl ?_
    show Steps p.tables e below (T1.setTop (mkF m 7 #[rv o0, rv o1, .unset] [])) _
    refine miconst 8 G1 d5_7 (v := (0 : Int32)) rfl rfl ?_
    refine mistoreN 9 G1 d5_8 #[rv o0, rv o1, iv (0 : Int32)] rfl rfl ?_
    refine miloadN 10 G1 d5_9 rfl rfl ?_
    refine maloadN 11 G1 d5_10 rfl rfl rfl ?_
    refine mlen 12 X1 hx hby hZ e1 V_o1 d5_11 rfl ?_
    refine micmpNo 15 G1 d5_12 (tlt (by decide : (0 : Int32) < (4 : Int32))).2.1 rfl ?_
    refine maloadN 16 G1 d5_15 rfl rfl rfl ?_
    refine st2 _ ?_
    show Steps p.tables e below (T2.setTop (mkF m 19 #[rv o0, rv o1, iv (0 : Int32)] [(.ref w1)])) _
    refine miloadN 20 G2 d5_19 rfl rfl ?_
    refine miaload 21 X2 hx hby hZ e2 V_w1 (v := (0 : Int32)) d5_20 ⟨by decide, by decide⟩ rfl rfl ?_
    refine miloadN 22 G2 d5_21 rfl rfl ?_
    refine micmpYes 39 G2 d5_22 (teq (by decide : (0 : Int32) = (0 : Int32))).1 (by decide) rfl ?_
    refine miinc 42 G2 d5_39 rfl #[rv o0, rv o1, iv (1 : Int32)] rfl rfl ?_
    refine mgoto 9 G2 d5_42 (by decide) rfl ?_
    refine miloadN 10 G2 d5_9 rfl rfl ?_
    refine maloadN 11 G2 d5_10 rfl rfl rfl ?_
    refine mlen 12 X2 hx hby hZ e2 V_o1 d5_11 rfl ?_
    refine micmpNo 15 G2 d5_12 (tlt (by decide : (1 : Int32) < (4 : Int32))).2.1 rfl ?_
    refine maloadN 16 G2 d5_15 rfl rfl rfl ?_
    refine st3 _ ?_
    show Steps p.tables e below (T3.setTop (mkF m 19 #[rv o0, rv o1, iv (1 : Int32)] [(.ref w1)])) _
    refine miloadN 20 G3 d5_19 rfl rfl ?_
    refine miaload 21 X3 hx hby hZ e3 V_w1 (v := (1 : Int32)) d5_20 ⟨by decide, by decide⟩ rfl rfl ?_
    refine miloadN 22 G3 d5_21 rfl rfl ?_
    refine micmpYes 39 G3 d5_22 (teq (by decide : (1 : Int32) = (1 : Int32))).1 (by decide) rfl ?_
    refine miinc 42 G3 d5_39 rfl #[rv o0, rv o1, iv (2 : Int32)] rfl rfl ?_
    refine mgoto 9 G3 d5_42 (by decide) rfl ?_
    refine miloadN 10 G3 d5_9 rfl rfl ?_
    refine maloadN 11 G3 d5_10 rfl rfl rfl ?_
    refine mlen 12 X3 hx hby hZ e3 V_o1 d5_11 rfl ?_
    refine micmpNo 15 G3 d5_12 (tlt (by decide : (2 : Int32) < (4 : Int32))).2.1 rfl ?_
    refine maloadN 16 G3 d5_15 rfl rfl rfl ?_
    refine st4 _ ?_
    show Steps p.tables e below (T4.setTop (mkF m 19 #[rv o0, rv o1, iv (2 : Int32)] [(.ref w1)])) _
    refine miloadN 20 G4 d5_19 rfl rfl ?_
    refine miaload 21 X4 hx hby hZ e4 V_w1 (v := (1 : Int32)) d5_20 ⟨by decide, by decide⟩ rfl rfl ?_
    refine miloadN 22 G4 d5_21 rfl rfl ?_
    refine micmpNo 25 G4 d5_22 (feq (by decide : ¬ ((1 : Int32) = (2 : Int32)))).1 rfl ?_
    refine maloadN 26 G4 d5_25 rfl rfl rfl ?_
    refine maloadN 27 G4 d5_26 rfl rfl rfl ?_
    refine st5 _ ?_
    show Steps p.tables e below (T5.setTop (mkF m 30 #[rv o0, rv o1, iv (2 : Int32)] [(.ref w1), (.ref o1)])) _
    refine miloadN 31 G5 d5_30 rfl rfl ?_
    refine miaload 32 X5 hx hby hZ e5 V_w1 (v := (1 : Int32)) d5_31 ⟨by decide, by decide⟩ rfl rfl ?_
    refine mdup2 33 G5 d5_32 rfl rfl rfl ?_
    refine mdaload 34 X5 hx hby hZ e5 V_o1 (v := m1_) d5_33 ⟨by decide, by decide⟩ rfl rfl ?_
    refine maloadN 35 G5 d5_34 rfl rfl rfl ?_
    refine miloadN 36 G5 d5_35 rfl rfl ?_
    refine mdaload 37 X5 hx hby hZ e5 V_o1 (v := m2_) d5_36 ⟨by decide, by decide⟩ rfl rfl ?_
    refine mdadd 38 G5 d5_37 (own_rm5_111_hn37 o0 o1 m0_ m1_ m2_ m3_ w1 k1 k2 hm) rfl ?_
    refine st6 _ ?_
    refine miinc 42 G6 d5_39 rfl #[rv o0, rv o1, iv (3 : Int32)] rfl rfl ?_
    refine mgoto 9 G6 d5_42 (by decide) rfl ?_
    refine miloadN 10 G6 d5_9 rfl rfl ?_
    refine maloadN 11 G6 d5_10 rfl rfl rfl ?_
    refine mlen 12 X6 hx hby hZ e6 V6 d5_11 rfl ?_
    refine micmpNo 15 G6 d5_12 (tlt (by decide : (3 : Int32) < (4 : Int32))).2.1 rfl ?_
    refine maloadN 16 G6 d5_15 rfl rfl rfl ?_
    refine st13 _ ?_
    show Steps p.tables e below (T13.setTop (mkF m 19 #[rv o0, rv o1, iv (3 : Int32)] [(.ref w1)])) _
    refine miloadN 20 G13 d5_19 rfl rfl ?_
    refine miaload 21 X13 hx hby hZ e13 f11 (v := (1 : Int32)) d5_20 ⟨by decide, by decide⟩ rfl rfl ?_
    refine miloadN 22 G13 d5_21 rfl rfl ?_
    refine micmpNo 25 G13 d5_22 (feq (by decide : ¬ ((1 : Int32) = (3 : Int32)))).1 rfl ?_
    refine maloadN 26 G13 d5_25 rfl rfl rfl ?_
    refine maloadN 27 G13 d5_26 rfl rfl rfl ?_
    refine st14 _ ?_
    show Steps p.tables e below (T14.setTop (mkF m 30 #[rv o0, rv o1, iv (3 : Int32)] [(.ref w1), (.ref o1)])) _
    refine miloadN 31 G14 d5_30 rfl rfl ?_
    refine miaload 32 X14 hx hby hZ e14 f11 (v := (1 : Int32)) d5_31 ⟨by decide, by decide⟩ rfl rfl ?_
    refine mdup2 33 G14 d5_32 rfl rfl rfl ?_
    refine mdaload 34 X14 hx hby hZ e14 V6 (v := (FP.dadd m1_ m2_)) d5_33 ⟨by decide, by decide⟩ rfl rfl ?_
    refine maloadN 35 G14 d5_34 rfl rfl rfl ?_
    refine miloadN 36 G14 d5_35 rfl rfl ?_
    refine mdaload 37 X14 hx hby hZ e14 V6 (v := m3_) d5_36 ⟨by decide, by decide⟩ rfl rfl ?_
    refine mdadd 38 G14 d5_37 (own_rm5_111_hn37_1 o0 o1 m0_ m1_ m2_ m3_ w1 k1 k2 hm) rfl ?_
    refine st15 _ ?_
    refine miinc 42 G15 d5_39 rfl #[rv o0, rv o1, iv (4 : Int32)] rfl rfl ?_
    refine mgoto 9 G15 d5_42 (by decide) rfl ?_
    refine miloadN 10 G15 d5_9 rfl rfl ?_
    refine maloadN 11 G15 d5_10 rfl rfl rfl ?_
    refine mlen 12 X15 hx hby hZ e15 V15 d5_11 rfl ?_
    refine micmpYes 45 G15 d5_12 (flt (by decide : ¬ ((4 : Int32) < (4 : Int32)))).2.1 (by decide) rfl ?_
    refine miconst 46 G15 d5_45 (v := (0 : Int32)) rfl rfl ?_
    refine mistoreN 47 G15 d5_46 #[rv o0, rv o1, iv (0 : Int32)] rfl rfl ?_
    refine miloadN 48 G15 d5_47 rfl rfl ?_
    refine maloadN 49 G15 d5_48 rfl rfl rfl ?_
    refine mlen 50 X15 hx hby hZ e15 V15 d5_49 rfl ?_
    refine micmpNo 53 G15 d5_50 (tlt (by decide : (0 : Int32) < (4 : Int32))).2.1 rfl ?_
    refine maloadN 54 G15 d5_53 rfl rfl rfl ?_
    refine miloadN 55 G15 d5_54 rfl rfl ?_
    refine maloadN 56 G15 d5_55 rfl rfl rfl ?_
    refine maloadN 57 G15 d5_56 rfl rfl rfl ?_
    refine st22 _ ?_
    show Steps p.tables e below (T22.setTop (mkF m 60 #[rv o0, rv o1, iv (0 : Int32)] [(.ref w1), (.ref o1), (.int (0 : Int32)), (.ref o1)])) _
    refine miloadN 61 G22 d5_60 rfl rfl ?_
    refine miaload 62 X22 hx hby hZ e22 f20 (v := (0 : Int32)) d5_61 ⟨by decide, by decide⟩ rfl rfl ?_
    refine mdaload 63 X22 hx hby hZ e22 V15 (v := m0_) d5_62 ⟨by decide, by decide⟩ rfl rfl ?_
    refine st23 _ ?_
    refine miinc 67 G23 d5_64 rfl #[rv o0, rv o1, iv (1 : Int32)] rfl rfl ?_
    refine mgoto 47 G23 d5_67 (by decide) rfl ?_
    refine miloadN 48 G23 d5_47 rfl rfl ?_
    refine maloadN 49 G23 d5_48 rfl rfl rfl ?_
    refine mlen 50 X23 hx hby hZ e23 V23 d5_49 rfl ?_
    refine micmpNo 53 G23 d5_50 (tlt (by decide : (1 : Int32) < (4 : Int32))).2.1 rfl ?_
    refine maloadN 54 G23 d5_53 rfl rfl rfl ?_
    refine miloadN 55 G23 d5_54 rfl rfl ?_
    refine maloadN 56 G23 d5_55 rfl rfl rfl ?_
    refine maloadN 57 G23 d5_56 rfl rfl rfl ?_
    refine st30 _ ?_
    show Steps p.tables e below (T30.setTop (mkF m 60 #[rv o0, rv o1, iv (1 : Int32)] [(.ref w1), (.ref o1), (.int (1 : Int32)), (.ref o1)])) _
    refine miloadN 61 G30 d5_60 rfl rfl ?_
    refine miaload 62 X30 hx hby hZ e30 f28 (v := (1 : Int32)) d5_61 ⟨by decide, by decide⟩ rfl rfl ?_
    refine mdaload 63 X30 hx hby hZ e30 V23 (v := (FP.dadd (FP.dadd m1_ m2_) m3_)) d5_62 ⟨by decide, by decide⟩ rfl rfl ?_
    refine st31 _ ?_
    refine miinc 67 G31 d5_64 rfl #[rv o0, rv o1, iv (2 : Int32)] rfl rfl ?_
    refine mgoto 47 G31 d5_67 (by decide) rfl ?_
    refine miloadN 48 G31 d5_47 rfl rfl ?_
    refine maloadN 49 G31 d5_48 rfl rfl rfl ?_
    refine mlen 50 X31 hx hby hZ e31 V31 d5_49 rfl ?_
    refine micmpNo 53 G31 d5_50 (tlt (by decide : (2 : Int32) < (4 : Int32))).2.1 rfl ?_
    refine maloadN 54 G31 d5_53 rfl rfl rfl ?_
    refine miloadN 55 G31 d5_54 rfl rfl ?_
    refine maloadN 56 G31 d5_55 rfl rfl rfl ?_
    refine maloadN 57 G31 d5_56 rfl rfl rfl ?_
    refine st38 _ ?_
    show Steps p.tables e below (T38.setTop (mkF m 60 #[rv o0, rv o1, iv (2 : Int32)] [(.ref w1), (.ref o1), (.int (2 : Int32)), (.ref o1)])) _
    refine miloadN 61 G38 d5_60 rfl rfl ?_
    refine miaload 62 X38 hx hby hZ e38 f36 (v := (1 : Int32)) d5_61 ⟨by decide, by decide⟩ rfl rfl ?_
    refine mdaload 63 X38 hx hby hZ e38 V31 (v := (FP.dadd (FP.dadd m1_ m2_) m3_)) d5_62 ⟨by decide, by decide⟩ rfl rfl ?_
    refine st39 _ ?_
    refine miinc 67 G39 d5_64 rfl #[rv o0, rv o1, iv (3 : Int32)] rfl rfl ?_
    refine mgoto 47 G39 d5_67 (by decide) rfl ?_
    refine miloadN 48 G39 d5_47 rfl rfl ?_
    refine maloadN 49 G39 d5_48 rfl rfl rfl ?_
    refine mlen 50 X39 hx hby hZ e39 V39 d5_49 rfl ?_
    refine micmpNo 53 G39 d5_50 (tlt (by decide : (3 : Int32) < (4 : Int32))).2.1 rfl ?_
    refine maloadN 54 G39 d5_53 rfl rfl rfl ?_
    refine miloadN 55 G39 d5_54 rfl rfl ?_
    refine maloadN 56 G39 d5_55 rfl rfl rfl ?_
    refine maloadN 57 G39 d5_56 rfl rfl rfl ?_
    refine st46 _ ?_
    show Steps p.tables e below (T46.setTop (mkF m 60 #[rv o0, rv o1, iv (3 : Int32)] [(.ref w1), (.ref o1), (.int (3 : Int32)), (.ref o1)])) _
    refine miloadN 61 G46 d5_60 rfl rfl ?_
    refine miaload 62 X46 hx hby hZ e46 f44 (v := (1 : Int32)) d5_61 ⟨by decide, by decide⟩ rfl rfl ?_
    refine mdaload 63 X46 hx hby hZ e46 V39 (v := (FP.dadd (FP.dadd m1_ m2_) m3_)) d5_62 ⟨by decide, by decide⟩ rfl rfl ?_
    refine st47 _ ?_
    refine miinc 67 G47 d5_64 rfl #[rv o0, rv o1, iv (4 : Int32)] rfl rfl ?_
    refine mgoto 47 G47 d5_67 (by decide) rfl ?_
    refine miloadN 48 G47 d5_47 rfl rfl ?_
    refine maloadN 49 G47 d5_48 rfl rfl rfl ?_
    refine mlen 50 X47 hx hby hZ e47 V47 d5_49 rfl ?_
    refine micmpYes 70 G47 d5_50 (flt (by decide : ¬ ((4 : Int32) < (4 : Int32)))).2.1 (by decide) rfl ?_
    exact X47.returnOut hx Bd.returns (hb hby d5_70) hr
  · show Q5_111 Z o0 o1 m0_ m1_ m2_ m3_ w1 k1 k2 h0 n0 _ T47.heap _
    rw [e47]
    exact ⟨rfl, N47, K47, V47⟩
theorem ef5_113 (m : MethodId) (o0 : Addr) (o1 : Addr) : entryFrame m #[(.ref o0), (.ref o1)] 3 = mkF m 0 #[rv o0, rv o1, .unset] [] := by first | (simp [entryFrame, mkF, argsToLocals, Value.category]; done) | rfl
abbrev room_of_5_113 : Room := { frames := 0, cells := 0, slots := 0, locals := 0 }
def Q5_113 (Z : State) (o0 : Addr) (o1 : Addr) (m0_ : UInt64) (m1_ : UInt64) (m2_ : UInt64) (m3_ : UInt64) (w1 : Addr) (k1 : ClassId) (k2 : ClassId) (h0 : Heap) (n0 : Nat) (v : Option Value) (h : Heap) (L : List Loc) : Prop := v = none ∧ Fr n0 L ∧ Keep h0 h [o1] ∧ Arv Z h o1 k2 .double (4 : Int32) [(.double m0_), (.double (FP.dadd m1_ m2_)), (.double (FP.dadd m1_ m2_)), (.double m3_)] (.double (0 : UInt64))
theorem own_rm5_113_hn37 (o0 : Addr) (o1 : Addr) (m0_ : UInt64) (m1_ : UInt64) (m2_ : UInt64) (m3_ : UInt64) (w1 : Addr) (k1 : ClassId) (k2 : ClassId) (hm : own_fin4 m0_ m1_ m2_ m3_) : Jvm.Free.Fl.NoNaN64 (FP.dadd m1_ m2_) := (Jvm.Free.Fl.dadd_out hm.2.1.noNaN hm.2.2.1)
set_option maxRecDepth 65536 in
set_option maxHeartbeats 40000000 in
theorem rm5_113 (l : Launch) (Z : State) (a0 : Array Value) (hw : ∀ d ∈ tables_1, d.before a0 Z = true) (ws : List Jvm.Cond) (o0 : Addr) (o1 : Addr) {m0_ : UInt64} {m1_ : UInt64} {m2_ : UInt64} {m3_ : UInt64} {w1 : Addr} {k1 : ClassId} {k2 : ClassId} (h0 : Heap) (n0 : Nat) (Z0 : n0 ≤ h0.size) (hm : own_fin4 m0_ m1_ m2_ m3_) (F_groups_o0 : Fld Z h0 o0 "com/example/oceanus/oceanus/numerics/Tolerances" "groups" "[I" (.ref w1)) (ne_o0_o1 : o0 ≠ o1) (ne_w1_o1 : w1 ≠ o1) (g_o1 : n0 ≤ o1) (V_w1 : Arv Z h0 w1 k1 .int (4 : Int32) [(.int (0 : Int32)), (.int (1 : Int32)), (.int (1 : Int32)), (.int (3 : Int32))] (.int (0 : Int32))) (V_o1 : Arv Z h0 o1 k2 .double (4 : Int32) [(.double m0_), (.double m1_), (.double m2_), (.double m3_)] (.double (0 : UInt64))) :
    MetFree l (⟨"com/example/oceanus/oceanus/numerics/Tolerances", "group", "([D)V"⟩ : MethodName) (head1 (Jvm.Cond.code (⟨"com/example/oceanus/oceanus/numerics/Tolerances", "group", "([D)V"⟩ : MethodName) prog_115_method_4_code 3 none :: ws) (room_of_5_113)) (fun a U => a = #[(.ref o0), (.ref o1)] ∧ Z.Warmed39 U.vm ∧ U.heap = h0) (fun _ _ _ _ _ => True) (fun _ U o U' => ∃ v L, o = .returned v ∧ Q5_113 Z o0 o1 m0_ m1_ m2_ m3_ w1 k1 k2 h0 n0 v U'.heap L ∧ FrameEnd U o U' L (room_of_5_113).cells (room_of_5_113).slots) := by
  refine MetFree.of_bodySF (plainFor_of_name pn_5) hisR ?_
  intro p e s m args below meth c s₁ Bd hml0 hP hK
  obtain ⟨rfl, hZ, hh⟩ := hP
  have hx := Bd.exec
  have hby := Bd.bytes
  have hml : c.maxLocals = 3 := hml0
  have hown : s.vm.findClass "com/example/oceanus/oceanus/numerics/Tolerances" = some m.cls := findClass_of_methodNamed Bd.named
  have hnm := (name_of_methodNamed Bd.named Bd.method).1
  have X0 : Stand p l e (room_of_5_113) s m #[(.ref o0), (.ref o1)] below meth c s₁ [] 0 0 := Stand.of_body Bd
  have e0 : s₁.heap = h0 := by rw [← hh, Bd.state]; rfl
  have N0 := Fr.nil n0
  have G0 := gd X0 hx hby
  have pre0 : ∀ t, Steps p.tables e below (s₁.setTop (mkF m 0 #[rv o0, rv o1, .unset] [])) t → Steps p.tables e below (s₁.setTop (entryFrame m #[(.ref o0), (.ref o1)] 3)) t := fun t k => castTop (ef5_113 m o0 o1) k
  obtain ⟨T1, X1, e1, st1⟩ := getF X0 hx hZ hown (host := "") (Or.inl (wd hw 40 rfl)) Via.refl e0 F_groups_o0 (g := (mkF m 1 #[rv o0, rv o1, .unset] [(.ref o0)])) rfl rfl (hb hby d5_1)
  have G1 := gd X1 hx hby
  obtain ⟨T2, X2, e2, st2⟩ := getF X1 hx hZ hown (host := "") (Or.inl (wd hw 40 rfl)) Via.refl e1 F_groups_o0 (g := (mkF m 16 #[rv o0, rv o1, iv (0 : Int32)] [(.ref o0)])) rfl rfl (hb hby d5_16)
  have G2 := gd X2 hx hby
  obtain ⟨T3, X3, e3, st3⟩ := getF X2 hx hZ hown (host := "") (Or.inl (wd hw 40 rfl)) Via.refl e2 F_groups_o0 (g := (mkF m 16 #[rv o0, rv o1, iv (1 : Int32)] [(.ref o0)])) rfl rfl (hb hby d5_16)
  have G3 := gd X3 hx hby
  obtain ⟨T4, X4, e4, st4⟩ := getF X3 hx hZ hown (host := "") (Or.inl (wd hw 40 rfl)) Via.refl e3 F_groups_o0 (g := (mkF m 16 #[rv o0, rv o1, iv (2 : Int32)] [(.ref o0)])) rfl rfl (hb hby d5_16)
  have G4 := gd X4 hx hby
  obtain ⟨T5, X5, e5, st5⟩ := getF X4 hx hZ hown (host := "") (Or.inl (wd hw 40 rfl)) Via.refl e4 F_groups_o0 (g := (mkF m 27 #[rv o0, rv o1, iv (2 : Int32)] [(.ref o0), (.ref o1)])) rfl rfl (hb hby d5_27)
  have G5 := gd X5 hx hby
  obtain ⟨T6, h6, X6, e6, W6, Vs6, st6⟩ := own_stD X5 hx hby hZ e5 V_o1 (j := (1 : Int32)) (v := (FP.dadd m1_ m2_)) d5_38 ⟨by decide, by decide⟩ 1 rfl (Nat.le_of_ble_eq_true rfl) #[rv o0, rv o1, iv (2 : Int32)] [] 39 rfl
  have G6 := gd X6 hx hby
  have N6 := Fr.snoc X6 N0 g_o1
  have f7 := F_groups_o0.other W6 (Or.inl ne_o0_o1)
  have f11 := V_w1.other W6 ne_w1_o1
  have Z6 := Nat.le_trans Z0 (Keep.of_wr W6).1
  have K6 : Keep h0 h6 [o1] := (Keep.refl h0 [o1]).wr W6 (Or.inl (List.mem_of_getElem? (i := 0) rfl))
  have V6 : Arv Z h6 o1 k2 .double (4 : Int32) [(.double m0_), (.double (FP.dadd m1_ m2_)), (.double m2_), (.double m3_)] (.double (0 : UInt64)) := Vs6
  obtain ⟨T13, X13, e13, st13⟩ := getF X6 hx hZ hown (host := "") (Or.inl (wd hw 40 rfl)) Via.refl e6 f7 (g := (mkF m 16 #[rv o0, rv o1, iv (3 : Int32)] [(.ref o0)])) rfl rfl (hb hby d5_16)
  have G13 := gd X13 hx hby
  obtain ⟨T14, X14, e14, st14⟩ := getF X13 hx hZ hown (host := "") (Or.inl (wd hw 40 rfl)) Via.refl e13 f7 (g := (mkF m 57 #[rv o0, rv o1, iv (0 : Int32)] [(.ref o0), (.ref o1), (.int (0 : Int32)), (.ref o1)])) rfl rfl (hb hby d5_57)
  have G14 := gd X14 hx hby
  obtain ⟨T15, h15, X15, e15, W15, Vs15, st15⟩ := own_stD X14 hx hby hZ e14 V6 (j := (0 : Int32)) (v := m0_) d5_63 ⟨by decide, by decide⟩ 0 rfl (Nat.le_of_ble_eq_true rfl) #[rv o0, rv o1, iv (0 : Int32)] [] 64 rfl
  have G15 := gd X15 hx hby
  have N15 := Fr.snoc X15 N6 g_o1
  have f16 := f7.other W15 (Or.inl ne_o0_o1)
  have f20 := f11.other W15 ne_w1_o1
  have Z15 := Nat.le_trans Z6 (Keep.of_wr W15).1
  have K15 : Keep h0 h15 [o1] := K6.wr W15 (Or.inl (List.mem_of_getElem? (i := 0) rfl))
  have V15 : Arv Z h15 o1 k2 .double (4 : Int32) [(.double m0_), (.double (FP.dadd m1_ m2_)), (.double m2_), (.double m3_)] (.double (0 : UInt64)) := Vs15
  obtain ⟨T22, X22, e22, st22⟩ := getF X15 hx hZ hown (host := "") (Or.inl (wd hw 40 rfl)) Via.refl e15 f16 (g := (mkF m 57 #[rv o0, rv o1, iv (1 : Int32)] [(.ref o0), (.ref o1), (.int (1 : Int32)), (.ref o1)])) rfl rfl (hb hby d5_57)
  have G22 := gd X22 hx hby
  obtain ⟨T23, h23, X23, e23, W23, Vs23, st23⟩ := own_stD X22 hx hby hZ e22 V15 (j := (1 : Int32)) (v := (FP.dadd m1_ m2_)) d5_63 ⟨by decide, by decide⟩ 1 rfl (Nat.le_of_ble_eq_true rfl) #[rv o0, rv o1, iv (1 : Int32)] [] 64 rfl
  have G23 := gd X23 hx hby
  have N23 := Fr.snoc X23 N15 g_o1
  have f24 := f16.other W23 (Or.inl ne_o0_o1)
  have f28 := f20.other W23 ne_w1_o1
  have Z23 := Nat.le_trans Z15 (Keep.of_wr W23).1
  have K23 : Keep h0 h23 [o1] := K15.wr W23 (Or.inl (List.mem_of_getElem? (i := 0) rfl))
  have V23 : Arv Z h23 o1 k2 .double (4 : Int32) [(.double m0_), (.double (FP.dadd m1_ m2_)), (.double m2_), (.double m3_)] (.double (0 : UInt64)) := Vs23
  obtain ⟨T30, X30, e30, st30⟩ := getF X23 hx hZ hown (host := "") (Or.inl (wd hw 40 rfl)) Via.refl e23 f24 (g := (mkF m 57 #[rv o0, rv o1, iv (2 : Int32)] [(.ref o0), (.ref o1), (.int (2 : Int32)), (.ref o1)])) rfl rfl (hb hby d5_57)
  have G30 := gd X30 hx hby
  obtain ⟨T31, h31, X31, e31, W31, Vs31, st31⟩ := own_stD X30 hx hby hZ e30 V23 (j := (2 : Int32)) (v := (FP.dadd m1_ m2_)) d5_63 ⟨by decide, by decide⟩ 2 rfl (Nat.le_of_ble_eq_true rfl) #[rv o0, rv o1, iv (2 : Int32)] [] 64 rfl
  have G31 := gd X31 hx hby
  have N31 := Fr.snoc X31 N23 g_o1
  have f32 := f24.other W31 (Or.inl ne_o0_o1)
  have f36 := f28.other W31 ne_w1_o1
  have Z31 := Nat.le_trans Z23 (Keep.of_wr W31).1
  have K31 : Keep h0 h31 [o1] := K23.wr W31 (Or.inl (List.mem_of_getElem? (i := 0) rfl))
  have V31 : Arv Z h31 o1 k2 .double (4 : Int32) [(.double m0_), (.double (FP.dadd m1_ m2_)), (.double (FP.dadd m1_ m2_)), (.double m3_)] (.double (0 : UInt64)) := Vs31
  obtain ⟨T38, X38, e38, st38⟩ := getF X31 hx hZ hown (host := "") (Or.inl (wd hw 40 rfl)) Via.refl e31 f32 (g := (mkF m 57 #[rv o0, rv o1, iv (3 : Int32)] [(.ref o0), (.ref o1), (.int (3 : Int32)), (.ref o1)])) rfl rfl (hb hby d5_57)
  have G38 := gd X38 hx hby
  obtain ⟨T39, h39, X39, e39, W39, Vs39, st39⟩ := own_stD X38 hx hby hZ e38 V31 (j := (3 : Int32)) (v := m3_) d5_63 ⟨by decide, by decide⟩ 3 rfl (Nat.le_of_ble_eq_true rfl) #[rv o0, rv o1, iv (3 : Int32)] [] 64 rfl
  have G39 := gd X39 hx hby
  have N39 := Fr.snoc X39 N31 g_o1
  have f40 := f32.other W39 (Or.inl ne_o0_o1)
  have f44 := f36.other W39 ne_w1_o1
  have Z39 := Nat.le_trans Z31 (Keep.of_wr W39).1
  have K39 : Keep h0 h39 [o1] := K31.wr W39 (Or.inl (List.mem_of_getElem? (i := 0) rfl))
  have V39 : Arv Z h39 o1 k2 .double (4 : Int32) [(.double m0_), (.double (FP.dadd m1_ m2_)), (.double (FP.dadd m1_ m2_)), (.double m3_)] (.double (0 : UInt64)) := Vs39
  obtain ⟨fs, hr, hrun, hended, hW, hsame⟩ := X39.leave (v := none) (fun _ => rfl)
  refine ⟨_, _, pre0 _ ?_, hrun, hended, _, _, rfl, ?_, ⟨_, rfl⟩, hW, hsame.mono (by decide) (by decide)⟩
  · show Steps p.tables e below (s₁.setTop (mkF m 0 #[rv o0, rv o1, .unset] [])) _
    refine maloadN 1 G0 d5_0 rfl rfl rfl ?_
    refine st1 _ ?_
    show Steps p.tables e below (T1.setTop (mkF m 4 #[rv o0, rv o1, .unset] [(.ref w1)])) _
    refine XS.ifnullNo X1.here hx rfl (hb hby d5_4) rfl ?_
    show Steps p.tables e below (T1.setTop (mkF m 7 #[rv o0, rv o1, .unset] [])) _
    refine miconst 8 G1 d5_7 (v := (0 : Int32)) rfl rfl ?_
    refine mistoreN 9 G1 d5_8 #[rv o0, rv o1, iv (0 : Int32)] rfl rfl ?_
    refine miloadN 10 G1 d5_9 rfl rfl ?_
    refine maloadN 11 G1 d5_10 rfl rfl rfl ?_
    refine mlen 12 X1 hx hby hZ e1 V_o1 d5_11 rfl ?_
    refine micmpNo 15 G1 d5_12 (tlt (by decide : (0 : Int32) < (4 : Int32))).2.1 rfl ?_
    refine maloadN 16 G1 d5_15 rfl rfl rfl ?_
    refine st2 _ ?_
    show Steps p.tables e below (T2.setTop (mkF m 19 #[rv o0, rv o1, iv (0 : Int32)] [(.ref w1)])) _
    refine miloadN 20 G2 d5_19 rfl rfl ?_
    refine miaload 21 X2 hx hby hZ e2 V_w1 (v := (0 : Int32)) d5_20 ⟨by decide, by decide⟩ rfl rfl ?_
    refine miloadN 22 G2 d5_21 rfl rfl ?_
    refine micmpYes 39 G2 d5_22 (teq (by decide : (0 : Int32) = (0 : Int32))).1 (by decide) rfl ?_
    refine miinc 42 G2 d5_39 rfl #[rv o0, rv o1, iv (1 : Int32)] rfl rfl ?_
    refine mgoto 9 G2 d5_42 (by decide) rfl ?_
    refine miloadN 10 G2 d5_9 rfl rfl ?_
    refine maloadN 11 G2 d5_10 rfl rfl rfl ?_
    refine mlen 12 X2 hx hby hZ e2 V_o1 d5_11 rfl ?_
    refine micmpNo 15 G2 d5_12 (tlt (by decide : (1 : Int32) < (4 : Int32))).2.1 rfl ?_
    refine maloadN 16 G2 d5_15 rfl rfl rfl ?_
    refine st3 _ ?_
    show Steps p.tables e below (T3.setTop (mkF m 19 #[rv o0, rv o1, iv (1 : Int32)] [(.ref w1)])) _
    refine miloadN 20 G3 d5_19 rfl rfl ?_
    refine miaload 21 X3 hx hby hZ e3 V_w1 (v := (1 : Int32)) d5_20 ⟨by decide, by decide⟩ rfl rfl ?_
    refine miloadN 22 G3 d5_21 rfl rfl ?_
    refine micmpYes 39 G3 d5_22 (teq (by decide : (1 : Int32) = (1 : Int32))).1 (by decide) rfl ?_
    refine miinc 42 G3 d5_39 rfl #[rv o0, rv o1, iv (2 : Int32)] rfl rfl ?_
    refine mgoto 9 G3 d5_42 (by decide) rfl ?_
    refine miloadN 10 G3 d5_9 rfl rfl ?_
    refine maloadN 11 G3 d5_10 rfl rfl rfl ?_
    refine mlen 12 X3 hx hby hZ e3 V_o1 d5_11 rfl ?_
    refine micmpNo 15 G3 d5_12 (tlt (by decide : (2 : Int32) < (4 : Int32))).2.1 rfl ?_
    refine maloadN 16 G3 d5_15 rfl rfl rfl ?_
    refine st4 _ ?_
    show Steps p.tables e below (T4.setTop (mkF m 19 #[rv o0, rv o1, iv (2 : Int32)] [(.ref w1)])) _
    refine miloadN 20 G4 d5_19 rfl rfl ?_
    refine miaload 21 X4 hx hby hZ e4 V_w1 (v := (1 : Int32)) d5_20 ⟨by decide, by decide⟩ rfl rfl ?_
    refine miloadN 22 G4 d5_21 rfl rfl ?_
    refine micmpNo 25 G4 d5_22 (feq (by decide : ¬ ((1 : Int32) = (2 : Int32)))).1 rfl ?_
    refine maloadN 26 G4 d5_25 rfl rfl rfl ?_
    refine maloadN 27 G4 d5_26 rfl rfl rfl ?_
    refine st5 _ ?_
    show Steps p.tables e below (T5.setTop (mkF m 30 #[rv o0, rv o1, iv (2 : Int32)] [(.ref w1), (.ref o1)])) _
    refine miloadN 31 G5 d5_30 rfl rfl ?_
    refine miaload 32 X5 hx hby hZ e5 V_w1 (v := (1 : Int32)) d5_31 ⟨by decide, by decide⟩ rfl rfl ?_
    refine mdup2 33 G5 d5_32 rfl rfl rfl ?_
    refine mdaload 34 X5 hx hby hZ e5 V_o1 (v := m1_) d5_33 ⟨by decide, by decide⟩ rfl rfl ?_
    refine maloadN 35 G5 d5_34 rfl rfl rfl ?_
    refine miloadN 36 G5 d5_35 rfl rfl ?_
    refine mdaload 37 X5 hx hby hZ e5 V_o1 (v := m2_) d5_36 ⟨by decide, by decide⟩ rfl rfl ?_
    refine mdadd 38 G5 d5_37 (own_rm5_113_hn37 o0 o1 m0_ m1_ m2_ m3_ w1 k1 k2 hm) rfl ?_
    refine st6 _ ?_
    refine miinc 42 G6 d5_39 rfl #[rv o0, rv o1, iv (3 : Int32)] rfl rfl ?_
    refine mgoto 9 G6 d5_42 (by decide) rfl ?_
    refine miloadN 10 G6 d5_9 rfl rfl ?_
    refine maloadN 11 G6 d5_10 rfl rfl rfl ?_
    refine mlen 12 X6 hx hby hZ e6 V6 d5_11 rfl ?_
    refine micmpNo 15 G6 d5_12 (tlt (by decide : (3 : Int32) < (4 : Int32))).2.1 rfl ?_
    refine maloadN 16 G6 d5_15 rfl rfl rfl ?_
    refine st13 _ ?_
    show Steps p.tables e below (T13.setTop (mkF m 19 #[rv o0, rv o1, iv (3 : Int32)] [(.ref w1)])) _
    refine miloadN 20 G13 d5_19 rfl rfl ?_
    refine miaload 21 X13 hx hby hZ e13 f11 (v := (3 : Int32)) d5_20 ⟨by decide, by decide⟩ rfl rfl ?_
    refine miloadN 22 G13 d5_21 rfl rfl ?_
    refine micmpYes 39 G13 d5_22 (teq (by decide : (3 : Int32) = (3 : Int32))).1 (by decide) rfl ?_
    refine miinc 42 G13 d5_39 rfl #[rv o0, rv o1, iv (4 : Int32)] rfl rfl ?_
    refine mgoto 9 G13 d5_42 (by decide) rfl ?_
    refine miloadN 10 G13 d5_9 rfl rfl ?_
    refine maloadN 11 G13 d5_10 rfl rfl rfl ?_
    refine mlen 12 X13 hx hby hZ e13 V6 d5_11 rfl ?_
    refine micmpYes 45 G13 d5_12 (flt (by decide : ¬ ((4 : Int32) < (4 : Int32)))).2.1 (by decide) rfl ?_
    refine miconst 46 G13 d5_45 (v := (0 : Int32)) rfl rfl ?_
    refine mistoreN 47 G13 d5_46 #[rv o0, rv o1, iv (0 : Int32)] rfl rfl ?_
    refine miloadN 48 G13 d5_47 rfl rfl ?_
    refine maloadN 49 G13 d5_48 rfl rfl rfl ?_
    refine mlen 50 X13 hx hby hZ e13 V6 d5_49 rfl ?_
    refine micmpNo 53 G13 d5_50 (tlt (by decide : (0 : Int32) < (4 : Int32))).2.1 rfl ?_
    refine maloadN 54 G13 d5_53 rfl rfl rfl ?_
    refine miloadN 55 G13 d5_54 rfl rfl ?_
    refine maloadN 56 G13 d5_55 rfl rfl rfl ?_
    refine maloadN 57 G13 d5_56 rfl rfl rfl ?_
    refine st14 _ ?_
    show Steps p.tables e below (T14.setTop (mkF m 60 #[rv o0, rv o1, iv (0 : Int32)] [(.ref w1), (.ref o1), (.int (0 : Int32)), (.ref o1)])) _
    refine miloadN 61 G14 d5_60 rfl rfl ?_
    refine miaload 62 X14 hx hby hZ e14 f11 (v := (0 : Int32)) d5_61 ⟨by decide, by decide⟩ rfl rfl ?_
    refine mdaload 63 X14 hx hby hZ e14 V6 (v := m0_) d5_62 ⟨by decide, by decide⟩ rfl rfl ?_
    refine st15 _ ?_
    refine miinc 67 G15 d5_64 rfl #[rv o0, rv o1, iv (1 : Int32)] rfl rfl ?_
    refine mgoto 47 G15 d5_67 (by decide) rfl ?_
    refine miloadN 48 G15 d5_47 rfl rfl ?_
    refine maloadN 49 G15 d5_48 rfl rfl rfl ?_
    refine mlen 50 X15 hx hby hZ e15 V15 d5_49 rfl ?_
    refine micmpNo 53 G15 d5_50 (tlt (by decide : (1 : Int32) < (4 : Int32))).2.1 rfl ?_
    refine maloadN 54 G15 d5_53 rfl rfl rfl ?_
    refine miloadN 55 G15 d5_54 rfl rfl ?_
    refine maloadN 56 G15 d5_55 rfl rfl rfl ?_
    refine maloadN 57 G15 d5_56 rfl rfl rfl ?_
    refine st22 _ ?_
    show Steps p.tables e below (T22.setTop (mkF m 60 #[rv o0, rv o1, iv (1 : Int32)] [(.ref w1), (.ref o1), (.int (1 : Int32)), (.ref o1)])) _
    refine miloadN 61 G22 d5_60 rfl rfl ?_
    refine miaload 62 X22 hx hby hZ e22 f20 (v := (1 : Int32)) d5_61 ⟨by decide, by decide⟩ rfl rfl ?_
    refine mdaload 63 X22 hx hby hZ e22 V15 (v := (FP.dadd m1_ m2_)) d5_62 ⟨by decide, by decide⟩ rfl rfl ?_
    refine st23 _ ?_
    refine miinc 67 G23 d5_64 rfl #[rv o0, rv o1, iv (2 : Int32)] rfl rfl ?_
    refine mgoto 47 G23 d5_67 (by decide) rfl ?_
    refine miloadN 48 G23 d5_47 rfl rfl ?_
    refine maloadN 49 G23 d5_48 rfl rfl rfl ?_
    refine mlen 50 X23 hx hby hZ e23 V23 d5_49 rfl ?_
    refine micmpNo 53 G23 d5_50 (tlt (by decide : (2 : Int32) < (4 : Int32))).2.1 rfl ?_
    refine maloadN 54 G23 d5_53 rfl rfl rfl ?_
    refine miloadN 55 G23 d5_54 rfl rfl ?_
    refine maloadN 56 G23 d5_55 rfl rfl rfl ?_
    refine maloadN 57 G23 d5_56 rfl rfl rfl ?_
    refine st30 _ ?_
    show Steps p.tables e below (T30.setTop (mkF m 60 #[rv o0, rv o1, iv (2 : Int32)] [(.ref w1), (.ref o1), (.int (2 : Int32)), (.ref o1)])) _
    refine miloadN 61 G30 d5_60 rfl rfl ?_
    refine miaload 62 X30 hx hby hZ e30 f28 (v := (1 : Int32)) d5_61 ⟨by decide, by decide⟩ rfl rfl ?_
    refine mdaload 63 X30 hx hby hZ e30 V23 (v := (FP.dadd m1_ m2_)) d5_62 ⟨by decide, by decide⟩ rfl rfl ?_
    refine st31 _ ?_
    refine miinc 67 G31 d5_64 rfl #[rv o0, rv o1, iv (3 : Int32)] rfl rfl ?_
    refine mgoto 47 G31 d5_67 (by decide) rfl ?_
    refine miloadN 48 G31 d5_47 rfl rfl ?_
    refine maloadN 49 G31 d5_48 rfl rfl rfl ?_
    refine mlen 50 X31 hx hby hZ e31 V31 d5_49 rfl ?_
    refine micmpNo 53 G31 d5_50 (tlt (by decide : (3 : Int32) < (4 : Int32))).2.1 rfl ?_
    refine maloadN 54 G31 d5_53 rfl rfl rfl ?_
    refine miloadN 55 G31 d5_54 rfl rfl ?_
    refine maloadN 56 G31 d5_55 rfl rfl rfl ?_
    refine maloadN 57 G31 d5_56 rfl rfl rfl ?_
    refine st38 _ ?_
    show Steps p.tables e below (T38.setTop (mkF m 60 #[rv o0, rv o1, iv (3 : Int32)] [(.ref w1), (.ref o1), (.int (3 : Int32)), (.ref o1)])) _
    refine miloadN 61 G38 d5_60 rfl rfl ?_
    refine miaload 62 X38 hx hby hZ e38 f36 (v := (3 : Int32)) d5_61 ⟨by decide, by decide⟩ rfl rfl ?_
    refine mdaload 63 X38 hx hby hZ e38 V31 (v := m3_) d5_62 ⟨by decide, by decide⟩ rfl rfl ?_
    refine st39 _ ?_
    refine miinc 67 G39 d5_64 rfl #[rv o0, rv o1, iv (4 : Int32)] rfl rfl ?_
    refine mgoto 47 G39 d5_67 (by decide) rfl ?_
    refine miloadN 48 G39 d5_47 rfl rfl ?_
    refine maloadN 49 G39 d5_48 rfl rfl rfl ?_
    refine mlen 50 X39 hx hby hZ e39 V39 d5_49 rfl ?_
    refine micmpYes 70 G39 d5_50 (flt (by decide : ¬ ((4 : Int32) < (4 : Int32)))).2.1 (by decide) rfl ?_
    exact X39.returnOut hx Bd.returns (hb hby d5_70) hr
  · show Q5_113 Z o0 o1 m0_ m1_ m2_ m3_ w1 k1 k2 h0 n0 _ T39.heap _
    rw [e39]
    exact ⟨rfl, N39, K39, V39⟩
theorem ef5_120 (m : MethodId) (o0 : Addr) (o1 : Addr) : entryFrame m #[(.ref o0), (.ref o1)] 3 = mkF m 0 #[rv o0, rv o1, .unset] [] := by first | (simp [entryFrame, mkF, argsToLocals, Value.category]; done) | rfl
abbrev room_of_5_120 : Room := { frames := 0, cells := 0, slots := 0, locals := 0 }
def Q5_120 (Z : State) (o0 : Addr) (o1 : Addr) (m0_ : UInt64) (m1_ : UInt64) (m2_ : UInt64) (m3_ : UInt64) (w1 : Addr) (k1 : ClassId) (k2 : ClassId) (h0 : Heap) (n0 : Nat) (v : Option Value) (h : Heap) (L : List Loc) : Prop := v = none ∧ Fr n0 L ∧ Keep h0 h [o1] ∧ Arv Z h o1 k2 .double (4 : Int32) [(.double (FP.dadd m0_ m3_)), (.double m1_), (.double m2_), (.double (FP.dadd m0_ m3_))] (.double (0 : UInt64))
theorem own_rm5_120_hn37 (o0 : Addr) (o1 : Addr) (m0_ : UInt64) (m1_ : UInt64) (m2_ : UInt64) (m3_ : UInt64) (w1 : Addr) (k1 : ClassId) (k2 : ClassId) (hm : own_fin4 m0_ m1_ m2_ m3_) : Jvm.Free.Fl.NoNaN64 (FP.dadd m0_ m3_) := (Jvm.Free.Fl.dadd_out hm.1.noNaN hm.2.2.2)
set_option maxRecDepth 65536 in
set_option maxHeartbeats 40000000 in
theorem rm5_120 (l : Launch) (Z : State) (a0 : Array Value) (hw : ∀ d ∈ tables_1, d.before a0 Z = true) (ws : List Jvm.Cond) (o0 : Addr) (o1 : Addr) {m0_ : UInt64} {m1_ : UInt64} {m2_ : UInt64} {m3_ : UInt64} {w1 : Addr} {k1 : ClassId} {k2 : ClassId} (h0 : Heap) (n0 : Nat) (Z0 : n0 ≤ h0.size) (hm : own_fin4 m0_ m1_ m2_ m3_) (F_groups_o0 : Fld Z h0 o0 "com/example/oceanus/oceanus/numerics/Tolerances" "groups" "[I" (.ref w1)) (ne_o0_o1 : o0 ≠ o1) (ne_w1_o1 : w1 ≠ o1) (g_o1 : n0 ≤ o1) (V_w1 : Arv Z h0 w1 k1 .int (4 : Int32) [(.int (0 : Int32)), (.int (1 : Int32)), (.int (2 : Int32)), (.int (0 : Int32))] (.int (0 : Int32))) (V_o1 : Arv Z h0 o1 k2 .double (4 : Int32) [(.double m0_), (.double m1_), (.double m2_), (.double m3_)] (.double (0 : UInt64))) :
    MetFree l (⟨"com/example/oceanus/oceanus/numerics/Tolerances", "group", "([D)V"⟩ : MethodName) (head1 (Jvm.Cond.code (⟨"com/example/oceanus/oceanus/numerics/Tolerances", "group", "([D)V"⟩ : MethodName) prog_115_method_4_code 3 none :: ws) (room_of_5_120)) (fun a U => a = #[(.ref o0), (.ref o1)] ∧ Z.Warmed39 U.vm ∧ U.heap = h0) (fun _ _ _ _ _ => True) (fun _ U o U' => ∃ v L, o = .returned v ∧ Q5_120 Z o0 o1 m0_ m1_ m2_ m3_ w1 k1 k2 h0 n0 v U'.heap L ∧ FrameEnd U o U' L (room_of_5_120).cells (room_of_5_120).slots) := by
  refine MetFree.of_bodySF (plainFor_of_name pn_5) hisR ?_
  intro p e s m args below meth c s₁ Bd hml0 hP hK
  obtain ⟨rfl, hZ, hh⟩ := hP
  have hx := Bd.exec
  have hby := Bd.bytes
  have hml : c.maxLocals = 3 := hml0
  have hown : s.vm.findClass "com/example/oceanus/oceanus/numerics/Tolerances" = some m.cls := findClass_of_methodNamed Bd.named
  have hnm := (name_of_methodNamed Bd.named Bd.method).1
  have X0 : Stand p l e (room_of_5_120) s m #[(.ref o0), (.ref o1)] below meth c s₁ [] 0 0 := Stand.of_body Bd
  have e0 : s₁.heap = h0 := by rw [← hh, Bd.state]; rfl
  have N0 := Fr.nil n0
  have G0 := gd X0 hx hby
  have pre0 : ∀ t, Steps p.tables e below (s₁.setTop (mkF m 0 #[rv o0, rv o1, .unset] [])) t → Steps p.tables e below (s₁.setTop (entryFrame m #[(.ref o0), (.ref o1)] 3)) t := fun t k => castTop (ef5_120 m o0 o1) k
  obtain ⟨T1, X1, e1, st1⟩ := getF X0 hx hZ hown (host := "") (Or.inl (wd hw 40 rfl)) Via.refl e0 F_groups_o0 (g := (mkF m 1 #[rv o0, rv o1, .unset] [(.ref o0)])) rfl rfl (hb hby d5_1)
  have G1 := gd X1 hx hby
  obtain ⟨T2, X2, e2, st2⟩ := getF X1 hx hZ hown (host := "") (Or.inl (wd hw 40 rfl)) Via.refl e1 F_groups_o0 (g := (mkF m 16 #[rv o0, rv o1, iv (0 : Int32)] [(.ref o0)])) rfl rfl (hb hby d5_16)
  have G2 := gd X2 hx hby
  obtain ⟨T3, X3, e3, st3⟩ := getF X2 hx hZ hown (host := "") (Or.inl (wd hw 40 rfl)) Via.refl e2 F_groups_o0 (g := (mkF m 16 #[rv o0, rv o1, iv (1 : Int32)] [(.ref o0)])) rfl rfl (hb hby d5_16)
  have G3 := gd X3 hx hby
  obtain ⟨T4, X4, e4, st4⟩ := getF X3 hx hZ hown (host := "") (Or.inl (wd hw 40 rfl)) Via.refl e3 F_groups_o0 (g := (mkF m 16 #[rv o0, rv o1, iv (2 : Int32)] [(.ref o0)])) rfl rfl (hb hby d5_16)
  have G4 := gd X4 hx hby
  obtain ⟨T5, X5, e5, st5⟩ := getF X4 hx hZ hown (host := "") (Or.inl (wd hw 40 rfl)) Via.refl e4 F_groups_o0 (g := (mkF m 16 #[rv o0, rv o1, iv (3 : Int32)] [(.ref o0)])) rfl rfl (hb hby d5_16)
  have G5 := gd X5 hx hby
  obtain ⟨T6, X6, e6, st6⟩ := getF X5 hx hZ hown (host := "") (Or.inl (wd hw 40 rfl)) Via.refl e5 F_groups_o0 (g := (mkF m 27 #[rv o0, rv o1, iv (3 : Int32)] [(.ref o0), (.ref o1)])) rfl rfl (hb hby d5_27)
  have G6 := gd X6 hx hby
  obtain ⟨T7, h7, X7, e7, W7, Vs7, st7⟩ := own_stD X6 hx hby hZ e6 V_o1 (j := (0 : Int32)) (v := (FP.dadd m0_ m3_)) d5_38 ⟨by decide, by decide⟩ 0 rfl (Nat.le_of_ble_eq_true rfl) #[rv o0, rv o1, iv (3 : Int32)] [] 39 rfl
  have G7 := gd X7 hx hby
  have N7 := Fr.snoc X7 N0 g_o1
  have f8 := F_groups_o0.other W7 (Or.inl ne_o0_o1)
  have f12 := V_w1.other W7 ne_w1_o1
  have Z7 := Nat.le_trans Z0 (Keep.of_wr W7).1
  have K7 : Keep h0 h7 [o1] := (Keep.refl h0 [o1]).wr W7 (Or.inl (List.mem_of_getElem? (i := 0) rfl))
  have V7 : Arv Z h7 o1 k2 .double (4 : Int32) [(.double (FP.dadd m0_ m3_)), (.double m1_), (.double m2_), (.double m3_)] (.double (0 : UInt64)) := Vs7
  obtain ⟨T14, X14, e14, st14⟩ := getF X7 hx hZ hown (host := "") (Or.inl (wd hw 40 rfl)) Via.refl e7 f8 (g := (mkF m 57 #[rv o0, rv o1, iv (0 : Int32)] [(.ref o0), (.ref o1), (.int (0 : Int32)), (.ref o1)])) rfl rfl (hb hby d5_57)
  have G14 := gd X14 hx hby
  obtain ⟨T15, h15, X15, e15, W15, Vs15, st15⟩ := own_stD X14 hx hby hZ e14 V7 (j := (0 : Int32)) (v := (FP.dadd m0_ m3_)) d5_63 ⟨by decide, by decide⟩ 0 rfl (Nat.le_of_ble_eq_true rfl) #[rv o0, rv o1, iv (0 : Int32)] [] 64 rfl
  have G15 := gd X15 hx hby
  have N15 := Fr.snoc X15 N7 g_o1
  have f16 := f8.other W15 (Or.inl ne_o0_o1)
  have f20 := f12.other W15 ne_w1_o1
  have Z15 := Nat.le_trans Z7 (Keep.of_wr W15).1
  have K15 : Keep h0 h15 [o1] := K7.wr W15 (Or.inl (List.mem_of_getElem? (i := 0) rfl))
  have V15 : Arv Z h15 o1 k2 .double (4 : Int32) [(.double (FP.dadd m0_ m3_)), (.double m1_), (.double m2_), (.double m3_)] (.double (0 : UInt64)) := Vs15
  obtain ⟨T22, X22, e22, st22⟩ := getF X15 hx hZ hown (host := "") (Or.inl (wd hw 40 rfl)) Via.refl e15 f16 (g := (mkF m 57 #[rv o0, rv o1, iv (1 : Int32)] [(.ref o0), (.ref o1), (.int (1 : Int32)), (.ref o1)])) rfl rfl (hb hby d5_57)
  have G22 := gd X22 hx hby
  obtain ⟨T23, h23, X23, e23, W23, Vs23, st23⟩ := own_stD X22 hx hby hZ e22 V15 (j := (1 : Int32)) (v := m1_) d5_63 ⟨by decide, by decide⟩ 1 rfl (Nat.le_of_ble_eq_true rfl) #[rv o0, rv o1, iv (1 : Int32)] [] 64 rfl
  have G23 := gd X23 hx hby
  have N23 := Fr.snoc X23 N15 g_o1
  have f24 := f16.other W23 (Or.inl ne_o0_o1)
  have f28 := f20.other W23 ne_w1_o1
  have Z23 := Nat.le_trans Z15 (Keep.of_wr W23).1
  have K23 : Keep h0 h23 [o1] := K15.wr W23 (Or.inl (List.mem_of_getElem? (i := 0) rfl))
  have V23 : Arv Z h23 o1 k2 .double (4 : Int32) [(.double (FP.dadd m0_ m3_)), (.double m1_), (.double m2_), (.double m3_)] (.double (0 : UInt64)) := Vs23
  obtain ⟨T30, X30, e30, st30⟩ := getF X23 hx hZ hown (host := "") (Or.inl (wd hw 40 rfl)) Via.refl e23 f24 (g := (mkF m 57 #[rv o0, rv o1, iv (2 : Int32)] [(.ref o0), (.ref o1), (.int (2 : Int32)), (.ref o1)])) rfl rfl (hb hby d5_57)
  have G30 := gd X30 hx hby
  obtain ⟨T31, h31, X31, e31, W31, Vs31, st31⟩ := own_stD X30 hx hby hZ e30 V23 (j := (2 : Int32)) (v := m2_) d5_63 ⟨by decide, by decide⟩ 2 rfl (Nat.le_of_ble_eq_true rfl) #[rv o0, rv o1, iv (2 : Int32)] [] 64 rfl
  have G31 := gd X31 hx hby
  have N31 := Fr.snoc X31 N23 g_o1
  have f32 := f24.other W31 (Or.inl ne_o0_o1)
  have f36 := f28.other W31 ne_w1_o1
  have Z31 := Nat.le_trans Z23 (Keep.of_wr W31).1
  have K31 : Keep h0 h31 [o1] := K23.wr W31 (Or.inl (List.mem_of_getElem? (i := 0) rfl))
  have V31 : Arv Z h31 o1 k2 .double (4 : Int32) [(.double (FP.dadd m0_ m3_)), (.double m1_), (.double m2_), (.double m3_)] (.double (0 : UInt64)) := Vs31
  obtain ⟨T38, X38, e38, st38⟩ := getF X31 hx hZ hown (host := "") (Or.inl (wd hw 40 rfl)) Via.refl e31 f32 (g := (mkF m 57 #[rv o0, rv o1, iv (3 : Int32)] [(.ref o0), (.ref o1), (.int (3 : Int32)), (.ref o1)])) rfl rfl (hb hby d5_57)
  have G38 := gd X38 hx hby
  obtain ⟨T39, h39, X39, e39, W39, Vs39, st39⟩ := own_stD X38 hx hby hZ e38 V31 (j := (3 : Int32)) (v := (FP.dadd m0_ m3_)) d5_63 ⟨by decide, by decide⟩ 3 rfl (Nat.le_of_ble_eq_true rfl) #[rv o0, rv o1, iv (3 : Int32)] [] 64 rfl
  have G39 := gd X39 hx hby
  have N39 := Fr.snoc X39 N31 g_o1
  have f40 := f32.other W39 (Or.inl ne_o0_o1)
  have f44 := f36.other W39 ne_w1_o1
  have Z39 := Nat.le_trans Z31 (Keep.of_wr W39).1
  have K39 : Keep h0 h39 [o1] := K31.wr W39 (Or.inl (List.mem_of_getElem? (i := 0) rfl))
  have V39 : Arv Z h39 o1 k2 .double (4 : Int32) [(.double (FP.dadd m0_ m3_)), (.double m1_), (.double m2_), (.double (FP.dadd m0_ m3_))] (.double (0 : UInt64)) := Vs39
  obtain ⟨fs, hr, hrun, hended, hW, hsame⟩ := X39.leave (v := none) (fun _ => rfl)
  refine ⟨_, _, pre0 _ ?_, hrun, hended, _, _, rfl, ?_, ⟨_, rfl⟩, hW, hsame.mono (by decide) (by decide)⟩
  · show Steps p.tables e below (s₁.setTop (mkF m 0 #[rv o0, rv o1, .unset] [])) _
    refine maloadN 1 G0 d5_0 rfl rfl rfl ?_
    refine st1 _ ?_
    show Steps p.tables e below (T1.setTop (mkF m 4 #[rv o0, rv o1, .unset] [(.ref w1)])) _
    refine XS.ifnullNo X1.here hx rfl (hb hby d5_4) rfl ?_
    show Steps p.tables e below (T1.setTop (mkF m 7 #[rv o0, rv o1, .unset] [])) _
    refine miconst 8 G1 d5_7 (v := (0 : Int32)) rfl rfl ?_
    refine mistoreN 9 G1 d5_8 #[rv o0, rv o1, iv (0 : Int32)] rfl rfl ?_
    refine miloadN 10 G1 d5_9 rfl rfl ?_
    refine maloadN 11 G1 d5_10 rfl rfl rfl ?_
    refine mlen 12 X1 hx hby hZ e1 V_o1 d5_11 rfl ?_
    refine micmpNo 15 G1 d5_12 (tlt (by decide : (0 : Int32) < (4 : Int32))).2.1 rfl ?_
    refine maloadN 16 G1 d5_15 rfl rfl rfl ?_
    refine st2 _ ?_
    show Steps p.tables e below (T2.setTop (mkF m 19 #[rv o0, rv o1, iv (0 : Int32)] [(.ref w1)])) _
    refine miloadN 20 G2 d5_19 rfl rfl ?_
    refine miaload 21 X2 hx hby hZ e2 V_w1 (v := (0 : Int32)) d5_20 ⟨by decide, by decide⟩ rfl rfl ?_
    refine miloadN 22 G2 d5_21 rfl rfl ?_
    refine micmpYes 39 G2 d5_22 (teq (by decide : (0 : Int32) = (0 : Int32))).1 (by decide) rfl ?_
    refine miinc 42 G2 d5_39 rfl #[rv o0, rv o1, iv (1 : Int32)] rfl rfl ?_
    refine mgoto 9 G2 d5_42 (by decide) rfl ?_
    refine miloadN 10 G2 d5_9 rfl rfl ?_
    refine maloadN 11 G2 d5_10 rfl rfl rfl ?_
    refine mlen 12 X2 hx hby hZ e2 V_o1 d5_11 rfl ?_
    refine micmpNo 15 G2 d5_12 (tlt (by decide : (1 : Int32) < (4 : Int32))).2.1 rfl ?_
    refine maloadN 16 G2 d5_15 rfl rfl rfl ?_
    refine st3 _ ?_
    show Steps p.tables e below (T3.setTop (mkF m 19 #[rv o0, rv o1, iv (1 : Int32)] [(.ref w1)])) _
    refine miloadN 20 G3 d5_19 rfl rfl ?_
    refine miaload 21 X3 hx hby hZ e3 V_w1 (v := (1 : Int32)) d5_20 ⟨by decide, by decide⟩ rfl rfl ?_
    refine miloadN 22 G3 d5_21 rfl rfl ?_
    refine micmpYes 39 G3 d5_22 (teq (by decide : (1 : Int32) = (1 : Int32))).1 (by decide) rfl ?_
    refine miinc 42 G3 d5_39 rfl #[rv o0, rv o1, iv (2 : Int32)] rfl rfl ?_
    refine mgoto 9 G3 d5_42 (by decide) rfl ?_
    refine miloadN 10 G3 d5_9 rfl rfl ?_
    refine maloadN 11 G3 d5_10 rfl rfl rfl ?_
    refine mlen 12 X3 hx hby hZ e3 V_o1 d5_11 rfl ?_
    refine micmpNo 15 G3 d5_12 (tlt (by decide : (2 : Int32) < (4 : Int32))).2.1 rfl ?_
    refine maloadN 16 G3 d5_15 rfl rfl rfl ?_
    refine st4 _ ?_
    show Steps p.tables e below (T4.setTop (mkF m 19 #[rv o0, rv o1, iv (2 : Int32)] [(.ref w1)])) _
    refine miloadN 20 G4 d5_19 rfl rfl ?_
    refine miaload 21 X4 hx hby hZ e4 V_w1 (v := (2 : Int32)) d5_20 ⟨by decide, by decide⟩ rfl rfl ?_
    refine miloadN 22 G4 d5_21 rfl rfl ?_
    refine micmpYes 39 G4 d5_22 (teq (by decide : (2 : Int32) = (2 : Int32))).1 (by decide) rfl ?_
    refine miinc 42 G4 d5_39 rfl #[rv o0, rv o1, iv (3 : Int32)] rfl rfl ?_
    refine mgoto 9 G4 d5_42 (by decide) rfl ?_
    refine miloadN 10 G4 d5_9 rfl rfl ?_
    refine maloadN 11 G4 d5_10 rfl rfl rfl ?_
    refine mlen 12 X4 hx hby hZ e4 V_o1 d5_11 rfl ?_
    refine micmpNo 15 G4 d5_12 (tlt (by decide : (3 : Int32) < (4 : Int32))).2.1 rfl ?_
    refine maloadN 16 G4 d5_15 rfl rfl rfl ?_
    refine st5 _ ?_
    show Steps p.tables e below (T5.setTop (mkF m 19 #[rv o0, rv o1, iv (3 : Int32)] [(.ref w1)])) _
    refine miloadN 20 G5 d5_19 rfl rfl ?_
    refine miaload 21 X5 hx hby hZ e5 V_w1 (v := (0 : Int32)) d5_20 ⟨by decide, by decide⟩ rfl rfl ?_
    refine miloadN 22 G5 d5_21 rfl rfl ?_
    refine micmpNo 25 G5 d5_22 (feq (by decide : ¬ ((0 : Int32) = (3 : Int32)))).1 rfl ?_
    refine maloadN 26 G5 d5_25 rfl rfl rfl ?_
    refine maloadN 27 G5 d5_26 rfl rfl rfl ?_
    refine st6 _ ?_
    show Steps p.tables e below (T6.setTop (mkF m 30 #[rv o0, rv o1, iv (3 : Int32)] [(.ref w1), (.ref o1)])) _
    refine miloadN 31 G6 d5_30 rfl rfl ?_
    refine miaload 32 X6 hx hby hZ e6 V_w1 (v := (0 : Int32)) d5_31 ⟨by decide, by decide⟩ rfl rfl ?_
    refine mdup2 33 G6 d5_32 rfl rfl rfl ?_
    refine mdaload 34 X6 hx hby hZ e6 V_o1 (v := m0_) d5_33 ⟨by decide, by decide⟩ rfl rfl ?_
    refine maloadN 35 G6 d5_34 rfl rfl rfl ?_
    refine miloadN 36 G6 d5_35 rfl rfl ?_
    refine mdaload 37 X6 hx hby hZ e6 V_o1 (v := m3_) d5_36 ⟨by decide, by decide⟩ rfl rfl ?_
    refine mdadd 38 G6 d5_37 (own_rm5_120_hn37 o0 o1 m0_ m1_ m2_ m3_ w1 k1 k2 hm) rfl ?_
    refine st7 _ ?_
    refine miinc 42 G7 d5_39 rfl #[rv o0, rv o1, iv (4 : Int32)] rfl rfl ?_
    refine mgoto 9 G7 d5_42 (by decide) rfl ?_
    refine miloadN 10 G7 d5_9 rfl rfl ?_
    refine maloadN 11 G7 d5_10 rfl rfl rfl ?_
    refine mlen 12 X7 hx hby hZ e7 V7 d5_11 rfl ?_
    refine micmpYes 45 G7 d5_12 (flt (by decide : ¬ ((4 : Int32) < (4 : Int32)))).2.1 (by decide) rfl ?_
    refine miconst 46 G7 d5_45 (v := (0 : Int32)) rfl rfl ?_
    refine mistoreN 47 G7 d5_46 #[rv o0, rv o1, iv (0 : Int32)] rfl rfl ?_
    refine miloadN 48 G7 d5_47 rfl rfl ?_
    refine maloadN 49 G7 d5_48 rfl rfl rfl ?_
    refine mlen 50 X7 hx hby hZ e7 V7 d5_49 rfl ?_
    refine micmpNo 53 G7 d5_50 (tlt (by decide : (0 : Int32) < (4 : Int32))).2.1 rfl ?_
    refine maloadN 54 G7 d5_53 rfl rfl rfl ?_
    refine miloadN 55 G7 d5_54 rfl rfl ?_
    refine maloadN 56 G7 d5_55 rfl rfl rfl ?_
    refine maloadN 57 G7 d5_56 rfl rfl rfl ?_
    refine st14 _ ?_
    show Steps p.tables e below (T14.setTop (mkF m 60 #[rv o0, rv o1, iv (0 : Int32)] [(.ref w1), (.ref o1), (.int (0 : Int32)), (.ref o1)])) _
    refine miloadN 61 G14 d5_60 rfl rfl ?_
    refine miaload 62 X14 hx hby hZ e14 f12 (v := (0 : Int32)) d5_61 ⟨by decide, by decide⟩ rfl rfl ?_
    refine mdaload 63 X14 hx hby hZ e14 V7 (v := (FP.dadd m0_ m3_)) d5_62 ⟨by decide, by decide⟩ rfl rfl ?_
    refine st15 _ ?_
    refine miinc 67 G15 d5_64 rfl #[rv o0, rv o1, iv (1 : Int32)] rfl rfl ?_
    refine mgoto 47 G15 d5_67 (by decide) rfl ?_
    refine miloadN 48 G15 d5_47 rfl rfl ?_
    refine maloadN 49 G15 d5_48 rfl rfl rfl ?_
    refine mlen 50 X15 hx hby hZ e15 V15 d5_49 rfl ?_
    refine micmpNo 53 G15 d5_50 (tlt (by decide : (1 : Int32) < (4 : Int32))).2.1 rfl ?_
    refine maloadN 54 G15 d5_53 rfl rfl rfl ?_
    refine miloadN 55 G15 d5_54 rfl rfl ?_
    refine maloadN 56 G15 d5_55 rfl rfl rfl ?_
    refine maloadN 57 G15 d5_56 rfl rfl rfl ?_
    refine st22 _ ?_
    show Steps p.tables e below (T22.setTop (mkF m 60 #[rv o0, rv o1, iv (1 : Int32)] [(.ref w1), (.ref o1), (.int (1 : Int32)), (.ref o1)])) _
    refine miloadN 61 G22 d5_60 rfl rfl ?_
    refine miaload 62 X22 hx hby hZ e22 f20 (v := (1 : Int32)) d5_61 ⟨by decide, by decide⟩ rfl rfl ?_
    refine mdaload 63 X22 hx hby hZ e22 V15 (v := m1_) d5_62 ⟨by decide, by decide⟩ rfl rfl ?_
    refine st23 _ ?_
    refine miinc 67 G23 d5_64 rfl #[rv o0, rv o1, iv (2 : Int32)] rfl rfl ?_
    refine mgoto 47 G23 d5_67 (by decide) rfl ?_
    refine miloadN 48 G23 d5_47 rfl rfl ?_
    refine maloadN 49 G23 d5_48 rfl rfl rfl ?_
    refine mlen 50 X23 hx hby hZ e23 V23 d5_49 rfl ?_
    refine micmpNo 53 G23 d5_50 (tlt (by decide : (2 : Int32) < (4 : Int32))).2.1 rfl ?_
    refine maloadN 54 G23 d5_53 rfl rfl rfl ?_
    refine miloadN 55 G23 d5_54 rfl rfl ?_
    refine maloadN 56 G23 d5_55 rfl rfl rfl ?_
    refine maloadN 57 G23 d5_56 rfl rfl rfl ?_
    refine st30 _ ?_
    show Steps p.tables e below (T30.setTop (mkF m 60 #[rv o0, rv o1, iv (2 : Int32)] [(.ref w1), (.ref o1), (.int (2 : Int32)), (.ref o1)])) _
    refine miloadN 61 G30 d5_60 rfl rfl ?_
    refine miaload 62 X30 hx hby hZ e30 f28 (v := (2 : Int32)) d5_61 ⟨by decide, by decide⟩ rfl rfl ?_
    refine mdaload 63 X30 hx hby hZ e30 V23 (v := m2_) d5_62 ⟨by decide, by decide⟩ rfl rfl ?_
    refine st31 _ ?_
    refine miinc 67 G31 d5_64 rfl #[rv o0, rv o1, iv (3 : Int32)] rfl rfl ?_
    refine mgoto 47 G31 d5_67 (by decide) rfl ?_
    refine miloadN 48 G31 d5_47 rfl rfl ?_
    refine maloadN 49 G31 d5_48 rfl rfl rfl ?_
    refine mlen 50 X31 hx hby hZ e31 V31 d5_49 rfl ?_
    refine micmpNo 53 G31 d5_50 (tlt (by decide : (3 : Int32) < (4 : Int32))).2.1 rfl ?_
    refine maloadN 54 G31 d5_53 rfl rfl rfl ?_
    refine miloadN 55 G31 d5_54 rfl rfl ?_
    refine maloadN 56 G31 d5_55 rfl rfl rfl ?_
    refine maloadN 57 G31 d5_56 rfl rfl rfl ?_
    refine st38 _ ?_
    show Steps p.tables e below (T38.setTop (mkF m 60 #[rv o0, rv o1, iv (3 : Int32)] [(.ref w1), (.ref o1), (.int (3 : Int32)), (.ref o1)])) _
    refine miloadN 61 G38 d5_60 rfl rfl ?_
    refine miaload 62 X38 hx hby hZ e38 f36 (v := (0 : Int32)) d5_61 ⟨by decide, by decide⟩ rfl rfl ?_
    refine mdaload 63 X38 hx hby hZ e38 V31 (v := (FP.dadd m0_ m3_)) d5_62 ⟨by decide, by decide⟩ rfl rfl ?_
    refine st39 _ ?_
    refine miinc 67 G39 d5_64 rfl #[rv o0, rv o1, iv (4 : Int32)] rfl rfl ?_
    refine mgoto 47 G39 d5_67 (by decide) rfl ?_
    refine miloadN 48 G39 d5_47 rfl rfl ?_
    refine maloadN 49 G39 d5_48 rfl rfl rfl ?_
    refine mlen 50 X39 hx hby hZ e39 V39 d5_49 rfl ?_
    refine micmpYes 70 G39 d5_50 (flt (by decide : ¬ ((4 : Int32) < (4 : Int32)))).2.1 (by decide) rfl ?_
    exact X39.returnOut hx Bd.returns (hb hby d5_70) hr
  · show Q5_120 Z o0 o1 m0_ m1_ m2_ m3_ w1 k1 k2 h0 n0 _ T39.heap _
    rw [e39]
    exact ⟨rfl, N39, K39, V39⟩
theorem ef5_121 (m : MethodId) (o0 : Addr) (o1 : Addr) : entryFrame m #[(.ref o0), (.ref o1)] 3 = mkF m 0 #[rv o0, rv o1, .unset] [] := by first | (simp [entryFrame, mkF, argsToLocals, Value.category]; done) | rfl
abbrev room_of_5_121 : Room := { frames := 0, cells := 0, slots := 0, locals := 0 }
def Q5_121 (Z : State) (o0 : Addr) (o1 : Addr) (m0_ : UInt64) (m1_ : UInt64) (m2_ : UInt64) (m3_ : UInt64) (w1 : Addr) (k1 : ClassId) (k2 : ClassId) (h0 : Heap) (n0 : Nat) (v : Option Value) (h : Heap) (L : List Loc) : Prop := v = none ∧ Fr n0 L ∧ Keep h0 h [o1] ∧ Arv Z h o1 k2 .double (4 : Int32) [(.double m0_), (.double (FP.dadd m1_ m3_)), (.double m2_), (.double (FP.dadd m1_ m3_))] (.double (0 : UInt64))
theorem own_rm5_121_hn37 (o0 : Addr) (o1 : Addr) (m0_ : UInt64) (m1_ : UInt64) (m2_ : UInt64) (m3_ : UInt64) (w1 : Addr) (k1 : ClassId) (k2 : ClassId) (hm : own_fin4 m0_ m1_ m2_ m3_) : Jvm.Free.Fl.NoNaN64 (FP.dadd m1_ m3_) := (Jvm.Free.Fl.dadd_out hm.2.1.noNaN hm.2.2.2)
set_option maxRecDepth 65536 in
set_option maxHeartbeats 40000000 in
theorem rm5_121 (l : Launch) (Z : State) (a0 : Array Value) (hw : ∀ d ∈ tables_1, d.before a0 Z = true) (ws : List Jvm.Cond) (o0 : Addr) (o1 : Addr) {m0_ : UInt64} {m1_ : UInt64} {m2_ : UInt64} {m3_ : UInt64} {w1 : Addr} {k1 : ClassId} {k2 : ClassId} (h0 : Heap) (n0 : Nat) (Z0 : n0 ≤ h0.size) (hm : own_fin4 m0_ m1_ m2_ m3_) (F_groups_o0 : Fld Z h0 o0 "com/example/oceanus/oceanus/numerics/Tolerances" "groups" "[I" (.ref w1)) (ne_o0_o1 : o0 ≠ o1) (ne_w1_o1 : w1 ≠ o1) (g_o1 : n0 ≤ o1) (V_w1 : Arv Z h0 w1 k1 .int (4 : Int32) [(.int (0 : Int32)), (.int (1 : Int32)), (.int (2 : Int32)), (.int (1 : Int32))] (.int (0 : Int32))) (V_o1 : Arv Z h0 o1 k2 .double (4 : Int32) [(.double m0_), (.double m1_), (.double m2_), (.double m3_)] (.double (0 : UInt64))) :
    MetFree l (⟨"com/example/oceanus/oceanus/numerics/Tolerances", "group", "([D)V"⟩ : MethodName) (head1 (Jvm.Cond.code (⟨"com/example/oceanus/oceanus/numerics/Tolerances", "group", "([D)V"⟩ : MethodName) prog_115_method_4_code 3 none :: ws) (room_of_5_121)) (fun a U => a = #[(.ref o0), (.ref o1)] ∧ Z.Warmed39 U.vm ∧ U.heap = h0) (fun _ _ _ _ _ => True) (fun _ U o U' => ∃ v L, o = .returned v ∧ Q5_121 Z o0 o1 m0_ m1_ m2_ m3_ w1 k1 k2 h0 n0 v U'.heap L ∧ FrameEnd U o U' L (room_of_5_121).cells (room_of_5_121).slots) := by
  refine MetFree.of_bodySF (plainFor_of_name pn_5) hisR ?_
  intro p e s m args below meth c s₁ Bd hml0 hP hK
  obtain ⟨rfl, hZ, hh⟩ := hP
  have hx := Bd.exec
  have hby := Bd.bytes
  have hml : c.maxLocals = 3 := hml0
  have hown : s.vm.findClass "com/example/oceanus/oceanus/numerics/Tolerances" = some m.cls := findClass_of_methodNamed Bd.named
  have hnm := (name_of_methodNamed Bd.named Bd.method).1
  have X0 : Stand p l e (room_of_5_121) s m #[(.ref o0), (.ref o1)] below meth c s₁ [] 0 0 := Stand.of_body Bd
  have e0 : s₁.heap = h0 := by rw [← hh, Bd.state]; rfl
  have N0 := Fr.nil n0
  have G0 := gd X0 hx hby
  have pre0 : ∀ t, Steps p.tables e below (s₁.setTop (mkF m 0 #[rv o0, rv o1, .unset] [])) t → Steps p.tables e below (s₁.setTop (entryFrame m #[(.ref o0), (.ref o1)] 3)) t := fun t k => castTop (ef5_121 m o0 o1) k
  obtain ⟨T1, X1, e1, st1⟩ := getF X0 hx hZ hown (host := "") (Or.inl (wd hw 40 rfl)) Via.refl e0 F_groups_o0 (g := (mkF m 1 #[rv o0, rv o1, .unset] [(.ref o0)])) rfl rfl (hb hby d5_1)
  have G1 := gd X1 hx hby
  obtain ⟨T2, X2, e2, st2⟩ := getF X1 hx hZ hown (host := "") (Or.inl (wd hw 40 rfl)) Via.refl e1 F_groups_o0 (g := (mkF m 16 #[rv o0, rv o1, iv (0 : Int32)] [(.ref o0)])) rfl rfl (hb hby d5_16)
  have G2 := gd X2 hx hby
  obtain ⟨T3, X3, e3, st3⟩ := getF X2 hx hZ hown (host := "") (Or.inl (wd hw 40 rfl)) Via.refl e2 F_groups_o0 (g := (mkF m 16 #[rv o0, rv o1, iv (1 : Int32)] [(.ref o0)])) rfl rfl (hb hby d5_16)
  have G3 := gd X3 hx hby
  obtain ⟨T4, X4, e4, st4⟩ := getF X3 hx hZ hown (host := "") (Or.inl (wd hw 40 rfl)) Via.refl e3 F_groups_o0 (g := (mkF m 16 #[rv o0, rv o1, iv (2 : Int32)] [(.ref o0)])) rfl rfl (hb hby d5_16)
  have G4 := gd X4 hx hby
  obtain ⟨T5, X5, e5, st5⟩ := getF X4 hx hZ hown (host := "") (Or.inl (wd hw 40 rfl)) Via.refl e4 F_groups_o0 (g := (mkF m 16 #[rv o0, rv o1, iv (3 : Int32)] [(.ref o0)])) rfl rfl (hb hby d5_16)
  have G5 := gd X5 hx hby
  obtain ⟨T6, X6, e6, st6⟩ := getF X5 hx hZ hown (host := "") (Or.inl (wd hw 40 rfl)) Via.refl e5 F_groups_o0 (g := (mkF m 27 #[rv o0, rv o1, iv (3 : Int32)] [(.ref o0), (.ref o1)])) rfl rfl (hb hby d5_27)
  have G6 := gd X6 hx hby
  obtain ⟨T7, h7, X7, e7, W7, Vs7, st7⟩ := own_stD X6 hx hby hZ e6 V_o1 (j := (1 : Int32)) (v := (FP.dadd m1_ m3_)) d5_38 ⟨by decide, by decide⟩ 1 rfl (Nat.le_of_ble_eq_true rfl) #[rv o0, rv o1, iv (3 : Int32)] [] 39 rfl
  have G7 := gd X7 hx hby
  have N7 := Fr.snoc X7 N0 g_o1
  have f8 := F_groups_o0.other W7 (Or.inl ne_o0_o1)
  have f12 := V_w1.other W7 ne_w1_o1
  have Z7 := Nat.le_trans Z0 (Keep.of_wr W7).1
  have K7 : Keep h0 h7 [o1] := (Keep.refl h0 [o1]).wr W7 (Or.inl (List.mem_of_getElem? (i := 0) rfl))
  have V7 : Arv Z h7 o1 k2 .double (4 : Int32) [(.double m0_), (.double (FP.dadd m1_ m3_)), (.double m2_), (.double m3_)] (.double (0 : UInt64)) := Vs7
  obtain ⟨T14, X14, e14, st14⟩ := getF X7 hx hZ hown (host := "") (Or.inl (wd hw 40 rfl)) Via.refl e7 f8 (g := (mkF m 57 #[rv o0, rv o1, iv (0 : Int32)] [(.ref o0), (.ref o1), (.int (0 : Int32)), (.ref o1)])) rfl rfl (hb hby d5_57)
  have G14 := gd X14 hx hby
  obtain ⟨T15, h15, X15, e15, W15, Vs15, st15⟩ := own_stD X14 hx hby hZ e14 V7 (j := (0 : Int32)) (v := m0_) d5_63 ⟨by decide, by decide⟩ 0 rfl (Nat.le_of_ble_eq_true rfl) #[rv o0, rv o1, iv (0 : Int32)] [] 64 rfl
  have G15 := gd X15 hx hby
  have N15 := Fr.snoc X15 N7 g_o1
  have f16 := f8.other W15 (Or.inl ne_o0_o1)
  have f20 := f12.other W15 ne_w1_o1
  have Z15 := Nat.le_trans Z7 (Keep.of_wr W15).1
  have K15 : Keep h0 h15 [o1] := K7.wr W15 (Or.inl (List.mem_of_getElem? (i := 0) rfl))
  have V15 : Arv Z h15 o1 k2 .double (4 : Int32) [(.double m0_), (.double (FP.dadd m1_ m3_)), (.double m2_), (.double m3_)] (.double (0 : UInt64)) := Vs15
  obtain ⟨T22, X22, e22, st22⟩ := getF X15 hx hZ hown (host := "") (Or.inl (wd hw 40 rfl)) Via.refl e15 f16 (g := (mkF m 57 #[rv o0, rv o1, iv (1 : Int32)] [(.ref o0), (.ref o1), (.int (1 : Int32)), (.ref o1)])) rfl rfl (hb hby d5_57)
  have G22 := gd X22 hx hby
  obtain ⟨T23, h23, X23, e23, W23, Vs23, st23⟩ := own_stD X22 hx hby hZ e22 V15 (j := (1 : Int32)) (v := (FP.dadd m1_ m3_)) d5_63 ⟨by decide, by decide⟩ 1 rfl (Nat.le_of_ble_eq_true rfl) #[rv o0, rv o1, iv (1 : Int32)] [] 64 rfl
  have G23 := gd X23 hx hby
  have N23 := Fr.snoc X23 N15 g_o1
  have f24 := f16.other W23 (Or.inl ne_o0_o1)
  have f28 := f20.other W23 ne_w1_o1
  have Z23 := Nat.le_trans Z15 (Keep.of_wr W23).1
  have K23 : Keep h0 h23 [o1] := K15.wr W23 (Or.inl (List.mem_of_getElem? (i := 0) rfl))
  have V23 : Arv Z h23 o1 k2 .double (4 : Int32) [(.double m0_), (.double (FP.dadd m1_ m3_)), (.double m2_), (.double m3_)] (.double (0 : UInt64)) := Vs23
  obtain ⟨T30, X30, e30, st30⟩ := getF X23 hx hZ hown (host := "") (Or.inl (wd hw 40 rfl)) Via.refl e23 f24 (g := (mkF m 57 #[rv o0, rv o1, iv (2 : Int32)] [(.ref o0), (.ref o1), (.int (2 : Int32)), (.ref o1)])) rfl rfl (hb hby d5_57)
  have G30 := gd X30 hx hby
  obtain ⟨T31, h31, X31, e31, W31, Vs31, st31⟩ := own_stD X30 hx hby hZ e30 V23 (j := (2 : Int32)) (v := m2_) d5_63 ⟨by decide, by decide⟩ 2 rfl (Nat.le_of_ble_eq_true rfl) #[rv o0, rv o1, iv (2 : Int32)] [] 64 rfl
  have G31 := gd X31 hx hby
  have N31 := Fr.snoc X31 N23 g_o1
  have f32 := f24.other W31 (Or.inl ne_o0_o1)
  have f36 := f28.other W31 ne_w1_o1
  have Z31 := Nat.le_trans Z23 (Keep.of_wr W31).1
  have K31 : Keep h0 h31 [o1] := K23.wr W31 (Or.inl (List.mem_of_getElem? (i := 0) rfl))
  have V31 : Arv Z h31 o1 k2 .double (4 : Int32) [(.double m0_), (.double (FP.dadd m1_ m3_)), (.double m2_), (.double m3_)] (.double (0 : UInt64)) := Vs31
  obtain ⟨T38, X38, e38, st38⟩ := getF X31 hx hZ hown (host := "") (Or.inl (wd hw 40 rfl)) Via.refl e31 f32 (g := (mkF m 57 #[rv o0, rv o1, iv (3 : Int32)] [(.ref o0), (.ref o1), (.int (3 : Int32)), (.ref o1)])) rfl rfl (hb hby d5_57)
  have G38 := gd X38 hx hby
  obtain ⟨T39, h39, X39, e39, W39, Vs39, st39⟩ := own_stD X38 hx hby hZ e38 V31 (j := (3 : Int32)) (v := (FP.dadd m1_ m3_)) d5_63 ⟨by decide, by decide⟩ 3 rfl (Nat.le_of_ble_eq_true rfl) #[rv o0, rv o1, iv (3 : Int32)] [] 64 rfl
  have G39 := gd X39 hx hby
  have N39 := Fr.snoc X39 N31 g_o1
  have f40 := f32.other W39 (Or.inl ne_o0_o1)
  have f44 := f36.other W39 ne_w1_o1
  have Z39 := Nat.le_trans Z31 (Keep.of_wr W39).1
  have K39 : Keep h0 h39 [o1] := K31.wr W39 (Or.inl (List.mem_of_getElem? (i := 0) rfl))
  have V39 : Arv Z h39 o1 k2 .double (4 : Int32) [(.double m0_), (.double (FP.dadd m1_ m3_)), (.double m2_), (.double (FP.dadd m1_ m3_))] (.double (0 : UInt64)) := Vs39
  obtain ⟨fs, hr, hrun, hended, hW, hsame⟩ := X39.leave (v := none) (fun _ => rfl)
  refine ⟨_, _, pre0 _ ?_, hrun, hended, _, _, rfl, ?_, ⟨_, rfl⟩, hW, hsame.mono (by decide) (by decide)⟩
  · show Steps p.tables e below (s₁.setTop (mkF m 0 #[rv o0, rv o1, .unset] [])) _
    refine maloadN 1 G0 d5_0 rfl rfl rfl ?_
    refine st1 _ ?_
    show Steps p.tables e below (T1.setTop (mkF m 4 #[rv o0, rv o1, .unset] [(.ref w1)])) _
    refine XS.ifnullNo X1.here hx rfl (hb hby d5_4) rfl ?_
    show Steps p.tables e below (T1.setTop (mkF m 7 #[rv o0, rv o1, .unset] [])) _
    refine miconst 8 G1 d5_7 (v := (0 : Int32)) rfl rfl ?_
    refine mistoreN 9 G1 d5_8 #[rv o0, rv o1, iv (0 : Int32)] rfl rfl ?_
    refine miloadN 10 G1 d5_9 rfl rfl ?_
    refine maloadN 11 G1 d5_10 rfl rfl rfl ?_
    refine mlen 12 X1 hx hby hZ e1 V_o1 d5_11 rfl ?_
    refine micmpNo 15 G1 d5_12 (tlt (by decide : (0 : Int32) < (4 : Int32))).2.1 rfl ?_
    refine maloadN 16 G1 d5_15 rfl rfl rfl ?_
    refine st2 _ ?_
    show Steps p.tables e below (T2.setTop (mkF m 19 #[rv o0, rv o1, iv (0 : Int32)] [(.ref w1)])) _
    refine miloadN 20 G2 d5_19 rfl rfl ?_
    refine miaload 21 X2 hx hby hZ e2 V_w1 (v := (0 : Int32)) d5_20 ⟨by decide, by decide⟩ rfl rfl ?_
    refine miloadN 22 G2 d5_21 rfl rfl ?_
    refine micmpYes 39 G2 d5_22 (teq (by decide : (0 : Int32) = (0 : Int32))).1 (by decide) rfl ?_
    refine miinc 42 G2 d5_39 rfl #[rv o0, rv o1, iv (1 : Int32)] rfl rfl ?_
    refine mgoto 9 G2 d5_42 (by decide) rfl ?_
    refine miloadN 10 G2 d5_9 rfl rfl ?_
    refine maloadN 11 G2 d5_10 rfl rfl rfl ?_
    refine mlen 12 X2 hx hby hZ e2 V_o1 d5_11 rfl ?_
    refine micmpNo 15 G2 d5_12 (tlt (by decide : (1 : Int32) < (4 : Int32))).2.1 rfl ?_
    refine maloadN 16 G2 d5_15 rfl rfl rfl ?_
    refine st3 _ ?_
    show Steps p.tables e below (T3.setTop (mkF m 19 #[rv o0, rv o1, iv (1 : Int32)] [(.ref w1)])) _
    refine miloadN 20 G3 d5_19 rfl rfl ?_
    refine miaload 21 X3 hx hby hZ e3 V_w1 (v := (1 : Int32)) d5_20 ⟨by decide, by decide⟩ rfl rfl ?_
    refine miloadN 22 G3 d5_21 rfl rfl ?_
    refine micmpYes 39 G3 d5_22 (teq (by decide : (1 : Int32) = (1 : Int32))).1 (by decide) rfl ?_
    refine miinc 42 G3 d5_39 rfl #[rv o0, rv o1, iv (2 : Int32)] rfl rfl ?_
    refine mgoto 9 G3 d5_42 (by decide) rfl ?_
    refine miloadN 10 G3 d5_9 rfl rfl ?_
    refine maloadN 11 G3 d5_10 rfl rfl rfl ?_
    refine mlen 12 X3 hx hby hZ e3 V_o1 d5_11 rfl ?_
    refine micmpNo 15 G3 d5_12 (tlt (by decide : (2 : Int32) < (4 : Int32))).2.1 rfl ?_
    refine maloadN 16 G3 d5_15 rfl rfl rfl ?_
    refine st4 _ ?_
    show Steps p.tables e below (T4.setTop (mkF m 19 #[rv o0, rv o1, iv (2 : Int32)] [(.ref w1)])) _
    refine miloadN 20 G4 d5_19 rfl rfl ?_
    refine miaload 21 X4 hx hby hZ e4 V_w1 (v := (2 : Int32)) d5_20 ⟨by decide, by decide⟩ rfl rfl ?_
    refine miloadN 22 G4 d5_21 rfl rfl ?_
    refine micmpYes 39 G4 d5_22 (teq (by decide : (2 : Int32) = (2 : Int32))).1 (by decide) rfl ?_
    refine miinc 42 G4 d5_39 rfl #[rv o0, rv o1, iv (3 : Int32)] rfl rfl ?_
    refine mgoto 9 G4 d5_42 (by decide) rfl ?_
    refine miloadN 10 G4 d5_9 rfl rfl ?_
    refine maloadN 11 G4 d5_10 rfl rfl rfl ?_
    refine mlen 12 X4 hx hby hZ e4 V_o1 d5_11 rfl ?_
    refine micmpNo 15 G4 d5_12 (tlt (by decide : (3 : Int32) < (4 : Int32))).2.1 rfl ?_
    refine maloadN 16 G4 d5_15 rfl rfl rfl ?_
    refine st5 _ ?_
    show Steps p.tables e below (T5.setTop (mkF m 19 #[rv o0, rv o1, iv (3 : Int32)] [(.ref w1)])) _
    refine miloadN 20 G5 d5_19 rfl rfl ?_
    refine miaload 21 X5 hx hby hZ e5 V_w1 (v := (1 : Int32)) d5_20 ⟨by decide, by decide⟩ rfl rfl ?_
    refine miloadN 22 G5 d5_21 rfl rfl ?_
    refine micmpNo 25 G5 d5_22 (feq (by decide : ¬ ((1 : Int32) = (3 : Int32)))).1 rfl ?_
    refine maloadN 26 G5 d5_25 rfl rfl rfl ?_
    refine maloadN 27 G5 d5_26 rfl rfl rfl ?_
    refine st6 _ ?_
    show Steps p.tables e below (T6.setTop (mkF m 30 #[rv o0, rv o1, iv (3 : Int32)] [(.ref w1), (.ref o1)])) _
    refine miloadN 31 G6 d5_30 rfl rfl ?_
    refine miaload 32 X6 hx hby hZ e6 V_w1 (v := (1 : Int32)) d5_31 ⟨by decide, by decide⟩ rfl rfl ?_
    refine mdup2 33 G6 d5_32 rfl rfl rfl ?_
    refine mdaload 34 X6 hx hby hZ e6 V_o1 (v := m1_) d5_33 ⟨by decide, by decide⟩ rfl rfl ?_
    refine maloadN 35 G6 d5_34 rfl rfl rfl ?_
    refine miloadN 36 G6 d5_35 rfl rfl ?_
    refine mdaload 37 X6 hx hby hZ e6 V_o1 (v := m3_) d5_36 ⟨by decide, by decide⟩ rfl rfl ?_
    refine mdadd 38 G6 d5_37 (own_rm5_121_hn37 o0 o1 m0_ m1_ m2_ m3_ w1 k1 k2 hm) rfl ?_
    refine st7 _ ?_
    refine miinc 42 G7 d5_39 rfl #[rv o0, rv o1, iv (4 : Int32)] rfl rfl ?_
    refine mgoto 9 G7 d5_42 (by decide) rfl ?_
    refine miloadN 10 G7 d5_9 rfl rfl ?_
    refine maloadN 11 G7 d5_10 rfl rfl rfl ?_
    refine mlen 12 X7 hx hby hZ e7 V7 d5_11 rfl ?_
    refine micmpYes 45 G7 d5_12 (flt (by decide : ¬ ((4 : Int32) < (4 : Int32)))).2.1 (by decide) rfl ?_
    refine miconst 46 G7 d5_45 (v := (0 : Int32)) rfl rfl ?_
    refine mistoreN 47 G7 d5_46 #[rv o0, rv o1, iv (0 : Int32)] rfl rfl ?_
    refine miloadN 48 G7 d5_47 rfl rfl ?_
    refine maloadN 49 G7 d5_48 rfl rfl rfl ?_
    refine mlen 50 X7 hx hby hZ e7 V7 d5_49 rfl ?_
    refine micmpNo 53 G7 d5_50 (tlt (by decide : (0 : Int32) < (4 : Int32))).2.1 rfl ?_
    refine maloadN 54 G7 d5_53 rfl rfl rfl ?_
    refine miloadN 55 G7 d5_54 rfl rfl ?_
    refine maloadN 56 G7 d5_55 rfl rfl rfl ?_
    refine maloadN 57 G7 d5_56 rfl rfl rfl ?_
    refine st14 _ ?_
    show Steps p.tables e below (T14.setTop (mkF m 60 #[rv o0, rv o1, iv (0 : Int32)] [(.ref w1), (.ref o1), (.int (0 : Int32)), (.ref o1)])) _
    refine miloadN 61 G14 d5_60 rfl rfl ?_
    refine miaload 62 X14 hx hby hZ e14 f12 (v := (0 : Int32)) d5_61 ⟨by decide, by decide⟩ rfl rfl ?_
    refine mdaload 63 X14 hx hby hZ e14 V7 (v := m0_) d5_62 ⟨by decide, by decide⟩ rfl rfl ?_
    refine st15 _ ?_
    refine miinc 67 G15 d5_64 rfl #[rv o0, rv o1, iv (1 : Int32)] rfl rfl ?_
    refine mgoto 47 G15 d5_67 (by decide) rfl ?_
    refine miloadN 48 G15 d5_47 rfl rfl ?_
    refine maloadN 49 G15 d5_48 rfl rfl rfl ?_
    refine mlen 50 X15 hx hby hZ e15 V15 d5_49 rfl ?_
    refine micmpNo 53 G15 d5_50 (tlt (by decide : (1 : Int32) < (4 : Int32))).2.1 rfl ?_
    refine maloadN 54 G15 d5_53 rfl rfl rfl ?_
    refine miloadN 55 G15 d5_54 rfl rfl ?_
    refine maloadN 56 G15 d5_55 rfl rfl rfl ?_
    refine maloadN 57 G15 d5_56 rfl rfl rfl ?_
    refine st22 _ ?_
    show Steps p.tables e below (T22.setTop (mkF m 60 #[rv o0, rv o1, iv (1 : Int32)] [(.ref w1), (.ref o1), (.int (1 : Int32)), (.ref o1)])) _
    refine miloadN 61 G22 d5_60 rfl rfl ?_
    refine miaload 62 X22 hx hby hZ e22 f20 (v := (1 : Int32)) d5_61 ⟨by decide, by decide⟩ rfl rfl ?_
    refine mdaload 63 X22 hx hby hZ e22 V15 (v := (FP.dadd m1_ m3_)) d5_62 ⟨by decide, by decide⟩ rfl rfl ?_
    refine st23 _ ?_
    refine miinc 67 G23 d5_64 rfl #[rv o0, rv o1, iv (2 : Int32)] rfl rfl ?_
    refine mgoto 47 G23 d5_67 (by decide) rfl ?_
    refine miloadN 48 G23 d5_47 rfl rfl ?_
    refine maloadN 49 G23 d5_48 rfl rfl rfl ?_
    refine mlen 50 X23 hx hby hZ e23 V23 d5_49 rfl ?_
    refine micmpNo 53 G23 d5_50 (tlt (by decide : (2 : Int32) < (4 : Int32))).2.1 rfl ?_
    refine maloadN 54 G23 d5_53 rfl rfl rfl ?_
    refine miloadN 55 G23 d5_54 rfl rfl ?_
    refine maloadN 56 G23 d5_55 rfl rfl rfl ?_
    refine maloadN 57 G23 d5_56 rfl rfl rfl ?_
    refine st30 _ ?_
    show Steps p.tables e below (T30.setTop (mkF m 60 #[rv o0, rv o1, iv (2 : Int32)] [(.ref w1), (.ref o1), (.int (2 : Int32)), (.ref o1)])) _
    refine miloadN 61 G30 d5_60 rfl rfl ?_
    refine miaload 62 X30 hx hby hZ e30 f28 (v := (2 : Int32)) d5_61 ⟨by decide, by decide⟩ rfl rfl ?_
    refine mdaload 63 X30 hx hby hZ e30 V23 (v := m2_) d5_62 ⟨by decide, by decide⟩ rfl rfl ?_
    refine st31 _ ?_
    refine miinc 67 G31 d5_64 rfl #[rv o0, rv o1, iv (3 : Int32)] rfl rfl ?_
    refine mgoto 47 G31 d5_67 (by decide) rfl ?_
    refine miloadN 48 G31 d5_47 rfl rfl ?_
    refine maloadN 49 G31 d5_48 rfl rfl rfl ?_
    refine mlen 50 X31 hx hby hZ e31 V31 d5_49 rfl ?_
    refine micmpNo 53 G31 d5_50 (tlt (by decide : (3 : Int32) < (4 : Int32))).2.1 rfl ?_
    refine maloadN 54 G31 d5_53 rfl rfl rfl ?_
    refine miloadN 55 G31 d5_54 rfl rfl ?_
    refine maloadN 56 G31 d5_55 rfl rfl rfl ?_
    refine maloadN 57 G31 d5_56 rfl rfl rfl ?_
    refine st38 _ ?_
    show Steps p.tables e below (T38.setTop (mkF m 60 #[rv o0, rv o1, iv (3 : Int32)] [(.ref w1), (.ref o1), (.int (3 : Int32)), (.ref o1)])) _
    refine miloadN 61 G38 d5_60 rfl rfl ?_
    refine miaload 62 X38 hx hby hZ e38 f36 (v := (1 : Int32)) d5_61 ⟨by decide, by decide⟩ rfl rfl ?_
    refine mdaload 63 X38 hx hby hZ e38 V31 (v := (FP.dadd m1_ m3_)) d5_62 ⟨by decide, by decide⟩ rfl rfl ?_
    refine st39 _ ?_
    refine miinc 67 G39 d5_64 rfl #[rv o0, rv o1, iv (4 : Int32)] rfl rfl ?_
    refine mgoto 47 G39 d5_67 (by decide) rfl ?_
    refine miloadN 48 G39 d5_47 rfl rfl ?_
    refine maloadN 49 G39 d5_48 rfl rfl rfl ?_
    refine mlen 50 X39 hx hby hZ e39 V39 d5_49 rfl ?_
    refine micmpYes 70 G39 d5_50 (flt (by decide : ¬ ((4 : Int32) < (4 : Int32)))).2.1 (by decide) rfl ?_
    exact X39.returnOut hx Bd.returns (hb hby d5_70) hr
  · show Q5_121 Z o0 o1 m0_ m1_ m2_ m3_ w1 k1 k2 h0 n0 _ T39.heap _
    rw [e39]
    exact ⟨rfl, N39, K39, V39⟩
theorem ef5_122 (m : MethodId) (o0 : Addr) (o1 : Addr) : entryFrame m #[(.ref o0), (.ref o1)] 3 = mkF m 0 #[rv o0, rv o1, .unset] [] := by first | (simp [entryFrame, mkF, argsToLocals, Value.category]; done) | rfl
abbrev room_of_5_122 : Room := { frames := 0, cells := 0, slots := 0, locals := 0 }
def Q5_122 (Z : State) (o0 : Addr) (o1 : Addr) (m0_ : UInt64) (m1_ : UInt64) (m2_ : UInt64) (m3_ : UInt64) (w1 : Addr) (k1 : ClassId) (k2 : ClassId) (h0 : Heap) (n0 : Nat) (v : Option Value) (h : Heap) (L : List Loc) : Prop := v = none ∧ Fr n0 L ∧ Keep h0 h [o1] ∧ Arv Z h o1 k2 .double (4 : Int32) [(.double m0_), (.double m1_), (.double (FP.dadd m2_ m3_)), (.double (FP.dadd m2_ m3_))] (.double (0 : UInt64))
theorem own_rm5_122_hn37 (o0 : Addr) (o1 : Addr) (m0_ : UInt64) (m1_ : UInt64) (m2_ : UInt64) (m3_ : UInt64) (w1 : Addr) (k1 : ClassId) (k2 : ClassId) (hm : own_fin4 m0_ m1_ m2_ m3_) : Jvm.Free.Fl.NoNaN64 (FP.dadd m2_ m3_) := (Jvm.Free.Fl.dadd_out hm.2.2.1.noNaN hm.2.2.2)
set_option maxRecDepth 65536 in
set_option maxHeartbeats 40000000 in
theorem rm5_122 (l : Launch) (Z : State) (a0 : Array Value) (hw : ∀ d ∈ tables_1, d.before a0 Z = true) (ws : List Jvm.Cond) (o0 : Addr) (o1 : Addr) {m0_ : UInt64} {m1_ : UInt64} {m2_ : UInt64} {m3_ : UInt64} {w1 : Addr} {k1 : ClassId} {k2 : ClassId} (h0 : Heap) (n0 : Nat) (Z0 : n0 ≤ h0.size) (hm : own_fin4 m0_ m1_ m2_ m3_) (F_groups_o0 : Fld Z h0 o0 "com/example/oceanus/oceanus/numerics/Tolerances" "groups" "[I" (.ref w1)) (ne_o0_o1 : o0 ≠ o1) (ne_w1_o1 : w1 ≠ o1) (g_o1 : n0 ≤ o1) (V_w1 : Arv Z h0 w1 k1 .int (4 : Int32) [(.int (0 : Int32)), (.int (1 : Int32)), (.int (2 : Int32)), (.int (2 : Int32))] (.int (0 : Int32))) (V_o1 : Arv Z h0 o1 k2 .double (4 : Int32) [(.double m0_), (.double m1_), (.double m2_), (.double m3_)] (.double (0 : UInt64))) :
    MetFree l (⟨"com/example/oceanus/oceanus/numerics/Tolerances", "group", "([D)V"⟩ : MethodName) (head1 (Jvm.Cond.code (⟨"com/example/oceanus/oceanus/numerics/Tolerances", "group", "([D)V"⟩ : MethodName) prog_115_method_4_code 3 none :: ws) (room_of_5_122)) (fun a U => a = #[(.ref o0), (.ref o1)] ∧ Z.Warmed39 U.vm ∧ U.heap = h0) (fun _ _ _ _ _ => True) (fun _ U o U' => ∃ v L, o = .returned v ∧ Q5_122 Z o0 o1 m0_ m1_ m2_ m3_ w1 k1 k2 h0 n0 v U'.heap L ∧ FrameEnd U o U' L (room_of_5_122).cells (room_of_5_122).slots) := by
  refine MetFree.of_bodySF (plainFor_of_name pn_5) hisR ?_
  intro p e s m args below meth c s₁ Bd hml0 hP hK
  obtain ⟨rfl, hZ, hh⟩ := hP
  have hx := Bd.exec
  have hby := Bd.bytes
  have hml : c.maxLocals = 3 := hml0
  have hown : s.vm.findClass "com/example/oceanus/oceanus/numerics/Tolerances" = some m.cls := findClass_of_methodNamed Bd.named
  have hnm := (name_of_methodNamed Bd.named Bd.method).1
  have X0 : Stand p l e (room_of_5_122) s m #[(.ref o0), (.ref o1)] below meth c s₁ [] 0 0 := Stand.of_body Bd
  have e0 : s₁.heap = h0 := by rw [← hh, Bd.state]; rfl
  have N0 := Fr.nil n0
  have G0 := gd X0 hx hby
  have pre0 : ∀ t, Steps p.tables e below (s₁.setTop (mkF m 0 #[rv o0, rv o1, .unset] [])) t → Steps p.tables e below (s₁.setTop (entryFrame m #[(.ref o0), (.ref o1)] 3)) t := fun t k => castTop (ef5_122 m o0 o1) k
  obtain ⟨T1, X1, e1, st1⟩ := getF X0 hx hZ hown (host := "") (Or.inl (wd hw 40 rfl)) Via.refl e0 F_groups_o0 (g := (mkF m 1 #[rv o0, rv o1, .unset] [(.ref o0)])) rfl rfl (hb hby d5_1)
  have G1 := gd X1 hx hby
  obtain ⟨T2, X2, e2, st2⟩ := getF X1 hx hZ hown (host := "") (Or.inl (wd hw 40 rfl)) Via.refl e1 F_groups_o0 (g := (mkF m 16 #[rv o0, rv o1, iv (0 : Int32)] [(.ref o0)])) rfl rfl (hb hby d5_16)
  have G2 := gd X2 hx hby
  obtain ⟨T3, X3, e3, st3⟩ := getF X2 hx hZ hown (host := "") (Or.inl (wd hw 40 rfl)) Via.refl e2 F_groups_o0 (g := (mkF m 16 #[rv o0, rv o1, iv (1 : Int32)] [(.ref o0)])) rfl rfl (hb hby d5_16)
  have G3 := gd X3 hx hby
  obtain ⟨T4, X4, e4, st4⟩ := getF X3 hx hZ hown (host := "") (Or.inl (wd hw 40 rfl)) Via.refl e3 F_groups_o0 (g := (mkF m 16 #[rv o0, rv o1, iv (2 : Int32)] [(.ref o0)])) rfl rfl (hb hby d5_16)
  have G4 := gd X4 hx hby
  obtain ⟨T5, X5, e5, st5⟩ := getF X4 hx hZ hown (host := "") (Or.inl (wd hw 40 rfl)) Via.refl e4 F_groups_o0 (g := (mkF m 16 #[rv o0, rv o1, iv (3 : Int32)] [(.ref o0)])) rfl rfl (hb hby d5_16)
  have G5 := gd X5 hx hby
  obtain ⟨T6, X6, e6, st6⟩ := getF X5 hx hZ hown (host := "") (Or.inl (wd hw 40 rfl)) Via.refl e5 F_groups_o0 (g := (mkF m 27 #[rv o0, rv o1, iv (3 : Int32)] [(.ref o0), (.ref o1)])) rfl rfl (hb hby d5_27)
  have G6 := gd X6 hx hby
  obtain ⟨T7, h7, X7, e7, W7, Vs7, st7⟩ := own_stD X6 hx hby hZ e6 V_o1 (j := (2 : Int32)) (v := (FP.dadd m2_ m3_)) d5_38 ⟨by decide, by decide⟩ 2 rfl (Nat.le_of_ble_eq_true rfl) #[rv o0, rv o1, iv (3 : Int32)] [] 39 rfl
  have G7 := gd X7 hx hby
  have N7 := Fr.snoc X7 N0 g_o1
  have f8 := F_groups_o0.other W7 (Or.inl ne_o0_o1)
  have f12 := V_w1.other W7 ne_w1_o1
  have Z7 := Nat.le_trans Z0 (Keep.of_wr W7).1
  have K7 : Keep h0 h7 [o1] := (Keep.refl h0 [o1]).wr W7 (Or.inl (List.mem_of_getElem? (i := 0) rfl))
  have V7 : Arv Z h7 o1 k2 .double (4 : Int32) [(.double m0_), (.double m1_), (.double (FP.dadd m2_ m3_)), (.double m3_)] (.double (0 : UInt64)) := Vs7
  obtain ⟨T14, X14, e14, st14⟩ := getF X7 hx hZ hown (host := "") (Or.inl (wd hw 40 rfl)) Via.refl e7 f8 (g := (mkF m 57 #[rv o0, rv o1, iv (0 : Int32)] [(.ref o0), (.ref o1), (.int (0 : Int32)), (.ref o1)])) rfl rfl (hb hby d5_57)
  have G14 := gd X14 hx hby
  obtain ⟨T15, h15, X15, e15, W15, Vs15, st15⟩ := own_stD X14 hx hby hZ e14 V7 (j := (0 : Int32)) (v := m0_) d5_63 ⟨by decide, by decide⟩ 0 rfl (Nat.le_of_ble_eq_true rfl) #[rv o0, rv o1, iv (0 : Int32)] [] 64 rfl
  have G15 := gd X15 hx hby
  have N15 := Fr.snoc X15 N7 g_o1
  have f16 := f8.other W15 (Or.inl ne_o0_o1)
  have f20 := f12.other W15 ne_w1_o1
  have Z15 := Nat.le_trans Z7 (Keep.of_wr W15).1
  have K15 : Keep h0 h15 [o1] := K7.wr W15 (Or.inl (List.mem_of_getElem? (i := 0) rfl))
  have V15 : Arv Z h15 o1 k2 .double (4 : Int32) [(.double m0_), (.double m1_), (.double (FP.dadd m2_ m3_)), (.double m3_)] (.double (0 : UInt64)) := Vs15
  obtain ⟨T22, X22, e22, st22⟩ := getF X15 hx hZ hown (host := "") (Or.inl (wd hw 40 rfl)) Via.refl e15 f16 (g := (mkF m 57 #[rv o0, rv o1, iv (1 : Int32)] [(.ref o0), (.ref o1), (.int (1 : Int32)), (.ref o1)])) rfl rfl (hb hby d5_57)
  have G22 := gd X22 hx hby
  obtain ⟨T23, h23, X23, e23, W23, Vs23, st23⟩ := own_stD X22 hx hby hZ e22 V15 (j := (1 : Int32)) (v := m1_) d5_63 ⟨by decide, by decide⟩ 1 rfl (Nat.le_of_ble_eq_true rfl) #[rv o0, rv o1, iv (1 : Int32)] [] 64 rfl
  have G23 := gd X23 hx hby
  have N23 := Fr.snoc X23 N15 g_o1
  have f24 := f16.other W23 (Or.inl ne_o0_o1)
  have f28 := f20.other W23 ne_w1_o1
  have Z23 := Nat.le_trans Z15 (Keep.of_wr W23).1
  have K23 : Keep h0 h23 [o1] := K15.wr W23 (Or.inl (List.mem_of_getElem? (i := 0) rfl))
  have V23 : Arv Z h23 o1 k2 .double (4 : Int32) [(.double m0_), (.double m1_), (.double (FP.dadd m2_ m3_)), (.double m3_)] (.double (0 : UInt64)) := Vs23
  obtain ⟨T30, X30, e30, st30⟩ := getF X23 hx hZ hown (host := "") (Or.inl (wd hw 40 rfl)) Via.refl e23 f24 (g := (mkF m 57 #[rv o0, rv o1, iv (2 : Int32)] [(.ref o0), (.ref o1), (.int (2 : Int32)), (.ref o1)])) rfl rfl (hb hby d5_57)
  have G30 := gd X30 hx hby
  obtain ⟨T31, h31, X31, e31, W31, Vs31, st31⟩ := own_stD X30 hx hby hZ e30 V23 (j := (2 : Int32)) (v := (FP.dadd m2_ m3_)) d5_63 ⟨by decide, by decide⟩ 2 rfl (Nat.le_of_ble_eq_true rfl) #[rv o0, rv o1, iv (2 : Int32)] [] 64 rfl
  have G31 := gd X31 hx hby
  have N31 := Fr.snoc X31 N23 g_o1
  have f32 := f24.other W31 (Or.inl ne_o0_o1)
  have f36 := f28.other W31 ne_w1_o1
  have Z31 := Nat.le_trans Z23 (Keep.of_wr W31).1
  have K31 : Keep h0 h31 [o1] := K23.wr W31 (Or.inl (List.mem_of_getElem? (i := 0) rfl))
  have V31 : Arv Z h31 o1 k2 .double (4 : Int32) [(.double m0_), (.double m1_), (.double (FP.dadd m2_ m3_)), (.double m3_)] (.double (0 : UInt64)) := Vs31
  obtain ⟨T38, X38, e38, st38⟩ := getF X31 hx hZ hown (host := "") (Or.inl (wd hw 40 rfl)) Via.refl e31 f32 (g := (mkF m 57 #[rv o0, rv o1, iv (3 : Int32)] [(.ref o0), (.ref o1), (.int (3 : Int32)), (.ref o1)])) rfl rfl (hb hby d5_57)
  have G38 := gd X38 hx hby
  obtain ⟨T39, h39, X39, e39, W39, Vs39, st39⟩ := own_stD X38 hx hby hZ e38 V31 (j := (3 : Int32)) (v := (FP.dadd m2_ m3_)) d5_63 ⟨by decide, by decide⟩ 3 rfl (Nat.le_of_ble_eq_true rfl) #[rv o0, rv o1, iv (3 : Int32)] [] 64 rfl
  have G39 := gd X39 hx hby
  have N39 := Fr.snoc X39 N31 g_o1
  have f40 := f32.other W39 (Or.inl ne_o0_o1)
  have f44 := f36.other W39 ne_w1_o1
  have Z39 := Nat.le_trans Z31 (Keep.of_wr W39).1
  have K39 : Keep h0 h39 [o1] := K31.wr W39 (Or.inl (List.mem_of_getElem? (i := 0) rfl))
  have V39 : Arv Z h39 o1 k2 .double (4 : Int32) [(.double m0_), (.double m1_), (.double (FP.dadd m2_ m3_)), (.double (FP.dadd m2_ m3_))] (.double (0 : UInt64)) := Vs39
  obtain ⟨fs, hr, hrun, hended, hW, hsame⟩ := X39.leave (v := none) (fun _ => rfl)
  refine ⟨_, _, pre0 _ ?_, hrun, hended, _, _, rfl, ?_, ⟨_, rfl⟩, hW, hsame.mono (by decide) (by decide)⟩
  · show Steps p.tables e below (s₁.setTop (mkF m 0 #[rv o0, rv o1, .unset] [])) _
    refine maloadN 1 G0 d5_0 rfl rfl rfl ?_
    refine st1 _ ?_
    show Steps p.tables e below (T1.setTop (mkF m 4 #[rv o0, rv o1, .unset] [(.ref w1)])) _
    refine XS.ifnullNo X1.here hx rfl (hb hby d5_4) rfl ?_
    show Steps p.tables e below (T1.setTop (mkF m 7 #[rv o0, rv o1, .unset] [])) _
    refine miconst 8 G1 d5_7 (v := (0 : Int32)) rfl rfl ?_
    refine mistoreN 9 G1 d5_8 #[rv o0, rv o1, iv (0 : Int32)] rfl rfl ?_
    refine miloadN 10 G1 d5_9 rfl rfl ?_
    refine maloadN 11 G1 d5_10 rfl rfl rfl ?_
    refine mlen 12 X1 hx hby hZ e1 V_o1 d5_11 rfl ?_
    refine micmpNo 15 G1 d5_12 (tlt (by decide : (0 : Int32) < (4 : Int32))).2.1 rfl ?_
    refine maloadN 16 G1 d5_15 rfl rfl rfl ?_
    refine st2 _ ?_
    show Steps p.tables e below (T2.setTop (mkF m 19 #[rv o0, rv o1, iv (0 : Int32)] [(.ref w1)])) _
    refine miloadN 20 G2 d5_19 rfl rfl ?_
    refine miaload 21 X2 hx hby hZ e2 V_w1 (v := (0 : Int32)) d5_20 ⟨by decide, by decide⟩ rfl rfl ?_
    refine miloadN 22 G2 d5_21 rfl rfl ?_
    refine micmpYes 39 G2 d5_22 (teq (by decide : (0 : Int32) = (0 : Int32))).1 (by decide) rfl ?_
    refine miinc 42 G2 d5_39 rfl #[rv o0, rv o1, iv (1 : Int32)] rfl rfl ?_
    refine mgoto 9 G2 d5_42 (by decide) rfl ?_
    refine miloadN 10 G2 d5_9 rfl rfl ?_
    refine maloadN 11 G2 d5_10 rfl rfl rfl ?_
    refine mlen 12 X2 hx hby hZ e2 V_o1 d5_11 rfl ?_
    refine micmpNo 15 G2 d5_12 (tlt (by decide : (1 : Int32) < (4 : Int32))).2.1 rfl ?_
    refine maloadN 16 G2 d5_15 rfl rfl rfl ?_
    refine st3 _ ?_
    show Steps p.tables e below (T3.setTop (mkF m 19 #[rv o0, rv o1, iv (1 : Int32)] [(.ref w1)])) _
    refine miloadN 20 G3 d5_19 rfl rfl ?_
    refine miaload 21 X3 hx hby hZ e3 V_w1 (v := (1 : Int32)) d5_20 ⟨by decide, by decide⟩ rfl rfl ?_
    refine miloadN 22 G3 d5_21 rfl rfl ?_
    refine micmpYes 39 G3 d5_22 (teq (by decide : (1 : Int32) = (1 : Int32))).1 (by decide) rfl ?_
    refine miinc 42 G3 d5_39 rfl #[rv o0, rv o1, iv (2 : Int32)] rfl rfl ?_
    refine mgoto 9 G3 d5_42 (by decide) rfl ?_
    refine miloadN 10 G3 d5_9 rfl rfl ?_
    refine maloadN 11 G3 d5_10 rfl rfl rfl ?_
    refine mlen 12 X3 hx hby hZ e3 V_o1 d5_11 rfl ?_
    refine micmpNo 15 G3 d5_12 (tlt (by decide : (2 : Int32) < (4 : Int32))).2.1 rfl ?_
    refine maloadN 16 G3 d5_15 rfl rfl rfl ?_
    refine st4 _ ?_
    show Steps p.tables e below (T4.setTop (mkF m 19 #[rv o0, rv o1, iv (2 : Int32)] [(.ref w1)])) _
    refine miloadN 20 G4 d5_19 rfl rfl ?_
    refine miaload 21 X4 hx hby hZ e4 V_w1 (v := (2 : Int32)) d5_20 ⟨by decide, by decide⟩ rfl rfl ?_
    refine miloadN 22 G4 d5_21 rfl rfl ?_
    refine micmpYes 39 G4 d5_22 (teq (by decide : (2 : Int32) = (2 : Int32))).1 (by decide) rfl ?_
    refine miinc 42 G4 d5_39 rfl #[rv o0, rv o1, iv (3 : Int32)] rfl rfl ?_
    refine mgoto 9 G4 d5_42 (by decide) rfl ?_
    refine miloadN 10 G4 d5_9 rfl rfl ?_
    refine maloadN 11 G4 d5_10 rfl rfl rfl ?_
    refine mlen 12 X4 hx hby hZ e4 V_o1 d5_11 rfl ?_
    refine micmpNo 15 G4 d5_12 (tlt (by decide : (3 : Int32) < (4 : Int32))).2.1 rfl ?_
    refine maloadN 16 G4 d5_15 rfl rfl rfl ?_
    refine st5 _ ?_
    show Steps p.tables e below (T5.setTop (mkF m 19 #[rv o0, rv o1, iv (3 : Int32)] [(.ref w1)])) _
    refine miloadN 20 G5 d5_19 rfl rfl ?_
    refine miaload 21 X5 hx hby hZ e5 V_w1 (v := (2 : Int32)) d5_20 ⟨by decide, by decide⟩ rfl rfl ?_
    refine miloadN 22 G5 d5_21 rfl rfl ?_
    refine micmpNo 25 G5 d5_22 (feq (by decide : ¬ ((2 : Int32) = (3 : Int32)))).1 rfl ?_
    refine maloadN 26 G5 d5_25 rfl rfl rfl ?_
    refine maloadN 27 G5 d5_26 rfl rfl rfl ?_
    refine st6 _ ?_
    show Steps p.tables e below (T6.setTop (mkF m 30 #[rv o0, rv o1, iv (3 : Int32)] [(.ref w1), (.ref o1)])) _
    refine miloadN 31 G6 d5_30 rfl rfl ?_
    refine miaload 32 X6 hx hby hZ e6 V_w1 (v := (2 : Int32)) d5_31 ⟨by decide, by decide⟩ rfl rfl ?_
    refine mdup2 33 G6 d5_32 rfl rfl rfl ?_
    refine mdaload 34 X6 hx hby hZ e6 V_o1 (v := m2_) d5_33 ⟨by decide, by decide⟩ rfl rfl ?_
    refine maloadN 35 G6 d5_34 rfl rfl rfl ?_
    refine miloadN 36 G6 d5_35 rfl rfl ?_
    refine mdaload 37 X6 hx hby hZ e6 V_o1 (v := m3_) d5_36 ⟨by decide, by decide⟩ rfl rfl ?_
    refine mdadd 38 G6 d5_37 (own_rm5_122_hn37 o0 o1 m0_ m1_ m2_ m3_ w1 k1 k2 hm) rfl ?_
    refine st7 _ ?_
    refine miinc 42 G7 d5_39 rfl #[rv o0, rv o1, iv (4 : Int32)] rfl rfl ?_
    refine mgoto 9 G7 d5_42 (by decide) rfl ?_
    refine miloadN 10 G7 d5_9 rfl rfl ?_
    refine maloadN 11 G7 d5_10 rfl rfl rfl ?_
    refine mlen 12 X7 hx hby hZ e7 V7 d5_11 rfl ?_
    refine micmpYes 45 G7 d5_12 (flt (by decide : ¬ ((4 : Int32) < (4 : Int32)))).2.1 (by decide) rfl ?_
    refine miconst 46 G7 d5_45 (v := (0 : Int32)) rfl rfl ?_
    refine mistoreN 47 G7 d5_46 #[rv o0, rv o1, iv (0 : Int32)] rfl rfl ?_
    refine miloadN 48 G7 d5_47 rfl rfl ?_
    refine maloadN 49 G7 d5_48 rfl rfl rfl ?_
    refine mlen 50 X7 hx hby hZ e7 V7 d5_49 rfl ?_
    refine micmpNo 53 G7 d5_50 (tlt (by decide : (0 : Int32) < (4 : Int32))).2.1 rfl ?_
    refine maloadN 54 G7 d5_53 rfl rfl rfl ?_
    refine miloadN 55 G7 d5_54 rfl rfl ?_
    refine maloadN 56 G7 d5_55 rfl rfl rfl ?_
    refine maloadN 57 G7 d5_56 rfl rfl rfl ?_
    refine st14 _ ?_
    show Steps p.tables e below (T14.setTop (mkF m 60 #[rv o0, rv o1, iv (0 : Int32)] [(.ref w1), (.ref o1), (.int (0 : Int32)), (.ref o1)])) _
    refine miloadN 61 G14 d5_60 rfl rfl ?_
    refine miaload 62 X14 hx hby hZ e14 f12 (v := (0 : Int32)) d5_61 ⟨by decide, by decide⟩ rfl rfl ?_
    refine mdaload 63 X14 hx hby hZ e14 V7 (v := m0_) d5_62 ⟨by decide, by decide⟩ rfl rfl ?_
    refine st15 _ ?_
    refine miinc 67 G15 d5_64 rfl #[rv o0, rv o1, iv (1 : Int32)] rfl rfl ?_
    refine mgoto 47 G15 d5_67 (by decide) rfl ?_
    refine miloadN 48 G15 d5_47 rfl rfl ?_
    refine maloadN 49 G15 d5_48 rfl rfl rfl ?_
    refine mlen 50 X15 hx hby hZ e15 V15 d5_49 rfl ?_
    refine micmpNo 53 G15 d5_50 (tlt (by decide : (1 : Int32) < (4 : Int32))).2.1 rfl ?_
    refine maloadN 54 G15 d5_53 rfl rfl rfl ?_
    refine miloadN 55 G15 d5_54 rfl rfl ?_
    refine maloadN 56 G15 d5_55 rfl rfl rfl ?_
    refine maloadN 57 G15 d5_56 rfl rfl rfl ?_
    refine st22 _ ?_
    show Steps p.tables e below (T22.setTop (mkF m 60 #[rv o0, rv o1, iv (1 : Int32)] [(.ref w1), (.ref o1), (.int (1 : Int32)), (.ref o1)])) _
    refine miloadN 61 G22 d5_60 rfl rfl ?_
    refine miaload 62 X22 hx hby hZ e22 f20 (v := (1 : Int32)) d5_61 ⟨by decide, by decide⟩ rfl rfl ?_
    refine mdaload 63 X22 hx hby hZ e22 V15 (v := m1_) d5_62 ⟨by decide, by decide⟩ rfl rfl ?_
    refine st23 _ ?_
    refine miinc 67 G23 d5_64 rfl #[rv o0, rv o1, iv (2 : Int32)] rfl rfl ?_
    refine mgoto 47 G23 d5_67 (by decide) rfl ?_
    refine miloadN 48 G23 d5_47 rfl rfl ?_
    refine maloadN 49 G23 d5_48 rfl rfl rfl ?_
    refine mlen 50 X23 hx hby hZ e23 V23 d5_49 rfl ?_
    refine micmpNo 53 G23 d5_50 (tlt (by decide : (2 : Int32) < (4 : Int32))).2.1 rfl ?_
    refine maloadN 54 G23 d5_53 rfl rfl rfl ?_
    refine miloadN 55 G23 d5_54 rfl rfl ?_
    refine maloadN 56 G23 d5_55 rfl rfl rfl ?_
    refine maloadN 57 G23 d5_56 rfl rfl rfl ?_
    refine st30 _ ?_
    show Steps p.tables e below (T30.setTop (mkF m 60 #[rv o0, rv o1, iv (2 : Int32)] [(.ref w1), (.ref o1), (.int (2 : Int32)), (.ref o1)])) _
    refine miloadN 61 G30 d5_60 rfl rfl ?_
    refine miaload 62 X30 hx hby hZ e30 f28 (v := (2 : Int32)) d5_61 ⟨by decide, by decide⟩ rfl rfl ?_
    refine mdaload 63 X30 hx hby hZ e30 V23 (v := (FP.dadd m2_ m3_)) d5_62 ⟨by decide, by decide⟩ rfl rfl ?_
    refine st31 _ ?_
    refine miinc 67 G31 d5_64 rfl #[rv o0, rv o1, iv (3 : Int32)] rfl rfl ?_
    refine mgoto 47 G31 d5_67 (by decide) rfl ?_
    refine miloadN 48 G31 d5_47 rfl rfl ?_
    refine maloadN 49 G31 d5_48 rfl rfl rfl ?_
    refine mlen 50 X31 hx hby hZ e31 V31 d5_49 rfl ?_
    refine micmpNo 53 G31 d5_50 (tlt (by decide : (3 : Int32) < (4 : Int32))).2.1 rfl ?_
    refine maloadN 54 G31 d5_53 rfl rfl rfl ?_
    refine miloadN 55 G31 d5_54 rfl rfl ?_
    refine maloadN 56 G31 d5_55 rfl rfl rfl ?_
    refine maloadN 57 G31 d5_56 rfl rfl rfl ?_
    refine st38 _ ?_
    show Steps p.tables e below (T38.setTop (mkF m 60 #[rv o0, rv o1, iv (3 : Int32)] [(.ref w1), (.ref o1), (.int (3 : Int32)), (.ref o1)])) _
    refine miloadN 61 G38 d5_60 rfl rfl ?_
    refine miaload 62 X38 hx hby hZ e38 f36 (v := (2 : Int32)) d5_61 ⟨by decide, by decide⟩ rfl rfl ?_
    refine mdaload 63 X38 hx hby hZ e38 V31 (v := (FP.dadd m2_ m3_)) d5_62 ⟨by decide, by decide⟩ rfl rfl ?_
    refine st39 _ ?_
    refine miinc 67 G39 d5_64 rfl #[rv o0, rv o1, iv (4 : Int32)] rfl rfl ?_
    refine mgoto 47 G39 d5_67 (by decide) rfl ?_
    refine miloadN 48 G39 d5_47 rfl rfl ?_
    refine maloadN 49 G39 d5_48 rfl rfl rfl ?_
    refine mlen 50 X39 hx hby hZ e39 V39 d5_49 rfl ?_
    refine micmpYes 70 G39 d5_50 (flt (by decide : ¬ ((4 : Int32) < (4 : Int32)))).2.1 (by decide) rfl ?_
    exact X39.returnOut hx Bd.returns (hb hby d5_70) hr
  · show Q5_122 Z o0 o1 m0_ m1_ m2_ m3_ w1 k1 k2 h0 n0 _ T39.heap _
    rw [e39]
    exact ⟨rfl, N39, K39, V39⟩
def Q5_all (Z : State) (o0 : Addr) (o1 : Addr) (m0_ : UInt64) (m1_ : UInt64) (m2_ : UInt64) (m3_ : UInt64) (g1_ : Int32) (g2_ : Int32) (g3_ : Int32) (w1 : Addr) (k1 : ClassId) (k2 : ClassId) (h0 : Heap) (n0 : Nat) (v : Option Value) (h : Heap) (L : List Loc) : Prop := v = none ∧ Fr n0 L ∧ Keep h0 h [o1] ∧ Arv Z h o1 k2 .double (4 : Int32) [(.double (own_x0 g1_ g2_ g3_ m0_ m1_ m2_ m3_)), (.double (own_x1 g1_ g2_ g3_ m0_ m1_ m2_ m3_)), (.double (own_x2 g1_ g2_ g3_ m0_ m1_ m2_ m3_)), (.double (own_x3 g1_ g2_ g3_ m0_ m1_ m2_ m3_))] (.double (0 : UInt64))
abbrev room_of_5_all : Room := { frames := 0, cells := 0, slots := 0, locals := 0 }
theorem rm5_all (l : Launch) (Z : State) (a0 : Array Value) (hw : ∀ d ∈ tables_1, d.before a0 Z = true) (ws : List Jvm.Cond) (o0 : Addr) (o1 : Addr) {m0_ : UInt64} {m1_ : UInt64} {m2_ : UInt64} {m3_ : UInt64} {g1_ : Int32} {g2_ : Int32} {g3_ : Int32} {w1 : Addr} {k1 : ClassId} {k2 : ClassId} (h0 : Heap) (n0 : Nat) (Z0 : n0 ≤ h0.size) (hm : own_fin4 m0_ m1_ m2_ m3_) (hpat : own_pat g1_ g2_ g3_) (F_groups_o0 : Fld Z h0 o0 "com/example/oceanus/oceanus/numerics/Tolerances" "groups" "[I" (.ref w1)) (ne_o0_o1 : o0 ≠ o1) (ne_w1_o1 : w1 ≠ o1) (g_o1 : n0 ≤ o1) (V_w1 : Arv Z h0 w1 k1 .int (4 : Int32) [(.int (0 : Int32)), (.int g1_), (.int g2_), (.int g3_)] (.int (0 : Int32))) (V_o1 : Arv Z h0 o1 k2 .double (4 : Int32) [(.double m0_), (.double m1_), (.double m2_), (.double m3_)] (.double (0 : UInt64))) :
    MetFree l (⟨"com/example/oceanus/oceanus/numerics/Tolerances", "group", "([D)V"⟩ : MethodName) (head1 (Jvm.Cond.code (⟨"com/example/oceanus/oceanus/numerics/Tolerances", "group", "([D)V"⟩ : MethodName) prog_115_method_4_code 3 none :: ws) (room_of_5_all)) (fun a U => a = #[(.ref o0), (.ref o1)] ∧ Z.Warmed39 U.vm ∧ U.heap = h0) (fun _ _ _ _ _ => True) (fun _ U o U' => ∃ v L, o = .returned v ∧ Q5_all Z o0 o1 m0_ m1_ m2_ m3_ g1_ g2_ g3_ w1 k1 k2 h0 n0 v U'.heap L ∧ FrameEnd U o U' L (room_of_5_all).cells (room_of_5_all).slots) := by
  rcases hpat with ⟨rfl, rfl, rfl⟩ | ⟨rfl, rfl, rfl⟩ | ⟨rfl, rfl, rfl⟩ | ⟨rfl, rfl, rfl⟩ | ⟨rfl, rfl, rfl⟩ | ⟨rfl, rfl, rfl⟩ | ⟨rfl, rfl, rfl⟩ | ⟨rfl, rfl, rfl⟩ | ⟨rfl, rfl, rfl⟩ | ⟨rfl, rfl, rfl⟩ | ⟨rfl, rfl, rfl⟩ | ⟨rfl, rfl, rfl⟩ | ⟨rfl, rfl, rfl⟩ | ⟨rfl, rfl, rfl⟩
  · exact rm5_000 l Z a0 hw ws o0 o1 h0 n0 Z0 hm F_groups_o0 ne_o0_o1 ne_w1_o1 g_o1 V_w1 V_o1
  · exact rm5_003 l Z a0 hw ws o0 o1 h0 n0 Z0 hm F_groups_o0 ne_o0_o1 ne_w1_o1 g_o1 V_w1 V_o1
  · exact rm5_020 l Z a0 hw ws o0 o1 h0 n0 Z0 hm F_groups_o0 ne_o0_o1 ne_w1_o1 g_o1 V_w1 V_o1
  · exact rm5_022 l Z a0 hw ws o0 o1 h0 n0 Z0 hm F_groups_o0 ne_o0_o1 ne_w1_o1 g_o1 V_w1 V_o1
  · exact rm5_023 l Z a0 hw ws o0 o1 h0 n0 Z0 hm F_groups_o0 ne_o0_o1 ne_w1_o1 g_o1 V_w1 V_o1
  · exact rm5_100 l Z a0 hw ws o0 o1 h0 n0 Z0 hm F_groups_o0 ne_o0_o1 ne_w1_o1 g_o1 V_w1 V_o1
  · exact rm5_101 l Z a0 hw ws o0 o1 h0 n0 Z0 hm F_groups_o0 ne_o0_o1 ne_w1_o1 g_o1 V_w1 V_o1
  · exact rm5_103 l Z a0 hw ws o0 o1 h0 n0 Z0 hm F_groups_o0 ne_o0_o1 ne_w1_o1 g_o1 V_w1 V_o1
  · exact rm5_110 l Z a0 hw ws o0 o1 h0 n0 Z0 hm F_groups_o0 ne_o0_o1 ne_w1_o1 g_o1 V_w1 V_o1
  · exact rm5_111 l Z a0 hw ws o0 o1 h0 n0 Z0 hm F_groups_o0 ne_o0_o1 ne_w1_o1 g_o1 V_w1 V_o1
  · exact rm5_113 l Z a0 hw ws o0 o1 h0 n0 Z0 hm F_groups_o0 ne_o0_o1 ne_w1_o1 g_o1 V_w1 V_o1
  · exact rm5_120 l Z a0 hw ws o0 o1 h0 n0 Z0 hm F_groups_o0 ne_o0_o1 ne_w1_o1 g_o1 V_w1 V_o1
  · exact rm5_121 l Z a0 hw ws o0 o1 h0 n0 Z0 hm F_groups_o0 ne_o0_o1 ne_w1_o1 g_o1 V_w1 V_o1
  · exact rm5_122 l Z a0 hw ws o0 o1 h0 n0 Z0 hm F_groups_o0 ne_o0_o1 ne_w1_o1 g_o1 V_w1 V_o1
theorem d6_0 : decode method_2_code 0 = .ok (.dconst 0, 1) := by decide +kernel
theorem d6_1 : decode method_2_code 1 = .ok (.dstore_n 3, 1) := by decide +kernel
theorem d6_2 : decode method_2_code 2 = .ok (.aload_n 0, 1) := by decide +kernel
theorem d6_3 : decode method_2_code 3 = .ok (.iconst 0, 1) := by decide +kernel
theorem d6_4 : decode method_2_code 4 = .ok (.iaload, 1) := by decide +kernel
theorem d6_5 : decode method_2_code 5 = .ok (.iload_n 2, 1) := by decide +kernel
theorem d6_6 : decode method_2_code 6 = .ok (.if_icmp .ne 9, 3) := by decide +kernel
theorem d6_9 : decode method_2_code 9 = .ok (.dload_n 3, 1) := by decide +kernel
theorem d6_10 : decode method_2_code 10 = .ok (.aload_n 1, 1) := by decide +kernel
theorem d6_11 : decode method_2_code 11 = .ok (.iconst 0, 1) := by decide +kernel
theorem d6_12 : decode method_2_code 12 = .ok (.daload, 1) := by decide +kernel
theorem d6_13 : decode method_2_code 13 = .ok (.dadd, 1) := by decide +kernel
theorem d6_14 : decode method_2_code 14 = .ok (.dstore_n 3, 1) := by decide +kernel
theorem d6_15 : decode method_2_code 15 = .ok (.aload_n 0, 1) := by decide +kernel
theorem d6_16 : decode method_2_code 16 = .ok (.iconst 1, 1) := by decide +kernel
theorem d6_17 : decode method_2_code 17 = .ok (.iaload, 1) := by decide +kernel
theorem d6_18 : decode method_2_code 18 = .ok (.iload_n 2, 1) := by decide +kernel
theorem d6_19 : decode method_2_code 19 = .ok (.if_icmp .ne 9, 3) := by decide +kernel
theorem d6_22 : decode method_2_code 22 = .ok (.dload_n 3, 1) := by decide +kernel
theorem d6_23 : decode method_2_code 23 = .ok (.aload_n 1, 1) := by decide +kernel
theorem d6_24 : decode method_2_code 24 = .ok (.iconst 1, 1) := by decide +kernel
theorem d6_25 : decode method_2_code 25 = .ok (.daload, 1) := by decide +kernel
theorem d6_26 : decode method_2_code 26 = .ok (.dadd, 1) := by decide +kernel
theorem d6_27 : decode method_2_code 27 = .ok (.dstore_n 3, 1) := by decide +kernel
theorem d6_28 : decode method_2_code 28 = .ok (.aload_n 0, 1) := by decide +kernel
theorem d6_29 : decode method_2_code 29 = .ok (.iconst 2, 1) := by decide +kernel
theorem d6_30 : decode method_2_code 30 = .ok (.iaload, 1) := by decide +kernel
theorem d6_31 : decode method_2_code 31 = .ok (.iload_n 2, 1) := by decide +kernel
theorem d6_32 : decode method_2_code 32 = .ok (.if_icmp .ne 9, 3) := by decide +kernel
theorem d6_35 : decode method_2_code 35 = .ok (.dload_n 3, 1) := by decide +kernel
theorem d6_36 : decode method_2_code 36 = .ok (.aload_n 1, 1) := by decide +kernel
theorem d6_37 : decode method_2_code 37 = .ok (.iconst 2, 1) := by decide +kernel
theorem d6_38 : decode method_2_code 38 = .ok (.daload, 1) := by decide +kernel
theorem d6_39 : decode method_2_code 39 = .ok (.dadd, 1) := by decide +kernel
theorem d6_40 : decode method_2_code 40 = .ok (.dstore_n 3, 1) := by decide +kernel
theorem d6_41 : decode method_2_code 41 = .ok (.aload_n 0, 1) := by decide +kernel
theorem d6_42 : decode method_2_code 42 = .ok (.iconst 3, 1) := by decide +kernel
theorem d6_43 : decode method_2_code 43 = .ok (.iaload, 1) := by decide +kernel
theorem d6_44 : decode method_2_code 44 = .ok (.iload_n 2, 1) := by decide +kernel
theorem d6_45 : decode method_2_code 45 = .ok (.if_icmp .ne 9, 3) := by decide +kernel
theorem d6_48 : decode method_2_code 48 = .ok (.dload_n 3, 1) := by decide +kernel
theorem d6_49 : decode method_2_code 49 = .ok (.aload_n 1, 1) := by decide +kernel
theorem d6_50 : decode method_2_code 50 = .ok (.iconst 3, 1) := by decide +kernel
theorem d6_51 : decode method_2_code 51 = .ok (.daload, 1) := by decide +kernel
theorem d6_52 : decode method_2_code 52 = .ok (.dadd, 1) := by decide +kernel
theorem d6_53 : decode method_2_code 53 = .ok (.dstore_n 3, 1) := by decide +kernel
theorem d6_54 : decode method_2_code 54 = .ok (.dload_n 3, 1) := by decide +kernel
theorem d6_55 : decode method_2_code 55 = .ok (.dreturn, 1) := by decide +kernel
theorem pn_6 : plainName "com/example/oceanus/oceanus/numerics/TolerancesGroupPinLaw" = true := by first | (simp [plainName, overriddenIn]; done) | decide +kernel
theorem ef6 (m : MethodId) (o0 : Addr) (o1 : Addr) (p2 : Int32) : entryFrame m #[(.ref o0), (.ref o1), (.int p2)] 5 = mkF m 0 #[rv o0, rv o1, iv p2, .unset, .unset] [] := by first | (simp [entryFrame, mkF, argsToLocals, Value.category]; done) | rfl
abbrev room_of_6 : Room := { frames := 0, cells := 0, slots := 0, locals := 0 }
def rv6 (p2 : Int32) (m0_ : UInt64) (m1_ : UInt64) (m2_ : UInt64) (m3_ : UInt64) (g0_ : Int32) (g1_ : Int32) (g2_ : Int32) (g3_ : Int32) : UInt64 := (if g3_ = p2 then (FP.dadd (if g2_ = p2 then (FP.dadd (if g1_ = p2 then (FP.dadd (if g0_ = p2 then (FP.dadd (0 : UInt64) m0_) else (0 : UInt64)) m1_) else (if g0_ = p2 then (FP.dadd (0 : UInt64) m0_) else (0 : UInt64))) m2_) else (if g1_ = p2 then (FP.dadd (if g0_ = p2 then (FP.dadd (0 : UInt64) m0_) else (0 : UInt64)) m1_) else (if g0_ = p2 then (FP.dadd (0 : UInt64) m0_) else (0 : UInt64)))) m3_) else (if g2_ = p2 then (FP.dadd (if g1_ = p2 then (FP.dadd (if g0_ = p2 then (FP.dadd (0 : UInt64) m0_) else (0 : UInt64)) m1_) else (if g0_ = p2 then (FP.dadd (0 : UInt64) m0_) else (0 : UInt64))) m2_) else (if g1_ = p2 then (FP.dadd (if g0_ = p2 then (FP.dadd (0 : UInt64) m0_) else (0 : UInt64)) m1_) else (if g0_ = p2 then (FP.dadd (0 : UInt64) m0_) else (0 : UInt64)))))
def Q6 (Z : State) (o0 : Addr) (o1 : Addr) (p2 : Int32) (m0_ : UInt64) (m1_ : UInt64) (m2_ : UInt64) (m3_ : UInt64) (k1 : ClassId) (g0_ : Int32) (g1_ : Int32) (g2_ : Int32) (g3_ : Int32) (k2 : ClassId) (h0 : Heap) (n0 : Nat) (v : Option Value) (h : Heap) (L : List Loc) : Prop := v = some (.double (rv6 p2 m0_ m1_ m2_ m3_ g0_ g1_ g2_ g3_)) ∧ L = [] ∧ h = h0
theorem own_rm6_hn13 (o0 : Addr) (o1 : Addr) (p2 : Int32) (m0_ : UInt64) (m1_ : UInt64) (m2_ : UInt64) (m3_ : UInt64) (k1 : ClassId) (g0_ : Int32) (g1_ : Int32) (g2_ : Int32) (g3_ : Int32) (k2 : ClassId) (hc6_1 : (g0_ = p2)) (hm : own_fin4 m0_ m1_ m2_ m3_) : Jvm.Free.Fl.NoNaN64 (FP.dadd (0 : UInt64) m0_) := (Jvm.Free.Fl.dadd_out own_nn0 hm.1)
theorem own_rm6_hn26 (o0 : Addr) (o1 : Addr) (p2 : Int32) (m0_ : UInt64) (m1_ : UInt64) (m2_ : UInt64) (m3_ : UInt64) (k1 : ClassId) (g0_ : Int32) (g1_ : Int32) (g2_ : Int32) (g3_ : Int32) (k2 : ClassId) (hc19_3 : (g1_ = p2)) (hm : own_fin4 m0_ m1_ m2_ m3_) : Jvm.Free.Fl.NoNaN64 (FP.dadd (if g0_ = p2 then (FP.dadd (0 : UInt64) m0_) else (0 : UInt64)) m1_) := (Jvm.Free.Fl.dadd_out (own_nnif (Jvm.Free.Fl.dadd_out own_nn0 hm.1) own_nn0) hm.2.1)
theorem own_rm6_hn39 (o0 : Addr) (o1 : Addr) (p2 : Int32) (m0_ : UInt64) (m1_ : UInt64) (m2_ : UInt64) (m3_ : UInt64) (k1 : ClassId) (g0_ : Int32) (g1_ : Int32) (g2_ : Int32) (g3_ : Int32) (k2 : ClassId) (hc32_5 : (g2_ = p2)) (hm : own_fin4 m0_ m1_ m2_ m3_) : Jvm.Free.Fl.NoNaN64 (FP.dadd (if g1_ = p2 then (FP.dadd (if g0_ = p2 then (FP.dadd (0 : UInt64) m0_) else (0 : UInt64)) m1_) else (if g0_ = p2 then (FP.dadd (0 : UInt64) m0_) else (0 : UInt64))) m2_) := (Jvm.Free.Fl.dadd_out (own_nnif (Jvm.Free.Fl.dadd_out (own_nnif (Jvm.Free.Fl.dadd_out own_nn0 hm.1) own_nn0) hm.2.1) (own_nnif (Jvm.Free.Fl.dadd_out own_nn0 hm.1) own_nn0)) hm.2.2.1)
theorem own_rm6_hn52 (o0 : Addr) (o1 : Addr) (p2 : Int32) (m0_ : UInt64) (m1_ : UInt64) (m2_ : UInt64) (m3_ : UInt64) (k1 : ClassId) (g0_ : Int32) (g1_ : Int32) (g2_ : Int32) (g3_ : Int32) (k2 : ClassId) (hc45_7 : (g3_ = p2)) (hm : own_fin4 m0_ m1_ m2_ m3_) : Jvm.Free.Fl.NoNaN64 (FP.dadd (if g2_ = p2 then (FP.dadd (if g1_ = p2 then (FP.dadd (if g0_ = p2 then (FP.dadd (0 : UInt64) m0_) else (0 : UInt64)) m1_) else (if g0_ = p2 then (FP.dadd (0 : UInt64) m0_) else (0 : UInt64))) m2_) else (if g1_ = p2 then (FP.dadd (if g0_ = p2 then (FP.dadd (0 : UInt64) m0_) else (0 : UInt64)) m1_) else (if g0_ = p2 then (FP.dadd (0 : UInt64) m0_) else (0 : UInt64)))) m3_) := (Jvm.Free.Fl.dadd_out (own_nnif (Jvm.Free.Fl.dadd_out (own_nnif (Jvm.Free.Fl.dadd_out (own_nnif (Jvm.Free.Fl.dadd_out own_nn0 hm.1) own_nn0) hm.2.1) (own_nnif (Jvm.Free.Fl.dadd_out own_nn0 hm.1) own_nn0)) hm.2.2.1) (own_nnif (Jvm.Free.Fl.dadd_out (own_nnif (Jvm.Free.Fl.dadd_out own_nn0 hm.1) own_nn0) hm.2.1) (own_nnif (Jvm.Free.Fl.dadd_out own_nn0 hm.1) own_nn0))) hm.2.2.2)
set_option maxRecDepth 65536 in
set_option maxHeartbeats 40000000 in
theorem rm6 (l : Launch) (Z : State) (a0 : Array Value) (hw : ∀ d ∈ tables_1, d.before a0 Z = true) (ws : List Jvm.Cond) (o0 : Addr) (o1 : Addr) (p2 : Int32) {m0_ : UInt64} {m1_ : UInt64} {m2_ : UInt64} {m3_ : UInt64} {k1 : ClassId} {g0_ : Int32} {g1_ : Int32} {g2_ : Int32} {g3_ : Int32} {k2 : ClassId} (h0 : Heap) (n0 : Nat) (Z0 : n0 ≤ h0.size) (hm : own_fin4 m0_ m1_ m2_ m3_) (V_o0 : Arv Z h0 o0 k1 .int (4 : Int32) [(.int g0_), (.int g1_), (.int g2_), (.int g3_)] (.int (0 : Int32))) (V_o1 : Arv Z h0 o1 k2 .double (4 : Int32) [(.double m0_), (.double m1_), (.double m2_), (.double m3_)] (.double (0 : UInt64))) :
    MetFree l (⟨"com/example/oceanus/oceanus/numerics/TolerancesGroupPinLaw", "groupSum", "([I[DI)D"⟩ : MethodName) (head1 (Jvm.Cond.code (⟨"com/example/oceanus/oceanus/numerics/TolerancesGroupPinLaw", "groupSum", "([I[DI)D"⟩ : MethodName) method_2_code 5 (some .double) :: ws) (room_of_6)) (fun a U => a = #[(.ref o0), (.ref o1), (.int p2)] ∧ Z.Warmed39 U.vm ∧ U.heap = h0) (fun _ _ _ _ _ => True) (fun _ U o U' => ∃ v L, o = .returned v ∧ Q6 Z o0 o1 p2 m0_ m1_ m2_ m3_ k1 g0_ g1_ g2_ g3_ k2 h0 n0 v U'.heap L ∧ FrameEnd U o U' L (room_of_6).cells (room_of_6).slots) := by
  refine MetFree.of_bodySF (plainFor_of_name pn_6) hisR ?_
  intro p e s m args below meth c s₁ Bd hml0 hP hK
  obtain ⟨rfl, hZ, hh⟩ := hP
  have hx := Bd.exec
  have hby := Bd.bytes
  have hml : c.maxLocals = 5 := hml0
  have hown : s.vm.findClass "com/example/oceanus/oceanus/numerics/TolerancesGroupPinLaw" = some m.cls := findClass_of_methodNamed Bd.named
  have hnm := (name_of_methodNamed Bd.named Bd.method).1
  have X0 : Stand p l e (room_of_6) s m #[(.ref o0), (.ref o1), (.int p2)] below meth c s₁ [] 0 0 := Stand.of_body Bd
  have e0 : s₁.heap = h0 := by rw [← hh, Bd.state]; rfl
  have N0 := Fr.nil n0
  have G0 := gd X0 hx hby
  have pre0 : ∀ t, Steps p.tables e below (s₁.setTop (mkF m 0 #[rv o0, rv o1, iv p2, .unset, .unset] [])) t → Steps p.tables e below (s₁.setTop (entryFrame m #[(.ref o0), (.ref o1), (.int p2)] 5)) t := fun t k => castTop (ef6 m o0 o1 p2) k
  obtain ⟨T2, X2, e2, st2⟩ : ∃ T' : State, Stand p l e (room_of_6) s m #[(.ref o0), (.ref o1), (.int p2)] below meth c T' [] 0 0 ∧ T'.heap = h0 ∧ ∀ target, Steps p.tables e below (T'.setTop (mkF m 15 #[rv o0, rv o1, iv p2, dv (if g0_ = p2 then (FP.dadd (0 : UInt64) m0_) else (0 : UInt64)), .second] [])) target → Steps p.tables e below (s₁.setTop (mkF m 6 #[rv o0, rv o1, iv p2, dv (0 : UInt64), .second] [(.int p2), (.int g0_)])) target := by
    by_cases hc6_1 : g0_ = p2
    · refine ⟨s₁, X0, e0, fun target kt => ?_⟩
      refine micmpNo 9 G0 d6_6 (teq hc6_1).2 rfl ?_
      refine mdloadN 10 G0 d6_9 rfl rfl ?_
      refine maloadN 11 G0 d6_10 rfl rfl rfl ?_
      refine miconst 12 G0 d6_11 (v := (0 : Int32)) rfl rfl ?_
      refine mdaload 13 X0 hx hby hZ e0 V_o1 (v := m0_) d6_12 ⟨by decide, by decide⟩ rfl rfl ?_
      refine mdadd 14 G0 d6_13 (own_rm6_hn13 o0 o1 p2 m0_ m1_ m2_ m3_ k1 g0_ g1_ g2_ g3_ k2 hc6_1 hm) rfl ?_
      refine mdstoreN 15 G0 d6_14 #[rv o0, rv o1, iv p2, dv (FP.dadd (0 : UInt64) m0_), .second] rfl rfl ?_
      exact castTop (g' := (mkF m 15 #[rv o0, rv o1, iv p2, dv (if g0_ = p2 then (FP.dadd (0 : UInt64) m0_) else (0 : UInt64)), .second] [])) (by simp only [if_pos hc6_1]) kt
    · refine ⟨s₁, X0, e0, fun target kt => ?_⟩
      refine micmpYes 15 G0 d6_6 (feq hc6_1).2 (by decide) rfl ?_
      exact castTop (g' := (mkF m 15 #[rv o0, rv o1, iv p2, dv (if g0_ = p2 then (FP.dadd (0 : UInt64) m0_) else (0 : UInt64)), .second] [])) (by simp only [if_neg hc6_1]) kt
  have G2 := gd X2 hx hby
  obtain ⟨T4, X4, e4, st4⟩ : ∃ T' : State, Stand p l e (room_of_6) s m #[(.ref o0), (.ref o1), (.int p2)] below meth c T' [] 0 0 ∧ T'.heap = h0 ∧ ∀ target, Steps p.tables e below (T'.setTop (mkF m 28 #[rv o0, rv o1, iv p2, dv (if g1_ = p2 then (FP.dadd (if g0_ = p2 then (FP.dadd (0 : UInt64) m0_) else (0 : UInt64)) m1_) else (if g0_ = p2 then (FP.dadd (0 : UInt64) m0_) else (0 : UInt64))), .second] [])) target → Steps p.tables e below (T2.setTop (mkF m 19 #[rv o0, rv o1, iv p2, dv (if g0_ = p2 then (FP.dadd (0 : UInt64) m0_) else (0 : UInt64)), .second] [(.int p2), (.int g1_)])) target := by
    by_cases hc19_3 : g1_ = p2
    · refine ⟨T2, X2, e2, fun target kt => ?_⟩
      refine micmpNo 22 G2 d6_19 (teq hc19_3).2 rfl ?_
      refine mdloadN 23 G2 d6_22 rfl rfl ?_
      refine maloadN 24 G2 d6_23 rfl rfl rfl ?_
      refine miconst 25 G2 d6_24 (v := (1 : Int32)) rfl rfl ?_
      refine mdaload 26 X2 hx hby hZ e2 V_o1 (v := m1_) d6_25 ⟨by decide, by decide⟩ rfl rfl ?_
      refine mdadd 27 G2 d6_26 (own_rm6_hn26 o0 o1 p2 m0_ m1_ m2_ m3_ k1 g0_ g1_ g2_ g3_ k2 hc19_3 hm) rfl ?_
      refine mdstoreN 28 G2 d6_27 #[rv o0, rv o1, iv p2, dv (FP.dadd (if g0_ = p2 then (FP.dadd (0 : UInt64) m0_) else (0 : UInt64)) m1_), .second] rfl rfl ?_
      exact castTop (g' := (mkF m 28 #[rv o0, rv o1, iv p2, dv (if g1_ = p2 then (FP.dadd (if g0_ = p2 then (FP.dadd (0 : UInt64) m0_) else (0 : UInt64)) m1_) else (if g0_ = p2 then (FP.dadd (0 : UInt64) m0_) else (0 : UInt64))), .second] [])) (by simp only [if_pos hc19_3]) kt
    · refine ⟨T2, X2, e2, fun target kt => ?_⟩
      refine micmpYes 28 G2 d6_19 (feq hc19_3).2 (by decide) rfl ?_
      exact castTop (g' := (mkF m 28 #[rv o0, rv o1, iv p2, dv (if g1_ = p2 then (FP.dadd (if g0_ = p2 then (FP.dadd (0 : UInt64) m0_) else (0 : UInt64)) m1_) else (if g0_ = p2 then (FP.dadd (0 : UInt64) m0_) else (0 : UInt64))), .second] [])) (by simp only [if_neg hc19_3]) kt
  have G4 := gd X4 hx hby
  obtain ⟨T6, X6, e6, st6⟩ : ∃ T' : State, Stand p l e (room_of_6) s m #[(.ref o0), (.ref o1), (.int p2)] below meth c T' [] 0 0 ∧ T'.heap = h0 ∧ ∀ target, Steps p.tables e below (T'.setTop (mkF m 41 #[rv o0, rv o1, iv p2, dv (if g2_ = p2 then (FP.dadd (if g1_ = p2 then (FP.dadd (if g0_ = p2 then (FP.dadd (0 : UInt64) m0_) else (0 : UInt64)) m1_) else (if g0_ = p2 then (FP.dadd (0 : UInt64) m0_) else (0 : UInt64))) m2_) else (if g1_ = p2 then (FP.dadd (if g0_ = p2 then (FP.dadd (0 : UInt64) m0_) else (0 : UInt64)) m1_) else (if g0_ = p2 then (FP.dadd (0 : UInt64) m0_) else (0 : UInt64)))), .second] [])) target → Steps p.tables e below (T4.setTop (mkF m 32 #[rv o0, rv o1, iv p2, dv (if g1_ = p2 then (FP.dadd (if g0_ = p2 then (FP.dadd (0 : UInt64) m0_) else (0 : UInt64)) m1_) else (if g0_ = p2 then (FP.dadd (0 : UInt64) m0_) else (0 : UInt64))), .second] [(.int p2), (.int g2_)])) target := by
    by_cases hc32_5 : g2_ = p2
    · refine ⟨T4, X4, e4, fun target kt => ?_⟩
      refine micmpNo 35 G4 d6_32 (teq hc32_5).2 rfl ?_
      refine mdloadN 36 G4 d6_35 rfl rfl ?_
      refine maloadN 37 G4 d6_36 rfl rfl rfl ?_
      refine miconst 38 G4 d6_37 (v := (2 : Int32)) rfl rfl ?_
      refine mdaload 39 X4 hx hby hZ e4 V_o1 (v := m2_) d6_38 ⟨by decide, by decide⟩ rfl rfl ?_
      refine mdadd 40 G4 d6_39 (own_rm6_hn39 o0 o1 p2 m0_ m1_ m2_ m3_ k1 g0_ g1_ g2_ g3_ k2 hc32_5 hm) rfl ?_
      refine mdstoreN 41 G4 d6_40 #[rv o0, rv o1, iv p2, dv (FP.dadd (if g1_ = p2 then (FP.dadd (if g0_ = p2 then (FP.dadd (0 : UInt64) m0_) else (0 : UInt64)) m1_) else (if g0_ = p2 then (FP.dadd (0 : UInt64) m0_) else (0 : UInt64))) m2_), .second] rfl rfl ?_
      exact castTop (g' := (mkF m 41 #[rv o0, rv o1, iv p2, dv (if g2_ = p2 then (FP.dadd (if g1_ = p2 then (FP.dadd (if g0_ = p2 then (FP.dadd (0 : UInt64) m0_) else (0 : UInt64)) m1_) else (if g0_ = p2 then (FP.dadd (0 : UInt64) m0_) else (0 : UInt64))) m2_) else (if g1_ = p2 then (FP.dadd (if g0_ = p2 then (FP.dadd (0 : UInt64) m0_) else (0 : UInt64)) m1_) else (if g0_ = p2 then (FP.dadd (0 : UInt64) m0_) else (0 : UInt64)))), .second] [])) (by simp only [if_pos hc32_5]) kt
    · refine ⟨T4, X4, e4, fun target kt => ?_⟩
      refine micmpYes 41 G4 d6_32 (feq hc32_5).2 (by decide) rfl ?_
      exact castTop (g' := (mkF m 41 #[rv o0, rv o1, iv p2, dv (if g2_ = p2 then (FP.dadd (if g1_ = p2 then (FP.dadd (if g0_ = p2 then (FP.dadd (0 : UInt64) m0_) else (0 : UInt64)) m1_) else (if g0_ = p2 then (FP.dadd (0 : UInt64) m0_) else (0 : UInt64))) m2_) else (if g1_ = p2 then (FP.dadd (if g0_ = p2 then (FP.dadd (0 : UInt64) m0_) else (0 : UInt64)) m1_) else (if g0_ = p2 then (FP.dadd (0 : UInt64) m0_) else (0 : UInt64)))), .second] [])) (by simp only [if_neg hc32_5]) kt
  have G6 := gd X6 hx hby
  obtain ⟨T8, X8, e8, st8⟩ : ∃ T' : State, Stand p l e (room_of_6) s m #[(.ref o0), (.ref o1), (.int p2)] below meth c T' [] 0 0 ∧ T'.heap = h0 ∧ ∀ target, Steps p.tables e below (T'.setTop (mkF m 54 #[rv o0, rv o1, iv p2, dv (if g3_ = p2 then (FP.dadd (if g2_ = p2 then (FP.dadd (if g1_ = p2 then (FP.dadd (if g0_ = p2 then (FP.dadd (0 : UInt64) m0_) else (0 : UInt64)) m1_) else (if g0_ = p2 then (FP.dadd (0 : UInt64) m0_) else (0 : UInt64))) m2_) else (if g1_ = p2 then (FP.dadd (if g0_ = p2 then (FP.dadd (0 : UInt64) m0_) else (0 : UInt64)) m1_) else (if g0_ = p2 then (FP.dadd (0 : UInt64) m0_) else (0 : UInt64)))) m3_) else (if g2_ = p2 then (FP.dadd (if g1_ = p2 then (FP.dadd (if g0_ = p2 then (FP.dadd (0 : UInt64) m0_) else (0 : UInt64)) m1_) else (if g0_ = p2 then (FP.dadd (0 : UInt64) m0_) else (0 : UInt64))) m2_) else (if g1_ = p2 then (FP.dadd (if g0_ = p2 then (FP.dadd (0 : UInt64) m0_) else (0 : UInt64)) m1_) else (if g0_ = p2 then (FP.dadd (0 : UInt64) m0_) else (0 : UInt64))))), .second] [])) target → Steps p.tables e below (T6.setTop (mkF m 45 #[rv o0, rv o1, iv p2, dv (if g2_ = p2 then (FP.dadd (if g1_ = p2 then (FP.dadd (if g0_ = p2 then (FP.dadd (0 : UInt64) m0_) else (0 : UInt64)) m1_) else (if g0_ = p2 then (FP.dadd (0 : UInt64) m0_) else (0 : UInt64))) m2_) else (if g1_ = p2 then (FP.dadd (if g0_ = p2 then (FP.dadd (0 : UInt64) m0_) else (0 : UInt64)) m1_) else (if g0_ = p2 then (FP.dadd (0 : UInt64) m0_) else (0 : UInt64)))), .second] [(.int p2), (.int g3_)])) target := by
    by_cases hc45_7 : g3_ = p2
    · refine ⟨T6, X6, e6, fun target kt => ?_⟩
      refine micmpNo 48 G6 d6_45 (teq hc45_7).2 rfl ?_
      refine mdloadN 49 G6 d6_48 rfl rfl ?_
      refine maloadN 50 G6 d6_49 rfl rfl rfl ?_
      refine miconst 51 G6 d6_50 (v := (3 : Int32)) rfl rfl ?_
      refine mdaload 52 X6 hx hby hZ e6 V_o1 (v := m3_) d6_51 ⟨by decide, by decide⟩ rfl rfl ?_
      refine mdadd 53 G6 d6_52 (own_rm6_hn52 o0 o1 p2 m0_ m1_ m2_ m3_ k1 g0_ g1_ g2_ g3_ k2 hc45_7 hm) rfl ?_
      refine mdstoreN 54 G6 d6_53 #[rv o0, rv o1, iv p2, dv (FP.dadd (if g2_ = p2 then (FP.dadd (if g1_ = p2 then (FP.dadd (if g0_ = p2 then (FP.dadd (0 : UInt64) m0_) else (0 : UInt64)) m1_) else (if g0_ = p2 then (FP.dadd (0 : UInt64) m0_) else (0 : UInt64))) m2_) else (if g1_ = p2 then (FP.dadd (if g0_ = p2 then (FP.dadd (0 : UInt64) m0_) else (0 : UInt64)) m1_) else (if g0_ = p2 then (FP.dadd (0 : UInt64) m0_) else (0 : UInt64)))) m3_), .second] rfl rfl ?_
      exact castTop (g' := (mkF m 54 #[rv o0, rv o1, iv p2, dv (if g3_ = p2 then (FP.dadd (if g2_ = p2 then (FP.dadd (if g1_ = p2 then (FP.dadd (if g0_ = p2 then (FP.dadd (0 : UInt64) m0_) else (0 : UInt64)) m1_) else (if g0_ = p2 then (FP.dadd (0 : UInt64) m0_) else (0 : UInt64))) m2_) else (if g1_ = p2 then (FP.dadd (if g0_ = p2 then (FP.dadd (0 : UInt64) m0_) else (0 : UInt64)) m1_) else (if g0_ = p2 then (FP.dadd (0 : UInt64) m0_) else (0 : UInt64)))) m3_) else (if g2_ = p2 then (FP.dadd (if g1_ = p2 then (FP.dadd (if g0_ = p2 then (FP.dadd (0 : UInt64) m0_) else (0 : UInt64)) m1_) else (if g0_ = p2 then (FP.dadd (0 : UInt64) m0_) else (0 : UInt64))) m2_) else (if g1_ = p2 then (FP.dadd (if g0_ = p2 then (FP.dadd (0 : UInt64) m0_) else (0 : UInt64)) m1_) else (if g0_ = p2 then (FP.dadd (0 : UInt64) m0_) else (0 : UInt64))))), .second] [])) (by simp only [if_pos hc45_7]) kt
    · refine ⟨T6, X6, e6, fun target kt => ?_⟩
      refine micmpYes 54 G6 d6_45 (feq hc45_7).2 (by decide) rfl ?_
      exact castTop (g' := (mkF m 54 #[rv o0, rv o1, iv p2, dv (if g3_ = p2 then (FP.dadd (if g2_ = p2 then (FP.dadd (if g1_ = p2 then (FP.dadd (if g0_ = p2 then (FP.dadd (0 : UInt64) m0_) else (0 : UInt64)) m1_) else (if g0_ = p2 then (FP.dadd (0 : UInt64) m0_) else (0 : UInt64))) m2_) else (if g1_ = p2 then (FP.dadd (if g0_ = p2 then (FP.dadd (0 : UInt64) m0_) else (0 : UInt64)) m1_) else (if g0_ = p2 then (FP.dadd (0 : UInt64) m0_) else (0 : UInt64)))) m3_) else (if g2_ = p2 then (FP.dadd (if g1_ = p2 then (FP.dadd (if g0_ = p2 then (FP.dadd (0 : UInt64) m0_) else (0 : UInt64)) m1_) else (if g0_ = p2 then (FP.dadd (0 : UInt64) m0_) else (0 : UInt64))) m2_) else (if g1_ = p2 then (FP.dadd (if g0_ = p2 then (FP.dadd (0 : UInt64) m0_) else (0 : UInt64)) m1_) else (if g0_ = p2 then (FP.dadd (0 : UInt64) m0_) else (0 : UInt64))))), .second] [])) (by simp only [if_neg hc45_7]) kt
  have G8 := gd X8 hx hby
  obtain ⟨fs, hr, hrun, hended, hW, hsame⟩ := X8.leave (v := some (.double (if g3_ = p2 then (FP.dadd (if g2_ = p2 then (FP.dadd (if g1_ = p2 then (FP.dadd (if g0_ = p2 then (FP.dadd (0 : UInt64) m0_) else (0 : UInt64)) m1_) else (if g0_ = p2 then (FP.dadd (0 : UInt64) m0_) else (0 : UInt64))) m2_) else (if g1_ = p2 then (FP.dadd (if g0_ = p2 then (FP.dadd (0 : UInt64) m0_) else (0 : UInt64)) m1_) else (if g0_ = p2 then (FP.dadd (0 : UInt64) m0_) else (0 : UInt64)))) m3_) else (if g2_ = p2 then (FP.dadd (if g1_ = p2 then (FP.dadd (if g0_ = p2 then (FP.dadd (0 : UInt64) m0_) else (0 : UInt64)) m1_) else (if g0_ = p2 then (FP.dadd (0 : UInt64) m0_) else (0 : UInt64))) m2_) else (if g1_ = p2 then (FP.dadd (if g0_ = p2 then (FP.dadd (0 : UInt64) m0_) else (0 : UInt64)) m1_) else (if g0_ = p2 then (FP.dadd (0 : UInt64) m0_) else (0 : UInt64))))))) (fun h => by rw [Bd.returns] at h; cases h)
  refine ⟨_, _, pre0 _ ?_, hrun, hended, _, _, rfl, ?_, ⟨_, rfl⟩, hW, hsame.mono (by decide) (by decide)⟩
  · show Steps p.tables e below (s₁.setTop (mkF m 0 #[rv o0, rv o1, iv p2, .unset, .unset] [])) _
    refine mdconst0 1 G0 d6_0 (v := (0 : UInt64)) rfl rfl ?_
    refine mdstoreN 2 G0 d6_1 #[rv o0, rv o1, iv p2, dv (0 : UInt64), .second] rfl rfl ?_
    refine maloadN 3 G0 d6_2 rfl rfl rfl ?_
    refine miconst 4 G0 d6_3 (v := (0 : Int32)) rfl rfl ?_
    refine miaload 5 X0 hx hby hZ e0 V_o0 (v := g0_) d6_4 ⟨by decide, by decide⟩ rfl rfl ?_
    refine miloadN 6 G0 d6_5 rfl rfl ?_
    refine st2 _ ?_
    refine maloadN 16 G2 d6_15 rfl rfl rfl ?_
    refine miconst 17 G2 d6_16 (v := (1 : Int32)) rfl rfl ?_
    refine miaload 18 X2 hx hby hZ e2 V_o0 (v := g1_) d6_17 ⟨by decide, by decide⟩ rfl rfl ?_
    refine miloadN 19 G2 d6_18 rfl rfl ?_
    refine st4 _ ?_
    refine maloadN 29 G4 d6_28 rfl rfl rfl ?_
    refine miconst 30 G4 d6_29 (v := (2 : Int32)) rfl rfl ?_
    refine miaload 31 X4 hx hby hZ e4 V_o0 (v := g2_) d6_30 ⟨by decide, by decide⟩ rfl rfl ?_
    refine miloadN 32 G4 d6_31 rfl rfl ?_
    refine st6 _ ?_
    refine maloadN 42 G6 d6_41 rfl rfl rfl ?_
    refine miconst 43 G6 d6_42 (v := (3 : Int32)) rfl rfl ?_
    refine miaload 44 X6 hx hby hZ e6 V_o0 (v := g3_) d6_43 ⟨by decide, by decide⟩ rfl rfl ?_
    refine miloadN 45 G6 d6_44 rfl rfl ?_
    refine st8 _ ?_
    refine mdloadN 55 G8 d6_54 rfl rfl ?_
    exact retOut X8 hx Bd.returns rfl (Or.inr (Or.inr (Or.inl ⟨rfl, rfl, _, rfl⟩))) (hb hby d6_55) hr
  · show Q6 Z o0 o1 p2 m0_ m1_ m2_ m3_ k1 g0_ g1_ g2_ g3_ k2 h0 n0 _ T8.heap _
    rw [e8]
    exact ⟨by simp only [rv6], rfl, rfl⟩
def own_N (a : UInt64) (x : Int) (B : Int) : Prop := OwnFl.Dy a (x * OwnFl.ONE) ∧ 0 ≤ x ∧ x ≤ B
theorem own_N0 : own_N 0 0 0 := ⟨OwnFl.dy_zero', by decide, by decide⟩
theorem own_Nadd {a b : UInt64} {x y A B : Int} (ha : own_N a x A) (hb : own_N b y B) (h : A + B < 9007199254740992) : own_N (FP.dadd a b) (x + y) (A + B) := by
  obtain ⟨d1, a1, a2⟩ := ha
  obtain ⟨d2, b1, b2⟩ := hb
  exact ⟨OwnFl.dw_add d1 d2 (by omega), by omega, by omega⟩
theorem own_Nm {p : Int32} {x : UInt64} (h : x = FP.i2d (p &&& (1048575 : Int32))) : own_N x (p &&& (1048575 : Int32)).toInt 1048575 := by
  have e : (p &&& (1048575 : Int32)).toInt = p.toInt % 1048576 := Jvm.Kit.i32_mask p _ (k := 20) (by decide) (by decide)
  rw [h]
  exact ⟨OwnFl.dy_i2d _, by omega, by omega⟩
theorem own_Ncmp {a b : UInt64} {x y A B : Int} (ha : own_N a x A) (hb : own_N b y B) (h : x = y) : cmpValue (FP.dcmp a b) .l = 0 := (OwnFl.cw_eq ha.1 hb.1 _).mpr h
theorem pd_2 : parseMethodDescriptor "([D[D[I)V" = some ⟨[(.array .double), (.array .double), (.array .int)], none⟩ := by decide +kernel
theorem pd_3 : parseMethodDescriptor "([D)V" = some ⟨[(.array .double)], none⟩ := by decide +kernel
theorem pd_4 : parseMethodDescriptor "([I[DI)D" = some ⟨[(.array .int), (.array .double), .int], some .double⟩ := by decide +kernel
theorem pn_0 : plainName "com/example/oceanus/oceanus/numerics/TolerancesGroupPinLaw" = true := by first | (simp [plainName, overriddenIn]; done) | decide +kernel
theorem ef0_al (m : MethodId) (p0 : Int32) (p1 : Int32) (p2 : Int32) (p3 : Int32) (p4 : Int32) : entryFrame m #[(.int p0), (.int p1), (.int p2), (.int p3), (.int p4)] maxLocals = mkF m 0 #[iv p0, iv p1, iv p2, iv p3, iv p4, .unset, .unset, .unset, .unset, .unset, .unset, .unset, .unset, .unset] [] := by first | (simp [entryFrame, mkF, argsToLocals, Value.category, maxLocals]; done) | rfl
def Q0 (Z : State) (p0 : Int32) (p1 : Int32) (p2 : Int32) (p3 : Int32) (p4 : Int32) (h0 : Heap) (n0 : Nat) (v : Option Value) (h : Heap) (L : List Loc) : Prop := v = some (.int 1) ∧ Fr n0 L
theorem own_rm0_al_hin66 (p0 : Int32) (p1 : Int32) (p2 : Int32) (p3 : Int32) (p4 : Int32) (x1 : Int32) (hx1 : x1 = (p0 &&& (1 : Int32))) (x2 : Int32) (hx2 : x2 = ((((p0.toUInt32 >>> ((1 : Int32) &&& 31).toUInt32).toInt32) &&& (3 : Int32)) % (3 : Int32))) (x3 : Int32) (hx3 : x3 = (((p0.toUInt32 >>> ((3 : Int32) &&& 31).toUInt32).toInt32) &&& (3 : Int32))) (x11 : Int32) (hx11 : x11 = (if x1 = (1 : Int32) then (1 : Int32) else (0 : Int32))) (hc55_16 : (¬ (x2 = (2 : Int32)))) (hal : own_alp p0) : ¬ x2 < 0 ∧ x2 < (4 : Int32) := by
  obtain ⟨C1, C2, C3⟩ := own_cs hx1 hx2 hx3
  rcases C2 with h | h | h <;> rw [h] <;> decide
theorem own_rm0_al_hin85 (p0 : Int32) (p1 : Int32) (p2 : Int32) (p3 : Int32) (p4 : Int32) (x1 : Int32) (hx1 : x1 = (p0 &&& (1 : Int32))) (x2 : Int32) (hx2 : x2 = ((((p0.toUInt32 >>> ((1 : Int32) &&& 31).toUInt32).toInt32) &&& (3 : Int32)) % (3 : Int32))) (x3 : Int32) (hx3 : x3 = (((p0.toUInt32 >>> ((3 : Int32) &&& 31).toUInt32).toInt32) &&& (3 : Int32))) (x11 : Int32) (hx11 : x11 = (if x1 = (1 : Int32) then (1 : Int32) else (0 : Int32))) (x18 : Int32) (hx18 : x18 = (if x2 = (2 : Int32) then (2 : Int32) else (([(0 : Int32), x11, (0 : Int32), (0 : Int32)] : List Int32).getD x2.toNatClampNeg (0 : Int32)))) (hc74_23 : (¬ (x3 = (3 : Int32)))) (hal : own_alp p0) : ¬ x3 < 0 ∧ x3 < (4 : Int32) := by
  obtain ⟨C1, C2, C3⟩ := own_cs hx1 hx2 hx3
  rcases C3 with h | h | h | h <;> rw [h] <;> decide
theorem own_rm0_al_hp_hok_218 (p0 : Int32) (p1 : Int32) (p2 : Int32) (p3 : Int32) (p4 : Int32) (x1 : Int32) (hx1 : x1 = (p0 &&& (1 : Int32))) (x2 : Int32) (hx2 : x2 = ((((p0.toUInt32 >>> ((1 : Int32) &&& 31).toUInt32).toInt32) &&& (3 : Int32)) % (3 : Int32))) (x3 : Int32) (hx3 : x3 = (((p0.toUInt32 >>> ((3 : Int32) &&& 31).toUInt32).toInt32) &&& (3 : Int32))) (x11 : Int32) (hx11 : x11 = (if x1 = (1 : Int32) then (1 : Int32) else (0 : Int32))) (x18 : Int32) (hx18 : x18 = (if x2 = (2 : Int32) then (2 : Int32) else (([(0 : Int32), x11, (0 : Int32), (0 : Int32)] : List Int32).getD x2.toNatClampNeg (0 : Int32)))) (x25 : Int32) (hx25 : x25 = (if x3 = (3 : Int32) then (3 : Int32) else (([(0 : Int32), x11, x18, (0 : Int32)] : List Int32).getD x3.toNatClampNeg (0 : Int32)))) (x33 : UInt64) (hx33 : x33 = (FP.i2d (p1 &&& (1048575 : Int32)))) (x42 : UInt64) (hx42 : x42 = (FP.i2d (p2 &&& (1048575 : Int32)))) (x51 : UInt64) (hx51 : x51 = (FP.i2d (p3 &&& (1048575 : Int32)))) (x60 : UInt64) (hx60 : x60 = (FP.i2d (p4 &&& (1048575 : Int32)))) (hal : own_alp p0) : own_ok (0 : Int32) x11 x18 x25 := by
  obtain ⟨h1, h2, h3⟩ := own_ap hx1 hx2 hx3 hx11 hx18 hx25 hal
  rw [h1, h2, h3]; unfold own_ok own_P; decide
theorem own_rm0_al_hp_hal_218 (p0 : Int32) (p1 : Int32) (p2 : Int32) (p3 : Int32) (p4 : Int32) (x1 : Int32) (hx1 : x1 = (p0 &&& (1 : Int32))) (x2 : Int32) (hx2 : x2 = ((((p0.toUInt32 >>> ((1 : Int32) &&& 31).toUInt32).toInt32) &&& (3 : Int32)) % (3 : Int32))) (x3 : Int32) (hx3 : x3 = (((p0.toUInt32 >>> ((3 : Int32) &&& 31).toUInt32).toInt32) &&& (3 : Int32))) (x11 : Int32) (hx11 : x11 = (if x1 = (1 : Int32) then (1 : Int32) else (0 : Int32))) (x18 : Int32) (hx18 : x18 = (if x2 = (2 : Int32) then (2 : Int32) else (([(0 : Int32), x11, (0 : Int32), (0 : Int32)] : List Int32).getD x2.toNatClampNeg (0 : Int32)))) (x25 : Int32) (hx25 : x25 = (if x3 = (3 : Int32) then (3 : Int32) else (([(0 : Int32), x11, x18, (0 : Int32)] : List Int32).getD x3.toNatClampNeg (0 : Int32)))) (x33 : UInt64) (hx33 : x33 = (FP.i2d (p1 &&& (1048575 : Int32)))) (x42 : UInt64) (hx42 : x42 = (FP.i2d (p2 &&& (1048575 : Int32)))) (x51 : UInt64) (hx51 : x51 = (FP.i2d (p3 &&& (1048575 : Int32)))) (x60 : UInt64) (hx60 : x60 = (FP.i2d (p4 &&& (1048575 : Int32)))) (hal : own_alp p0) : own_al (0 : Int32) x11 x18 x25 := ⟨rfl, own_ap hx1 hx2 hx3 hx11 hx18 hx25 hal⟩
theorem own_rm0_al_hp_hm_242 (p0 : Int32) (p1 : Int32) (p2 : Int32) (p3 : Int32) (p4 : Int32) (x1 : Int32) (hx1 : x1 = (p0 &&& (1 : Int32))) (x2 : Int32) (hx2 : x2 = ((((p0.toUInt32 >>> ((1 : Int32) &&& 31).toUInt32).toInt32) &&& (3 : Int32)) % (3 : Int32))) (x3 : Int32) (hx3 : x3 = (((p0.toUInt32 >>> ((3 : Int32) &&& 31).toUInt32).toInt32) &&& (3 : Int32))) (x11 : Int32) (hx11 : x11 = (if x1 = (1 : Int32) then (1 : Int32) else (0 : Int32))) (x18 : Int32) (hx18 : x18 = (if x2 = (2 : Int32) then (2 : Int32) else (([(0 : Int32), x11, (0 : Int32), (0 : Int32)] : List Int32).getD x2.toNatClampNeg (0 : Int32)))) (x25 : Int32) (hx25 : x25 = (if x3 = (3 : Int32) then (3 : Int32) else (([(0 : Int32), x11, x18, (0 : Int32)] : List Int32).getD x3.toNatClampNeg (0 : Int32)))) (x33 : UInt64) (hx33 : x33 = (FP.i2d (p1 &&& (1048575 : Int32)))) (x42 : UInt64) (hx42 : x42 = (FP.i2d (p2 &&& (1048575 : Int32)))) (x51 : UInt64) (hx51 : x51 = (FP.i2d (p3 &&& (1048575 : Int32)))) (x60 : UInt64) (hx60 : x60 = (FP.i2d (p4 &&& (1048575 : Int32)))) (hal : own_alp p0) : own_fin4 x33 x42 x51 x60 := ⟨by rw [hx33]; exact Jvm.Free.Fl.i2d_fin _, by rw [hx42]; exact Jvm.Free.Fl.i2d_fin _, by rw [hx51]; exact Jvm.Free.Fl.i2d_fin _, by rw [hx60]; exact Jvm.Free.Fl.i2d_fin _⟩
theorem own_rm0_al_fc246 (p0 : Int32) (p1 : Int32) (p2 : Int32) (p3 : Int32) (p4 : Int32) (x1 : Int32) (hx1 : x1 = (p0 &&& (1 : Int32))) (x2 : Int32) (hx2 : x2 = ((((p0.toUInt32 >>> ((1 : Int32) &&& 31).toUInt32).toInt32) &&& (3 : Int32)) % (3 : Int32))) (x3 : Int32) (hx3 : x3 = (((p0.toUInt32 >>> ((3 : Int32) &&& 31).toUInt32).toInt32) &&& (3 : Int32))) (x11 : Int32) (hx11 : x11 = (if x1 = (1 : Int32) then (1 : Int32) else (0 : Int32))) (x18 : Int32) (hx18 : x18 = (if x2 = (2 : Int32) then (2 : Int32) else (([(0 : Int32), x11, (0 : Int32), (0 : Int32)] : List Int32).getD x2.toNatClampNeg (0 : Int32)))) (x25 : Int32) (hx25 : x25 = (if x3 = (3 : Int32) then (3 : Int32) else (([(0 : Int32), x11, x18, (0 : Int32)] : List Int32).getD x3.toNatClampNeg (0 : Int32)))) (x33 : UInt64) (hx33 : x33 = (FP.i2d (p1 &&& (1048575 : Int32)))) (x42 : UInt64) (hx42 : x42 = (FP.i2d (p2 &&& (1048575 : Int32)))) (x51 : UInt64) (hx51 : x51 = (FP.i2d (p3 &&& (1048575 : Int32)))) (x60 : UInt64) (hx60 : x60 = (FP.i2d (p4 &&& (1048575 : Int32)))) (hal : own_alp p0) : (cmpValue (FP.dcmp x33 (rv6 (0 : Int32) x33 x42 x51 x60 (0 : Int32) x11 x18 x25)) .l) = (0 : Int32) := by
  have N0 := own_Nm hx33
  have N1 := own_Nm hx42
  have N2 := own_Nm hx51
  have N3 := own_Nm hx60
  obtain ⟨h1, h2, h3⟩ := own_ap hx1 hx2 hx3 hx11 hx18 hx25 hal
  rw [h1, h2, h3]
  show cmpValue (FP.dcmp x33 (FP.dadd (0 : UInt64) x33)) .l = 0
  exact own_Ncmp N0 (own_Nadd own_N0 N0 (by decide)) (by omega)
theorem own_rm0_al_hp_hm_261 (p0 : Int32) (p1 : Int32) (p2 : Int32) (p3 : Int32) (p4 : Int32) (x1 : Int32) (hx1 : x1 = (p0 &&& (1 : Int32))) (x2 : Int32) (hx2 : x2 = ((((p0.toUInt32 >>> ((1 : Int32) &&& 31).toUInt32).toInt32) &&& (3 : Int32)) % (3 : Int32))) (x3 : Int32) (hx3 : x3 = (((p0.toUInt32 >>> ((3 : Int32) &&& 31).toUInt32).toInt32) &&& (3 : Int32))) (x11 : Int32) (hx11 : x11 = (if x1 = (1 : Int32) then (1 : Int32) else (0 : Int32))) (x18 : Int32) (hx18 : x18 = (if x2 = (2 : Int32) then (2 : Int32) else (([(0 : Int32), x11, (0 : Int32), (0 : Int32)] : List Int32).getD x2.toNatClampNeg (0 : Int32)))) (x25 : Int32) (hx25 : x25 = (if x3 = (3 : Int32) then (3 : Int32) else (([(0 : Int32), x11, x18, (0 : Int32)] : List Int32).getD x3.toNatClampNeg (0 : Int32)))) (x33 : UInt64) (hx33 : x33 = (FP.i2d (p1 &&& (1048575 : Int32)))) (x42 : UInt64) (hx42 : x42 = (FP.i2d (p2 &&& (1048575 : Int32)))) (x51 : UInt64) (hx51 : x51 = (FP.i2d (p3 &&& (1048575 : Int32)))) (x60 : UInt64) (hx60 : x60 = (FP.i2d (p4 &&& (1048575 : Int32)))) (hal : own_alp p0) : own_fin4 x33 x42 x51 x60 := ⟨by rw [hx33]; exact Jvm.Free.Fl.i2d_fin _, by rw [hx42]; exact Jvm.Free.Fl.i2d_fin _, by rw [hx51]; exact Jvm.Free.Fl.i2d_fin _, by rw [hx60]; exact Jvm.Free.Fl.i2d_fin _⟩
theorem own_rm0_al_fc265 (p0 : Int32) (p1 : Int32) (p2 : Int32) (p3 : Int32) (p4 : Int32) (x1 : Int32) (hx1 : x1 = (p0 &&& (1 : Int32))) (x2 : Int32) (hx2 : x2 = ((((p0.toUInt32 >>> ((1 : Int32) &&& 31).toUInt32).toInt32) &&& (3 : Int32)) % (3 : Int32))) (x3 : Int32) (hx3 : x3 = (((p0.toUInt32 >>> ((3 : Int32) &&& 31).toUInt32).toInt32) &&& (3 : Int32))) (x11 : Int32) (hx11 : x11 = (if x1 = (1 : Int32) then (1 : Int32) else (0 : Int32))) (x18 : Int32) (hx18 : x18 = (if x2 = (2 : Int32) then (2 : Int32) else (([(0 : Int32), x11, (0 : Int32), (0 : Int32)] : List Int32).getD x2.toNatClampNeg (0 : Int32)))) (x25 : Int32) (hx25 : x25 = (if x3 = (3 : Int32) then (3 : Int32) else (([(0 : Int32), x11, x18, (0 : Int32)] : List Int32).getD x3.toNatClampNeg (0 : Int32)))) (x33 : UInt64) (hx33 : x33 = (FP.i2d (p1 &&& (1048575 : Int32)))) (x42 : UInt64) (hx42 : x42 = (FP.i2d (p2 &&& (1048575 : Int32)))) (x51 : UInt64) (hx51 : x51 = (FP.i2d (p3 &&& (1048575 : Int32)))) (x60 : UInt64) (hx60 : x60 = (FP.i2d (p4 &&& (1048575 : Int32)))) (hal : own_alp p0) : (cmpValue (FP.dcmp x42 (rv6 x11 x33 x42 x51 x60 (0 : Int32) x11 x18 x25)) .l) = (0 : Int32) := by
  have N0 := own_Nm hx33
  have N1 := own_Nm hx42
  have N2 := own_Nm hx51
  have N3 := own_Nm hx60
  obtain ⟨h1, h2, h3⟩ := own_ap hx1 hx2 hx3 hx11 hx18 hx25 hal
  rw [h1, h2, h3]
  show cmpValue (FP.dcmp x42 (FP.dadd (0 : UInt64) x42)) .l = 0
  exact own_Ncmp N1 (own_Nadd own_N0 N1 (by decide)) (by omega)
theorem own_rm0_al_hp_hm_280 (p0 : Int32) (p1 : Int32) (p2 : Int32) (p3 : Int32) (p4 : Int32) (x1 : Int32) (hx1 : x1 = (p0 &&& (1 : Int32))) (x2 : Int32) (hx2 : x2 = ((((p0.toUInt32 >>> ((1 : Int32) &&& 31).toUInt32).toInt32) &&& (3 : Int32)) % (3 : Int32))) (x3 : Int32) (hx3 : x3 = (((p0.toUInt32 >>> ((3 : Int32) &&& 31).toUInt32).toInt32) &&& (3 : Int32))) (x11 : Int32) (hx11 : x11 = (if x1 = (1 : Int32) then (1 : Int32) else (0 : Int32))) (x18 : Int32) (hx18 : x18 = (if x2 = (2 : Int32) then (2 : Int32) else (([(0 : Int32), x11, (0 : Int32), (0 : Int32)] : List Int32).getD x2.toNatClampNeg (0 : Int32)))) (x25 : Int32) (hx25 : x25 = (if x3 = (3 : Int32) then (3 : Int32) else (([(0 : Int32), x11, x18, (0 : Int32)] : List Int32).getD x3.toNatClampNeg (0 : Int32)))) (x33 : UInt64) (hx33 : x33 = (FP.i2d (p1 &&& (1048575 : Int32)))) (x42 : UInt64) (hx42 : x42 = (FP.i2d (p2 &&& (1048575 : Int32)))) (x51 : UInt64) (hx51 : x51 = (FP.i2d (p3 &&& (1048575 : Int32)))) (x60 : UInt64) (hx60 : x60 = (FP.i2d (p4 &&& (1048575 : Int32)))) (hal : own_alp p0) : own_fin4 x33 x42 x51 x60 := ⟨by rw [hx33]; exact Jvm.Free.Fl.i2d_fin _, by rw [hx42]; exact Jvm.Free.Fl.i2d_fin _, by rw [hx51]; exact Jvm.Free.Fl.i2d_fin _, by rw [hx60]; exact Jvm.Free.Fl.i2d_fin _⟩
theorem own_rm0_al_fc284 (p0 : Int32) (p1 : Int32) (p2 : Int32) (p3 : Int32) (p4 : Int32) (x1 : Int32) (hx1 : x1 = (p0 &&& (1 : Int32))) (x2 : Int32) (hx2 : x2 = ((((p0.toUInt32 >>> ((1 : Int32) &&& 31).toUInt32).toInt32) &&& (3 : Int32)) % (3 : Int32))) (x3 : Int32) (hx3 : x3 = (((p0.toUInt32 >>> ((3 : Int32) &&& 31).toUInt32).toInt32) &&& (3 : Int32))) (x11 : Int32) (hx11 : x11 = (if x1 = (1 : Int32) then (1 : Int32) else (0 : Int32))) (x18 : Int32) (hx18 : x18 = (if x2 = (2 : Int32) then (2 : Int32) else (([(0 : Int32), x11, (0 : Int32), (0 : Int32)] : List Int32).getD x2.toNatClampNeg (0 : Int32)))) (x25 : Int32) (hx25 : x25 = (if x3 = (3 : Int32) then (3 : Int32) else (([(0 : Int32), x11, x18, (0 : Int32)] : List Int32).getD x3.toNatClampNeg (0 : Int32)))) (x33 : UInt64) (hx33 : x33 = (FP.i2d (p1 &&& (1048575 : Int32)))) (x42 : UInt64) (hx42 : x42 = (FP.i2d (p2 &&& (1048575 : Int32)))) (x51 : UInt64) (hx51 : x51 = (FP.i2d (p3 &&& (1048575 : Int32)))) (x60 : UInt64) (hx60 : x60 = (FP.i2d (p4 &&& (1048575 : Int32)))) (hal : own_alp p0) : (cmpValue (FP.dcmp x51 (rv6 x18 x33 x42 x51 x60 (0 : Int32) x11 x18 x25)) .l) = (0 : Int32) := by
  have N0 := own_Nm hx33
  have N1 := own_Nm hx42
  have N2 := own_Nm hx51
  have N3 := own_Nm hx60
  obtain ⟨h1, h2, h3⟩ := own_ap hx1 hx2 hx3 hx11 hx18 hx25 hal
  rw [h1, h2, h3]
  show cmpValue (FP.dcmp x51 (FP.dadd (0 : UInt64) x51)) .l = 0
  exact own_Ncmp N2 (own_Nadd own_N0 N2 (by decide)) (by omega)
theorem own_rm0_al_hp_hm_299 (p0 : Int32) (p1 : Int32) (p2 : Int32) (p3 : Int32) (p4 : Int32) (x1 : Int32) (hx1 : x1 = (p0 &&& (1 : Int32))) (x2 : Int32) (hx2 : x2 = ((((p0.toUInt32 >>> ((1 : Int32) &&& 31).toUInt32).toInt32) &&& (3 : Int32)) % (3 : Int32))) (x3 : Int32) (hx3 : x3 = (((p0.toUInt32 >>> ((3 : Int32) &&& 31).toUInt32).toInt32) &&& (3 : Int32))) (x11 : Int32) (hx11 : x11 = (if x1 = (1 : Int32) then (1 : Int32) else (0 : Int32))) (x18 : Int32) (hx18 : x18 = (if x2 = (2 : Int32) then (2 : Int32) else (([(0 : Int32), x11, (0 : Int32), (0 : Int32)] : List Int32).getD x2.toNatClampNeg (0 : Int32)))) (x25 : Int32) (hx25 : x25 = (if x3 = (3 : Int32) then (3 : Int32) else (([(0 : Int32), x11, x18, (0 : Int32)] : List Int32).getD x3.toNatClampNeg (0 : Int32)))) (x33 : UInt64) (hx33 : x33 = (FP.i2d (p1 &&& (1048575 : Int32)))) (x42 : UInt64) (hx42 : x42 = (FP.i2d (p2 &&& (1048575 : Int32)))) (x51 : UInt64) (hx51 : x51 = (FP.i2d (p3 &&& (1048575 : Int32)))) (x60 : UInt64) (hx60 : x60 = (FP.i2d (p4 &&& (1048575 : Int32)))) (hal : own_alp p0) : own_fin4 x33 x42 x51 x60 := ⟨by rw [hx33]; exact Jvm.Free.Fl.i2d_fin _, by rw [hx42]; exact Jvm.Free.Fl.i2d_fin _, by rw [hx51]; exact Jvm.Free.Fl.i2d_fin _, by rw [hx60]; exact Jvm.Free.Fl.i2d_fin _⟩
theorem own_rm0_al_fc303 (p0 : Int32) (p1 : Int32) (p2 : Int32) (p3 : Int32) (p4 : Int32) (x1 : Int32) (hx1 : x1 = (p0 &&& (1 : Int32))) (x2 : Int32) (hx2 : x2 = ((((p0.toUInt32 >>> ((1 : Int32) &&& 31).toUInt32).toInt32) &&& (3 : Int32)) % (3 : Int32))) (x3 : Int32) (hx3 : x3 = (((p0.toUInt32 >>> ((3 : Int32) &&& 31).toUInt32).toInt32) &&& (3 : Int32))) (x11 : Int32) (hx11 : x11 = (if x1 = (1 : Int32) then (1 : Int32) else (0 : Int32))) (x18 : Int32) (hx18 : x18 = (if x2 = (2 : Int32) then (2 : Int32) else (([(0 : Int32), x11, (0 : Int32), (0 : Int32)] : List Int32).getD x2.toNatClampNeg (0 : Int32)))) (x25 : Int32) (hx25 : x25 = (if x3 = (3 : Int32) then (3 : Int32) else (([(0 : Int32), x11, x18, (0 : Int32)] : List Int32).getD x3.toNatClampNeg (0 : Int32)))) (x33 : UInt64) (hx33 : x33 = (FP.i2d (p1 &&& (1048575 : Int32)))) (x42 : UInt64) (hx42 : x42 = (FP.i2d (p2 &&& (1048575 : Int32)))) (x51 : UInt64) (hx51 : x51 = (FP.i2d (p3 &&& (1048575 : Int32)))) (x60 : UInt64) (hx60 : x60 = (FP.i2d (p4 &&& (1048575 : Int32)))) (hal : own_alp p0) : (cmpValue (FP.dcmp x60 (rv6 x25 x33 x42 x51 x60 (0 : Int32) x11 x18 x25)) .l) = (0 : Int32) := by
  have N0 := own_Nm hx33
  have N1 := own_Nm hx42
  have N2 := own_Nm hx51
  have N3 := own_Nm hx60
  obtain ⟨h1, h2, h3⟩ := own_ap hx1 hx2 hx3 hx11 hx18 hx25 hal
  rw [h1, h2, h3]
  show cmpValue (FP.dcmp x60 (FP.dadd (0 : UInt64) x60)) .l = 0
  exact own_Ncmp N3 (own_Nadd own_N0 N3 (by decide)) (by omega)
set_option maxRecDepth 65536 in
set_option maxHeartbeats 40000000 in
theorem rm0_al (l : Launch) (Z : State) (a0 : Array Value) (hw : ∀ d ∈ tables_1, d.before a0 Z = true) (ws : List Jvm.Cond) (p0 : Int32) (p1 : Int32) (p2 : Int32) (p3 : Int32) (p4 : Int32)  (h0 : Heap) (n0 : Nat) (Z0 : n0 ≤ h0.size) (hal : own_alp p0) :
    MetFree l x (head1 (Jvm.Cond.code x code maxLocals ret :: ws) room_1) (fun a U => a = #[(.int p0), (.int p1), (.int p2), (.int p3), (.int p4)] ∧ Z.Warmed39 U.vm ∧ U.heap = h0) (fun _ _ _ _ _ => True) (fun _ U o U' => ∃ v L, o = .returned v ∧ Q0 Z p0 p1 p2 p3 p4 h0 n0 v U'.heap L ∧ FrameEnd U o U' L room_1.cells room_1.slots) := by
  refine MetFree.of_bodySF (plainFor_of_name pn_0) hisR ?_
  intro p e s m args below meth c s₁ Bd hml0 hP hK
  obtain ⟨rfl, hZ, hh⟩ := hP
  have hx := Bd.exec
  have hby := Bd.bytes
  have hml : c.maxLocals = 14 := hml0
  have hown : s.vm.findClass "com/example/oceanus/oceanus/numerics/TolerancesGroupPinLaw" = some m.cls := findClass_of_methodNamed Bd.named
  have hnm := (name_of_methodNamed Bd.named Bd.method).1
  have X0 : Stand p l e room_1 s m #[(.int p0), (.int p1), (.int p2), (.int p3), (.int p4)] below meth c s₁ [] 0 0 := Stand.of_body Bd
  have e0 : s₁.heap = h0 := by rw [← hh, Bd.state]; rfl
  have N0 := Fr.nil n0
  have G0 := gd X0 hx hby
  have pre0 : ∀ t, Steps p.tables e below (s₁.setTop (mkF m 0 #[iv p0, iv p1, iv p2, iv p3, iv p4, .unset, .unset, .unset, .unset, .unset, .unset, .unset, .unset, .unset] [])) t → Steps p.tables e below (s₁.setTop (entryFrame m #[(.int p0), (.int p1), (.int p2), (.int p3), (.int p4)] maxLocals)) t := fun t k => castTop (ef0_al m p0 p1 p2 p3 p4) k
  obtain ⟨x1, hx1⟩ : ∃ z : Int32, z = (p0 &&& (1 : Int32)) := ⟨_, rfl⟩
  obtain ⟨x2, hx2⟩ : ∃ z : Int32, z = ((((p0.toUInt32 >>> ((1 : Int32) &&& 31).toUInt32).toInt32) &&& (3 : Int32)) % (3 : Int32)) := ⟨_, rfl⟩
  obtain ⟨x3, hx3⟩ : ∃ z : Int32, z = (((p0.toUInt32 >>> ((3 : Int32) &&& 31).toUInt32).toInt32) &&& (3 : Int32)) := ⟨_, rfl⟩
  obtain ⟨T4, h4, k4, X4, e4, E4, A4, Xa4, st4⟩ := newPE X0 hx hZ (wd hw 0 rfl) e0 (g := (mkF m 22 #[iv p0, iv p1, iv p2, iv p3, iv p4, iv x1, iv x2, iv x3, .unset, .unset, .unset, .unset, .unset, .unset] [(.int (4 : Int32))])) rfl (hb hby at_22) rfl (by decide) (cap := 4) (by decide) (by decide) (by decide) (by decide) (ad := "[I") (by decide)
  have G4 := gd X4 hx hby
  obtain ⟨b4, g4⟩ : ∃ z, z = h0.size := ⟨_, rfl⟩
  rw [← g4] at A4 Xa4 st4
  have g_b4 : n0 ≤ b4 := Nat.le_trans Z0 (Nat.le_of_eq g4.symm)
  have Z4 := Nat.le_trans Z0 E4.1
  have V_b4 : Arv Z h4 b4 k4 .int (4 : Int32) [(.int (0 : Int32)), (.int (0 : Int32)), (.int (0 : Int32)), (.int (0 : Int32))] (.int (0 : Int32)) := (Arv.new A4 (by decide)).pad (pad_rep [] (.int (0 : Int32)) 4)
  obtain ⟨T5, h5, X5, e5, W5, Vs5, st5⟩ := own_stI X4 hx hby hZ e4 V_b4 (j := (0 : Int32)) (v := (0 : Int32)) at_30 ⟨by decide, by decide⟩ 0 rfl (Nat.le_of_ble_eq_true rfl) #[iv p0, iv p1, iv p2, iv p3, iv p4, iv x1, iv x2, iv x3, rv b4, .unset, .unset, .unset, .unset, .unset] [] 31 rfl
  have G5 := gd X5 hx hby
  have N5 := Fr.snoc X5 N0 g_b4
  have f7 := Xa4.wr W5
  have Z5 := Nat.le_trans Z4 (Keep.of_wr W5).1
  have V5 : Arv Z h5 b4 k4 .int (4 : Int32) [(.int (0 : Int32)), (.int (0 : Int32)), (.int (0 : Int32)), (.int (0 : Int32))] (.int (0 : Int32)) := Vs5
  obtain ⟨x11, hx11⟩ : ∃ z : Int32, z = (if x1 = (1 : Int32) then (1 : Int32) else (0 : Int32)) := ⟨_, rfl⟩
  obtain ⟨T10, X10, e10, st10⟩ : ∃ T' : State, Stand p l e room_1 s m #[(.int p0), (.int p1), (.int p2), (.int p3), (.int p4)] below meth c T' ([] ++ [⟨b4, ((0 : Int32)).toNatClampNeg⟩]) 1 4 ∧ T'.heap = h5 ∧ ∀ target, Steps p.tables e below (T'.setTop (mkF m 48 #[iv p0, iv p1, iv p2, iv p3, iv p4, iv x1, iv x2, iv x3, rv b4, .unset, .unset, .unset, .unset, .unset] [(.int x11), (.int (1 : Int32)), (.ref b4)])) target → Steps p.tables e below (T5.setTop (mkF m 37 #[iv p0, iv p1, iv p2, iv p3, iv p4, iv x1, iv x2, iv x3, rv b4, .unset, .unset, .unset, .unset, .unset] [(.int (1 : Int32)), (.int x1), (.int (1 : Int32)), (.ref b4)])) target := by
    by_cases hc37_9 : x1 = (1 : Int32)
    · refine ⟨T5, X5, e5, fun target kt => ?_⟩
      refine micmpNo 40 G5 at_37 (teq hc37_9).2 rfl ?_
      refine miconst 41 G5 at_40 (v := (1 : Int32)) rfl rfl ?_
      refine mgoto 48 G5 at_41 (by decide) rfl ?_
      exact castTop (g' := (mkF m 48 #[iv p0, iv p1, iv p2, iv p3, iv p4, iv x1, iv x2, iv x3, rv b4, .unset, .unset, .unset, .unset, .unset] [(.int x11), (.int (1 : Int32)), (.ref b4)])) (by simp only [hx11, if_pos hc37_9]) kt
    · refine ⟨T5, X5, e5, fun target kt => ?_⟩
      refine micmpYes 44 G5 at_37 (feq hc37_9).2 (by decide) rfl ?_
      refine maload 46 G5 at_44 rfl rfl rfl ?_
      refine miconst 47 G5 at_46 (v := (0 : Int32)) rfl rfl ?_
      refine miaload 48 X5 hx hby hZ e5 V5 (v := (0 : Int32)) at_47 ⟨by decide, by decide⟩ rfl rfl ?_
      exact castTop (g' := (mkF m 48 #[iv p0, iv p1, iv p2, iv p3, iv p4, iv x1, iv x2, iv x3, rv b4, .unset, .unset, .unset, .unset, .unset] [(.int x11), (.int (1 : Int32)), (.ref b4)])) (by simp only [hx11, if_neg hc37_9]) kt
  have G10 := gd X10 hx hby
  obtain ⟨T12, h12, X12, e12, W12, Vs12, st12⟩ := own_stI X10 hx hby hZ e10 V5 (j := (1 : Int32)) (v := x11) at_48 ⟨by decide, by decide⟩ 1 rfl (Nat.le_of_ble_eq_true rfl) #[iv p0, iv p1, iv p2, iv p3, iv p4, iv x1, iv x2, iv x3, rv b4, .unset, .unset, .unset, .unset, .unset] [] 49 rfl
  have G12 := gd X12 hx hby
  have N12 := Fr.snoc X12 N5 g_b4
  have f14 := f7.wr W12
  have Z12 := Nat.le_trans Z5 (Keep.of_wr W12).1
  have V12 : Arv Z h12 b4 k4 .int (4 : Int32) [(.int (0 : Int32)), (.int x11), (.int (0 : Int32)), (.int (0 : Int32))] (.int (0 : Int32)) := Vs12
  obtain ⟨x18, hx18⟩ : ∃ z : Int32, z = (if x2 = (2 : Int32) then (2 : Int32) else (([(0 : Int32), x11, (0 : Int32), (0 : Int32)] : List Int32).getD x2.toNatClampNeg (0 : Int32))) := ⟨_, rfl⟩
  obtain ⟨T17, X17, e17, st17⟩ : ∃ T' : State, Stand p l e room_1 s m #[(.int p0), (.int p1), (.int p2), (.int p3), (.int p4)] below meth c T' (([] ++ [⟨b4, ((0 : Int32)).toNatClampNeg⟩]) ++ [⟨b4, ((1 : Int32)).toNatClampNeg⟩]) 1 4 ∧ T'.heap = h12 ∧ ∀ target, Steps p.tables e below (T'.setTop (mkF m 67 #[iv p0, iv p1, iv p2, iv p3, iv p4, iv x1, iv x2, iv x3, rv b4, .unset, .unset, .unset, .unset, .unset] [(.int x18), (.int (2 : Int32)), (.ref b4)])) target → Steps p.tables e below (T12.setTop (mkF m 55 #[iv p0, iv p1, iv p2, iv p3, iv p4, iv x1, iv x2, iv x3, rv b4, .unset, .unset, .unset, .unset, .unset] [(.int (2 : Int32)), (.int x2), (.int (2 : Int32)), (.ref b4)])) target := by
    by_cases hc55_16 : x2 = (2 : Int32)
    · refine ⟨T12, X12, e12, fun target kt => ?_⟩
      refine micmpNo 58 G12 at_55 (teq hc55_16).2 rfl ?_
      refine miconst 59 G12 at_58 (v := (2 : Int32)) rfl rfl ?_
      refine mgoto 67 G12 at_59 (by decide) rfl ?_
      exact castTop (g' := (mkF m 67 #[iv p0, iv p1, iv p2, iv p3, iv p4, iv x1, iv x2, iv x3, rv b4, .unset, .unset, .unset, .unset, .unset] [(.int x18), (.int (2 : Int32)), (.ref b4)])) (by simp only [hx18, if_pos hc55_16]) kt
    · refine ⟨T12, X12, e12, fun target kt => ?_⟩
      refine micmpYes 62 G12 at_55 (feq hc55_16).2 (by decide) rfl ?_
      refine maload 64 G12 at_62 rfl rfl rfl ?_
      refine miload 66 G12 at_64 rfl rfl ?_
      refine miaload 67 X12 hx hby hZ e12 V12 (v := (([(0 : Int32), x11, (0 : Int32), (0 : Int32)] : List Int32).getD x2.toNatClampNeg (0 : Int32))) at_66 (own_rm0_al_hin66 p0 p1 p2 p3 p4 x1 hx1 x2 hx2 x3 hx3 x11 hx11 hc55_16 hal) (own_getDI ([(0 : Int32), x11, (0 : Int32), (0 : Int32)] : List Int32) _ _) rfl ?_
      exact castTop (g' := (mkF m 67 #[iv p0, iv p1, iv p2, iv p3, iv p4, iv x1, iv x2, iv x3, rv b4, .unset, .unset, .unset, .unset, .unset] [(.int x18), (.int (2 : Int32)), (.ref b4)])) (by simp only [hx18, if_neg hc55_16]) kt
  have G17 := gd X17 hx hby
  obtain ⟨T19, h19, X19, e19, W19, Vs19, st19⟩ := own_stI X17 hx hby hZ e17 V12 (j := (2 : Int32)) (v := x18) at_67 ⟨by decide, by decide⟩ 2 rfl (Nat.le_of_ble_eq_true rfl) #[iv p0, iv p1, iv p2, iv p3, iv p4, iv x1, iv x2, iv x3, rv b4, .unset, .unset, .unset, .unset, .unset] [] 68 rfl
  have G19 := gd X19 hx hby
  have N19 := Fr.snoc X19 N12 g_b4
  have f21 := f14.wr W19
  have Z19 := Nat.le_trans Z12 (Keep.of_wr W19).1
  have V19 : Arv Z h19 b4 k4 .int (4 : Int32) [(.int (0 : Int32)), (.int x11), (.int x18), (.int (0 : Int32))] (.int (0 : Int32)) := Vs19
  obtain ⟨x25, hx25⟩ : ∃ z : Int32, z = (if x3 = (3 : Int32) then (3 : Int32) else (([(0 : Int32), x11, x18, (0 : Int32)] : List Int32).getD x3.toNatClampNeg (0 : Int32))) := ⟨_, rfl⟩
  obtain ⟨T24, X24, e24, st24⟩ : ∃ T' : State, Stand p l e room_1 s m #[(.int p0), (.int p1), (.int p2), (.int p3), (.int p4)] below meth c T' ((([] ++ [⟨b4, ((0 : Int32)).toNatClampNeg⟩]) ++ [⟨b4, ((1 : Int32)).toNatClampNeg⟩]) ++ [⟨b4, ((2 : Int32)).toNatClampNeg⟩]) 1 4 ∧ T'.heap = h19 ∧ ∀ target, Steps p.tables e below (T'.setTop (mkF m 86 #[iv p0, iv p1, iv p2, iv p3, iv p4, iv x1, iv x2, iv x3, rv b4, .unset, .unset, .unset, .unset, .unset] [(.int x25), (.int (3 : Int32)), (.ref b4)])) target → Steps p.tables e below (T19.setTop (mkF m 74 #[iv p0, iv p1, iv p2, iv p3, iv p4, iv x1, iv x2, iv x3, rv b4, .unset, .unset, .unset, .unset, .unset] [(.int (3 : Int32)), (.int x3), (.int (3 : Int32)), (.ref b4)])) target := by
    by_cases hc74_23 : x3 = (3 : Int32)
    · refine ⟨T19, X19, e19, fun target kt => ?_⟩
      refine micmpNo 77 G19 at_74 (teq hc74_23).2 rfl ?_
      refine miconst 78 G19 at_77 (v := (3 : Int32)) rfl rfl ?_
      refine mgoto 86 G19 at_78 (by decide) rfl ?_
      exact castTop (g' := (mkF m 86 #[iv p0, iv p1, iv p2, iv p3, iv p4, iv x1, iv x2, iv x3, rv b4, .unset, .unset, .unset, .unset, .unset] [(.int x25), (.int (3 : Int32)), (.ref b4)])) (by simp only [hx25, if_pos hc74_23]) kt
    · refine ⟨T19, X19, e19, fun target kt => ?_⟩
      refine micmpYes 81 G19 at_74 (feq hc74_23).2 (by decide) rfl ?_
      refine maload 83 G19 at_81 rfl rfl rfl ?_
      refine miload 85 G19 at_83 rfl rfl ?_
      refine miaload 86 X19 hx hby hZ e19 V19 (v := (([(0 : Int32), x11, x18, (0 : Int32)] : List Int32).getD x3.toNatClampNeg (0 : Int32))) at_85 (own_rm0_al_hin85 p0 p1 p2 p3 p4 x1 hx1 x2 hx2 x3 hx3 x11 hx11 x18 hx18 hc74_23 hal) (own_getDI ([(0 : Int32), x11, x18, (0 : Int32)] : List Int32) _ _) rfl ?_
      exact castTop (g' := (mkF m 86 #[iv p0, iv p1, iv p2, iv p3, iv p4, iv x1, iv x2, iv x3, rv b4, .unset, .unset, .unset, .unset, .unset] [(.int x25), (.int (3 : Int32)), (.ref b4)])) (by simp only [hx25, if_neg hc74_23]) kt
  have G24 := gd X24 hx hby
  obtain ⟨T26, h26, X26, e26, W26, Vs26, st26⟩ := own_stI X24 hx hby hZ e24 V19 (j := (3 : Int32)) (v := x25) at_86 ⟨by decide, by decide⟩ 3 rfl (Nat.le_of_ble_eq_true rfl) #[iv p0, iv p1, iv p2, iv p3, iv p4, iv x1, iv x2, iv x3, rv b4, .unset, .unset, .unset, .unset, .unset] [] 87 rfl
  have G26 := gd X26 hx hby
  have N26 := Fr.snoc X26 N19 g_b4
  have f28 := f21.wr W26
  have Z26 := Nat.le_trans Z19 (Keep.of_wr W26).1
  have V26 : Arv Z h26 b4 k4 .int (4 : Int32) [(.int (0 : Int32)), (.int x11), (.int x18), (.int x25)] (.int (0 : Int32)) := Vs26
  obtain ⟨T30, h30, k30, X30, e30, E30, A30, Xa30, st30⟩ := newPE X26 hx hZ (wd hw 1 rfl) e26 (g := (mkF m 88 #[iv p0, iv p1, iv p2, iv p3, iv p4, iv x1, iv x2, iv x3, rv b4, .unset, .unset, .unset, .unset, .unset] [(.int (4 : Int32))])) rfl (hb hby at_88) rfl (by decide) (cap := 4) (by decide) (by decide) (by decide) (by decide) (ad := "[D") (by decide)
  have G30 := gd X30 hx hby
  obtain ⟨b30, g30⟩ : ∃ z, z = h26.size := ⟨_, rfl⟩
  rw [← g30] at A30 Xa30 st30
  have ne_b4_b30 : b4 ≠ b30 := Nat.ne_of_lt (Nat.lt_of_lt_of_le f28.lt (Nat.le_of_eq g30.symm))
  have g_b30 : n0 ≤ b30 := Nat.le_trans Z26 (Nat.le_of_eq g30.symm)
  have f31 := f28.ext E30
  have f32 := V26.ext E30
  have Z30 := Nat.le_trans Z26 E30.1
  have V_b30 : Arv Z h30 b30 k30 .double (4 : Int32) [(.double (0 : UInt64)), (.double (0 : UInt64)), (.double (0 : UInt64)), (.double (0 : UInt64))] (.double (0 : UInt64)) := (Arv.new A30 (by decide)).pad (pad_rep [] (.double (0 : UInt64)) 4)
  obtain ⟨x33, hx33⟩ : ∃ z : UInt64, z = (FP.i2d (p1 &&& (1048575 : Int32))) := ⟨_, rfl⟩
  obtain ⟨T34, h34, X34, e34, W34, Vs34, st34⟩ := own_stD X30 hx hby hZ e30 V_b30 (j := (0 : Int32)) (v := x33) at_100 ⟨by decide, by decide⟩ 0 rfl (Nat.le_of_ble_eq_true rfl) #[iv p0, iv p1, iv p2, iv p3, iv p4, iv x1, iv x2, iv x3, rv b4, rv b30, .unset, .unset, .unset, .unset] [] 101 rfl
  have G34 := gd X34 hx hby
  have N34 := Fr.snoc X34 N26 g_b30
  have f36 := f31.wr W34
  have f37 := f32.other W34 ne_b4_b30
  have f40 := Xa30.wr W34
  have Z34 := Nat.le_trans Z30 (Keep.of_wr W34).1
  have V34 : Arv Z h34 b30 k30 .double (4 : Int32) [(.double x33), (.double (0 : UInt64)), (.double (0 : UInt64)), (.double (0 : UInt64))] (.double (0 : UInt64)) := Vs34
  obtain ⟨x42, hx42⟩ : ∃ z : UInt64, z = (FP.i2d (p2 &&& (1048575 : Int32))) := ⟨_, rfl⟩
  obtain ⟨T43, h43, X43, e43, W43, Vs43, st43⟩ := own_stD X34 hx hby hZ e34 V34 (j := (1 : Int32)) (v := x42) at_109 ⟨by decide, by decide⟩ 1 rfl (Nat.le_of_ble_eq_true rfl) #[iv p0, iv p1, iv p2, iv p3, iv p4, iv x1, iv x2, iv x3, rv b4, rv b30, .unset, .unset, .unset, .unset] [] 110 rfl
  have G43 := gd X43 hx hby
  have N43 := Fr.snoc X43 N34 g_b30
  have f45 := f36.wr W43
  have f46 := f37.other W43 ne_b4_b30
  have f49 := f40.wr W43
  have Z43 := Nat.le_trans Z34 (Keep.of_wr W43).1
  have V43 : Arv Z h43 b30 k30 .double (4 : Int32) [(.double x33), (.double x42), (.double (0 : UInt64)), (.double (0 : UInt64))] (.double (0 : UInt64)) := Vs43
  obtain ⟨x51, hx51⟩ : ∃ z : UInt64, z = (FP.i2d (p3 &&& (1048575 : Int32))) := ⟨_, rfl⟩
  obtain ⟨T52, h52, X52, e52, W52, Vs52, st52⟩ := own_stD X43 hx hby hZ e43 V43 (j := (2 : Int32)) (v := x51) at_118 ⟨by decide, by decide⟩ 2 rfl (Nat.le_of_ble_eq_true rfl) #[iv p0, iv p1, iv p2, iv p3, iv p4, iv x1, iv x2, iv x3, rv b4, rv b30, .unset, .unset, .unset, .unset] [] 119 rfl
  have G52 := gd X52 hx hby
  have N52 := Fr.snoc X52 N43 g_b30
  have f54 := f45.wr W52
  have f55 := f46.other W52 ne_b4_b30
  have f58 := f49.wr W52
  have Z52 := Nat.le_trans Z43 (Keep.of_wr W52).1
  have V52 : Arv Z h52 b30 k30 .double (4 : Int32) [(.double x33), (.double x42), (.double x51), (.double (0 : UInt64))] (.double (0 : UInt64)) := Vs52
  obtain ⟨x60, hx60⟩ : ∃ z : UInt64, z = (FP.i2d (p4 &&& (1048575 : Int32))) := ⟨_, rfl⟩
  obtain ⟨T61, h61, X61, e61, W61, Vs61, st61⟩ := own_stD X52 hx hby hZ e52 V52 (j := (3 : Int32)) (v := x60) at_128 ⟨by decide, by decide⟩ 3 rfl (Nat.le_of_ble_eq_true rfl) #[iv p0, iv p1, iv p2, iv p3, iv p4, iv x1, iv x2, iv x3, rv b4, rv b30, .unset, .unset, .unset, .unset] [] 129 rfl
  have G61 := gd X61 hx hby
  have N61 := Fr.snoc X61 N52 g_b30
  have f63 := f54.wr W61
  have f64 := f55.other W61 ne_b4_b30
  have f67 := f58.wr W61
  have Z61 := Nat.le_trans Z52 (Keep.of_wr W61).1
  have V61 : Arv Z h61 b30 k30 .double (4 : Int32) [(.double x33), (.double x42), (.double x51), (.double x60)] (.double (0 : UInt64)) := Vs61
  obtain ⟨T69, h69, k69, X69, e69, E69, A69, Xa69, st69⟩ := newPE X61 hx hZ (wd hw 1 rfl) e61 (g := (mkF m 130 #[iv p0, iv p1, iv p2, iv p3, iv p4, iv x1, iv x2, iv x3, rv b4, rv b30, .unset, .unset, .unset, .unset] [(.int (4 : Int32))])) rfl (hb hby at_130) rfl (by decide) (cap := 4) (by decide) (by decide) (by decide) (by decide) (ad := "[D") (by decide)
  have G69 := gd X69 hx hby
  obtain ⟨b69, g69⟩ : ∃ z, z = h61.size := ⟨_, rfl⟩
  rw [← g69] at A69 Xa69 st69
  have ne_b4_b69 : b4 ≠ b69 := Nat.ne_of_lt (Nat.lt_of_lt_of_le f63.lt (Nat.le_of_eq g69.symm))
  have ne_b30_b69 : b30 ≠ b69 := Nat.ne_of_lt (Nat.lt_of_lt_of_le f67.lt (Nat.le_of_eq g69.symm))
  have g_b69 : n0 ≤ b69 := Nat.le_trans Z61 (Nat.le_of_eq g69.symm)
  have f70 := f63.ext E69
  have f71 := f64.ext E69
  have f72 := f67.ext E69
  have f73 := V61.ext E69
  have Z69 := Nat.le_trans Z61 E69.1
  have V_b69 : Arv Z h69 b69 k69 .double (4 : Int32) [(.double (0 : UInt64)), (.double (0 : UInt64)), (.double (0 : UInt64)), (.double (0 : UInt64))] (.double (0 : UInt64)) := (Arv.new A69 (by decide)).pad (pad_rep [] (.double (0 : UInt64)) 4)
  obtain ⟨T74, h74, X74, e74, W74, Vs74, st74⟩ := own_stD X69 hx hby hZ e69 V_b69 (j := (0 : Int32)) (v := x33) at_141 ⟨by decide, by decide⟩ 0 rfl (Nat.le_of_ble_eq_true rfl) #[iv p0, iv p1, iv p2, iv p3, iv p4, iv x1, iv x2, iv x3, rv b4, rv b30, rv b69, .unset, .unset, .unset] [] 142 rfl
  have G74 := gd X74 hx hby
  have N74 := Fr.snoc X74 N61 g_b69
  have f76 := f70.wr W74
  have f77 := f71.other W74 ne_b4_b69
  have f80 := f72.wr W74
  have f81 := f73.other W74 ne_b30_b69
  have f85 := Xa69.wr W74
  have Z74 := Nat.le_trans Z69 (Keep.of_wr W74).1
  have V74 : Arv Z h74 b69 k69 .double (4 : Int32) [(.double x33), (.double (0 : UInt64)), (.double (0 : UInt64)), (.double (0 : UInt64))] (.double (0 : UInt64)) := Vs74
  obtain ⟨T87, h87, X87, e87, W87, Vs87, st87⟩ := own_stD X74 hx hby hZ e74 V74 (j := (1 : Int32)) (v := x42) at_149 ⟨by decide, by decide⟩ 1 rfl (Nat.le_of_ble_eq_true rfl) #[iv p0, iv p1, iv p2, iv p3, iv p4, iv x1, iv x2, iv x3, rv b4, rv b30, rv b69, .unset, .unset, .unset] [] 150 rfl
  have G87 := gd X87 hx hby
  have N87 := Fr.snoc X87 N74 g_b69
  have f89 := f76.wr W87
  have f90 := f77.other W87 ne_b4_b69
  have f93 := f80.wr W87
  have f94 := f81.other W87 ne_b30_b69
  have f98 := f85.wr W87
  have Z87 := Nat.le_trans Z74 (Keep.of_wr W87).1
  have V87 : Arv Z h87 b69 k69 .double (4 : Int32) [(.double x33), (.double x42), (.double (0 : UInt64)), (.double (0 : UInt64))] (.double (0 : UInt64)) := Vs87
  obtain ⟨T100, h100, X100, e100, W100, Vs100, st100⟩ := own_stD X87 hx hby hZ e87 V87 (j := (2 : Int32)) (v := x51) at_157 ⟨by decide, by decide⟩ 2 rfl (Nat.le_of_ble_eq_true rfl) #[iv p0, iv p1, iv p2, iv p3, iv p4, iv x1, iv x2, iv x3, rv b4, rv b30, rv b69, .unset, .unset, .unset] [] 158 rfl
  have G100 := gd X100 hx hby
  have N100 := Fr.snoc X100 N87 g_b69
  have f102 := f89.wr W100
  have f103 := f90.other W100 ne_b4_b69
  have f106 := f93.wr W100
  have f107 := f94.other W100 ne_b30_b69
  have f111 := f98.wr W100
  have Z100 := Nat.le_trans Z87 (Keep.of_wr W100).1
  have V100 : Arv Z h100 b69 k69 .double (4 : Int32) [(.double x33), (.double x42), (.double x51), (.double (0 : UInt64))] (.double (0 : UInt64)) := Vs100
  obtain ⟨T113, h113, X113, e113, W113, Vs113, st113⟩ := own_stD X100 hx hby hZ e100 V100 (j := (3 : Int32)) (v := x60) at_165 ⟨by decide, by decide⟩ 3 rfl (Nat.le_of_ble_eq_true rfl) #[iv p0, iv p1, iv p2, iv p3, iv p4, iv x1, iv x2, iv x3, rv b4, rv b30, rv b69, .unset, .unset, .unset] [] 166 rfl
  have G113 := gd X113 hx hby
  have N113 := Fr.snoc X113 N100 g_b69
  have f115 := f102.wr W113
  have f116 := f103.other W113 ne_b4_b69
  have f119 := f106.wr W113
  have f120 := f107.other W113 ne_b30_b69
  have f124 := f111.wr W113
  have Z113 := Nat.le_trans Z100 (Keep.of_wr W113).1
  have V113 : Arv Z h113 b69 k69 .double (4 : Int32) [(.double x33), (.double x42), (.double x51), (.double x60)] (.double (0 : UInt64)) := Vs113
  obtain ⟨T126, h126, k126, X126, e126, E126, A126, Xa126, st126⟩ := newPE X113 hx hZ (wd hw 1 rfl) e113 (g := (mkF m 167 #[iv p0, iv p1, iv p2, iv p3, iv p4, iv x1, iv x2, iv x3, rv b4, rv b30, rv b69, .unset, .unset, .unset] [(.int (4 : Int32))])) rfl (hb hby at_167) rfl (by decide) (cap := 4) (by decide) (by decide) (by decide) (by decide) (ad := "[D") (by decide)
  have G126 := gd X126 hx hby
  obtain ⟨b126, g126⟩ : ∃ z, z = h113.size := ⟨_, rfl⟩
  rw [← g126] at A126 Xa126 st126
  have ne_b4_b126 : b4 ≠ b126 := Nat.ne_of_lt (Nat.lt_of_lt_of_le f115.lt (Nat.le_of_eq g126.symm))
  have ne_b30_b126 : b30 ≠ b126 := Nat.ne_of_lt (Nat.lt_of_lt_of_le f119.lt (Nat.le_of_eq g126.symm))
  have ne_b69_b126 : b69 ≠ b126 := Nat.ne_of_lt (Nat.lt_of_lt_of_le f124.lt (Nat.le_of_eq g126.symm))
  have g_b126 : n0 ≤ b126 := Nat.le_trans Z113 (Nat.le_of_eq g126.symm)
  have f127 := f115.ext E126
  have f128 := f116.ext E126
  have f129 := f119.ext E126
  have f130 := f120.ext E126
  have f131 := f124.ext E126
  have f132 := V113.ext E126
  have Z126 := Nat.le_trans Z113 E126.1
  have V_b126 : Arv Z h126 b126 k126 .double (4 : Int32) [(.double (0 : UInt64)), (.double (0 : UInt64)), (.double (0 : UInt64)), (.double (0 : UInt64))] (.double (0 : UInt64)) := (Arv.new A126 (by decide)).pad (pad_rep [] (.double (0 : UInt64)) 4)
  obtain ⟨T133, h133, X133, e133, W133, Vs133, st133⟩ := own_stD X126 hx hby hZ e126 V_b126 (j := (0 : Int32)) (v := (4607182418800017408 : UInt64)) at_172 ⟨by decide, by decide⟩ 0 rfl (Nat.le_of_ble_eq_true rfl) #[iv p0, iv p1, iv p2, iv p3, iv p4, iv x1, iv x2, iv x3, rv b4, rv b30, rv b69, .unset, .unset, .unset] [(.ref b126)] 173 rfl
  have G133 := gd X133 hx hby
  have N133 := Fr.snoc X133 N113 g_b126
  have f135 := f127.wr W133
  have f136 := f128.other W133 ne_b4_b126
  have f139 := f129.wr W133
  have f140 := f130.other W133 ne_b30_b126
  have f144 := f131.wr W133
  have f145 := f132.other W133 ne_b69_b126
  have f150 := Xa126.wr W133
  have Z133 := Nat.le_trans Z126 (Keep.of_wr W133).1
  have V133 : Arv Z h133 b126 k126 .double (4 : Int32) [(.double (4607182418800017408 : UInt64)), (.double (0 : UInt64)), (.double (0 : UInt64)), (.double (0 : UInt64))] (.double (0 : UInt64)) := Vs133
  obtain ⟨T152, h152, X152, e152, W152, Vs152, st152⟩ := own_stD X133 hx hby hZ e133 V133 (j := (1 : Int32)) (v := (4607182418800017408 : UInt64)) at_176 ⟨by decide, by decide⟩ 1 rfl (Nat.le_of_ble_eq_true rfl) #[iv p0, iv p1, iv p2, iv p3, iv p4, iv x1, iv x2, iv x3, rv b4, rv b30, rv b69, .unset, .unset, .unset] [(.ref b126)] 177 rfl
  have G152 := gd X152 hx hby
  have N152 := Fr.snoc X152 N133 g_b126
  have f154 := f135.wr W152
  have f155 := f136.other W152 ne_b4_b126
  have f158 := f139.wr W152
  have f159 := f140.other W152 ne_b30_b126
  have f163 := f144.wr W152
  have f164 := f145.other W152 ne_b69_b126
  have f169 := f150.wr W152
  have Z152 := Nat.le_trans Z133 (Keep.of_wr W152).1
  have V152 : Arv Z h152 b126 k126 .double (4 : Int32) [(.double (4607182418800017408 : UInt64)), (.double (4607182418800017408 : UInt64)), (.double (0 : UInt64)), (.double (0 : UInt64))] (.double (0 : UInt64)) := Vs152
  obtain ⟨T171, h171, X171, e171, W171, Vs171, st171⟩ := own_stD X152 hx hby hZ e152 V152 (j := (2 : Int32)) (v := (4607182418800017408 : UInt64)) at_180 ⟨by decide, by decide⟩ 2 rfl (Nat.le_of_ble_eq_true rfl) #[iv p0, iv p1, iv p2, iv p3, iv p4, iv x1, iv x2, iv x3, rv b4, rv b30, rv b69, .unset, .unset, .unset] [(.ref b126)] 181 rfl
  have G171 := gd X171 hx hby
  have N171 := Fr.snoc X171 N152 g_b126
  have f173 := f154.wr W171
  have f174 := f155.other W171 ne_b4_b126
  have f177 := f158.wr W171
  have f178 := f159.other W171 ne_b30_b126
  have f182 := f163.wr W171
  have f183 := f164.other W171 ne_b69_b126
  have f188 := f169.wr W171
  have Z171 := Nat.le_trans Z152 (Keep.of_wr W171).1
  have V171 : Arv Z h171 b126 k126 .double (4 : Int32) [(.double (4607182418800017408 : UInt64)), (.double (4607182418800017408 : UInt64)), (.double (4607182418800017408 : UInt64)), (.double (0 : UInt64))] (.double (0 : UInt64)) := Vs171
  obtain ⟨T190, h190, X190, e190, W190, Vs190, st190⟩ := own_stD X171 hx hby hZ e171 V171 (j := (3 : Int32)) (v := (4607182418800017408 : UInt64)) at_184 ⟨by decide, by decide⟩ 3 rfl (Nat.le_of_ble_eq_true rfl) #[iv p0, iv p1, iv p2, iv p3, iv p4, iv x1, iv x2, iv x3, rv b4, rv b30, rv b69, .unset, .unset, .unset] [(.ref b126)] 185 rfl
  have G190 := gd X190 hx hby
  have N190 := Fr.snoc X190 N171 g_b126
  have f192 := f173.wr W190
  have f193 := f174.other W190 ne_b4_b126
  have f196 := f177.wr W190
  have f197 := f178.other W190 ne_b30_b126
  have f201 := f182.wr W190
  have f202 := f183.other W190 ne_b69_b126
  have f207 := f188.wr W190
  have Z190 := Nat.le_trans Z171 (Keep.of_wr W190).1
  have V190 : Arv Z h190 b126 k126 .double (4 : Int32) [(.double (4607182418800017408 : UInt64)), (.double (4607182418800017408 : UInt64)), (.double (4607182418800017408 : UInt64)), (.double (4607182418800017408 : UInt64))] (.double (0 : UInt64)) := Vs190
  obtain ⟨T209, h209, k209, X209, e209, E209, A209, Xa209, st209⟩ := newPE X190 hx hZ (wd hw 1 rfl) e190 (g := (mkF m 188 #[iv p0, iv p1, iv p2, iv p3, iv p4, iv x1, iv x2, iv x3, rv b4, rv b30, rv b69, rv b126, .unset, .unset] [(.int (4 : Int32))])) rfl (hb hby at_188) rfl (by decide) (cap := 4) (by decide) (by decide) (by decide) (by decide) (ad := "[D") (by decide)
  have G209 := gd X209 hx hby
  obtain ⟨b209, g209⟩ : ∃ z, z = h190.size := ⟨_, rfl⟩
  rw [← g209] at A209 Xa209 st209
  have ne_b4_b209 : b4 ≠ b209 := Nat.ne_of_lt (Nat.lt_of_lt_of_le f192.lt (Nat.le_of_eq g209.symm))
  have ne_b30_b209 : b30 ≠ b209 := Nat.ne_of_lt (Nat.lt_of_lt_of_le f196.lt (Nat.le_of_eq g209.symm))
  have ne_b69_b209 : b69 ≠ b209 := Nat.ne_of_lt (Nat.lt_of_lt_of_le f201.lt (Nat.le_of_eq g209.symm))
  have ne_b126_b209 : b126 ≠ b209 := Nat.ne_of_lt (Nat.lt_of_lt_of_le f207.lt (Nat.le_of_eq g209.symm))
  have g_b209 : n0 ≤ b209 := Nat.le_trans Z190 (Nat.le_of_eq g209.symm)
  have f210 := f192.ext E209
  have f211 := f193.ext E209
  have f212 := f196.ext E209
  have f213 := f197.ext E209
  have f214 := f201.ext E209
  have f215 := f202.ext E209
  have f216 := f207.ext E209
  have f217 := V190.ext E209
  have Z209 := Nat.le_trans Z190 E209.1
  have V_b209 : Arv Z h209 b209 k209 .double (4 : Int32) [(.double (0 : UInt64)), (.double (0 : UInt64)), (.double (0 : UInt64)), (.double (0 : UInt64))] (.double (0 : UInt64)) := (Arv.new A209 (by decide)).pad (pad_rep [] (.double (0 : UInt64)) 4)
  obtain ⟨T218, h218, X218, e218, W218, Vs218, st218⟩ := own_stD X209 hx hby hZ e209 V_b209 (j := (0 : Int32)) (v := (4607182418800017408 : UInt64)) at_193 ⟨by decide, by decide⟩ 0 rfl (Nat.le_of_ble_eq_true rfl) #[iv p0, iv p1, iv p2, iv p3, iv p4, iv x1, iv x2, iv x3, rv b4, rv b30, rv b69, rv b126, .unset, .unset] [(.ref b209)] 194 rfl
  have G218 := gd X218 hx hby
  have N218 := Fr.snoc X218 N190 g_b209
  have f220 := f210.wr W218
  have f221 := f211.other W218 ne_b4_b209
  have f224 := f212.wr W218
  have f225 := f213.other W218 ne_b30_b209
  have f229 := f214.wr W218
  have f230 := f215.other W218 ne_b69_b209
  have f235 := f216.wr W218
  have f236 := f217.other W218 ne_b126_b209
  have f242 := Xa209.wr W218
  have Z218 := Nat.le_trans Z209 (Keep.of_wr W218).1
  have V218 : Arv Z h218 b209 k209 .double (4 : Int32) [(.double (4607182418800017408 : UInt64)), (.double (0 : UInt64)), (.double (0 : UInt64)), (.double (0 : UInt64))] (.double (0 : UInt64)) := Vs218
  obtain ⟨T244, h244, X244, e244, W244, Vs244, st244⟩ := own_stD X218 hx hby hZ e218 V218 (j := (1 : Int32)) (v := (4607182418800017408 : UInt64)) at_197 ⟨by decide, by decide⟩ 1 rfl (Nat.le_of_ble_eq_true rfl) #[iv p0, iv p1, iv p2, iv p3, iv p4, iv x1, iv x2, iv x3, rv b4, rv b30, rv b69, rv b126, .unset, .unset] [(.ref b209)] 198 rfl
  have G244 := gd X244 hx hby
  have N244 := Fr.snoc X244 N218 g_b209
  have f246 := f220.wr W244
  have f247 := f221.other W244 ne_b4_b209
  have f250 := f224.wr W244
  have f251 := f225.other W244 ne_b30_b209
  have f255 := f229.wr W244
  have f256 := f230.other W244 ne_b69_b209
  have f261 := f235.wr W244
  have f262 := f236.other W244 ne_b126_b209
  have f268 := f242.wr W244
  have Z244 := Nat.le_trans Z218 (Keep.of_wr W244).1
  have V244 : Arv Z h244 b209 k209 .double (4 : Int32) [(.double (4607182418800017408 : UInt64)), (.double (4607182418800017408 : UInt64)), (.double (0 : UInt64)), (.double (0 : UInt64))] (.double (0 : UInt64)) := Vs244
  obtain ⟨T270, h270, X270, e270, W270, Vs270, st270⟩ := own_stD X244 hx hby hZ e244 V244 (j := (2 : Int32)) (v := (4607182418800017408 : UInt64)) at_201 ⟨by decide, by decide⟩ 2 rfl (Nat.le_of_ble_eq_true rfl) #[iv p0, iv p1, iv p2, iv p3, iv p4, iv x1, iv x2, iv x3, rv b4, rv b30, rv b69, rv b126, .unset, .unset] [(.ref b209)] 202 rfl
  have G270 := gd X270 hx hby
  have N270 := Fr.snoc X270 N244 g_b209
  have f272 := f246.wr W270
  have f273 := f247.other W270 ne_b4_b209
  have f276 := f250.wr W270
  have f277 := f251.other W270 ne_b30_b209
  have f281 := f255.wr W270
  have f282 := f256.other W270 ne_b69_b209
  have f287 := f261.wr W270
  have f288 := f262.other W270 ne_b126_b209
  have f294 := f268.wr W270
  have Z270 := Nat.le_trans Z244 (Keep.of_wr W270).1
  have V270 : Arv Z h270 b209 k209 .double (4 : Int32) [(.double (4607182418800017408 : UInt64)), (.double (4607182418800017408 : UInt64)), (.double (4607182418800017408 : UInt64)), (.double (0 : UInt64))] (.double (0 : UInt64)) := Vs270
  obtain ⟨T296, h296, X296, e296, W296, Vs296, st296⟩ := own_stD X270 hx hby hZ e270 V270 (j := (3 : Int32)) (v := (4607182418800017408 : UInt64)) at_205 ⟨by decide, by decide⟩ 3 rfl (Nat.le_of_ble_eq_true rfl) #[iv p0, iv p1, iv p2, iv p3, iv p4, iv x1, iv x2, iv x3, rv b4, rv b30, rv b69, rv b126, .unset, .unset] [(.ref b209)] 206 rfl
  have G296 := gd X296 hx hby
  have N296 := Fr.snoc X296 N270 g_b209
  have f298 := f272.wr W296
  have f299 := f273.other W296 ne_b4_b209
  have f302 := f276.wr W296
  have f303 := f277.other W296 ne_b30_b209
  have f307 := f281.wr W296
  have f308 := f282.other W296 ne_b69_b209
  have f313 := f287.wr W296
  have f314 := f288.other W296 ne_b126_b209
  have f320 := f294.wr W296
  have Z296 := Nat.le_trans Z270 (Keep.of_wr W296).1
  have V296 : Arv Z h296 b209 k209 .double (4 : Int32) [(.double (4607182418800017408 : UInt64)), (.double (4607182418800017408 : UInt64)), (.double (4607182418800017408 : UInt64)), (.double (4607182418800017408 : UInt64))] (.double (0 : UInt64)) := Vs296
  obtain ⟨T322, h322, X322, e322, E322, A322, D322, -, st322⟩ := newO X296 hx hZ hown (wd hw 3 rfl) (wd hw 4 rfl) (wd hw 5 rfl) e296 (g := (mkF m 208 #[iv p0, iv p1, iv p2, iv p3, iv p4, iv x1, iv x2, iv x3, rv b4, rv b30, rv b69, rv b126, rv b209, .unset] [])) rfl (hb hby at_208) (by decide) (by decide)
  have G322 := gd X322 hx hby
  obtain ⟨b322, g322⟩ : ∃ z, z = h296.size := ⟨_, rfl⟩
  rw [← g322] at A322 D322 st322
  have ne_b4_b322 : b4 ≠ b322 := Nat.ne_of_lt (Nat.lt_of_lt_of_le f298.lt (Nat.le_of_eq g322.symm))
  have ne_b30_b322 : b30 ≠ b322 := Nat.ne_of_lt (Nat.lt_of_lt_of_le f302.lt (Nat.le_of_eq g322.symm))
  have ne_b69_b322 : b69 ≠ b322 := Nat.ne_of_lt (Nat.lt_of_lt_of_le f307.lt (Nat.le_of_eq g322.symm))
  have ne_b126_b322 : b126 ≠ b322 := Nat.ne_of_lt (Nat.lt_of_lt_of_le f313.lt (Nat.le_of_eq g322.symm))
  have ne_b209_b322 : b209 ≠ b322 := Nat.ne_of_lt (Nat.lt_of_lt_of_le f320.lt (Nat.le_of_eq g322.symm))
  have g_b322 : n0 ≤ b322 := Nat.le_trans Z296 (Nat.le_of_eq g322.symm)
  have f323 := f298.ext E322
  have f324 := f299.ext E322
  have f325 := f302.ext E322
  have f326 := f303.ext E322
  have f327 := f307.ext E322
  have f328 := f308.ext E322
  have f329 := f313.ext E322
  have f330 := f314.ext E322
  have f331 := f320.ext E322
  have f332 := V296.ext E322
  have Z322 := Nat.le_trans Z296 E322.1
  have F_absolute_b322 : Fld Z h322 b322 "com/example/oceanus/oceanus/numerics/Tolerances" "absolute" "[D" .null := D322 (Or.inr (wd hw 31 rfl)) (ty := (.array .double)) (by decide)
  have F_relative_b322 : Fld Z h322 b322 "com/example/oceanus/oceanus/numerics/Tolerances" "relative" "[D" .null := D322 (Or.inr (wd hw 33 rfl)) (ty := (.array .double)) (by decide)
  have F_groups_b322 : Fld Z h322 b322 "com/example/oceanus/oceanus/numerics/Tolerances" "groups" "[I" .null := D322 (Or.inr (wd hw 41 rfl)) (ty := (.array .int)) (by decide)
  obtain ⟨_, _, ⟨T333, L333, k333, n333⟩, -, X333, ⟨Lc333, hQ333, l333, y333, z333⟩, st333⟩ := X322.specialBack hx (y := (⟨"com/example/oceanus/oceanus/numerics/Tolerances", "<init>", "([D[D[I)V"⟩ : MethodName)) rfl hown (mvT hZ (wd hw 6 rfl)) (mvT hZ (wd hw 7 rfl)) (mvT hZ (wd hw 8 rfl)) (by decide) (backOf (W := 1) (rm1_al l Z a0 hw [] b322 b126 b209 b4 h322 n0 Z322 (own_rm0_al_hp_hok_218 p0 p1 p2 p3 p4 x1 hx1 x2 hx2 x3 hx3 x11 hx11 x18 hx18 x25 hx25 x33 hx33 x42 hx42 x51 hx51 x60 hx60 hal) (own_rm0_al_hp_hal_218 p0 p1 p2 p3 p4 x1 hx1 x2 hx2 x3 hx3 x11 hx11 x18 hx18 x25 hx25 x33 hx33 x42 hx42 x51 hx51 x60 hx60 hal) A322 g_b322 F_absolute_b322 F_relative_b322 F_groups_b322 (Ne.symm ne_b126_b322) (Ne.symm ne_b209_b322) (Ne.symm ne_b4_b322) f329 f331 f323 f330 f332 f324) hZ (wd hw 8 rfl) (wd hw 5 rfl) (by decide) (by decide)) (g := (mkF m 218 #[iv p0, iv p1, iv p2, iv p3, iv p4, iv x1, iv x2, iv x3, rv b4, rv b30, rv b69, rv b126, rv b209, .unset] [(.ref b4), (.ref b209), (.ref b126), (.ref b322), (.ref b322)])) rfl (by rw [hml]; rfl) (Steps.refl _) (a := b322) (argsL := [(.ref b126), (.ref b209), (.ref b4)]) (rest := [(.ref b322)]) (lenOf pd_2 rfl) rfl (by show 2 * 0 + _ ≤ _; exact Nat.le_of_eq rfl) (hb hby at_218) (fun _ _ => ⟨rfl, e322, (by decide : 6 + 2 ≤ _), (by decide : 23 + 8 ≤ _)⟩)
  dsimp only [Pt.U, Pt.locs, Pt.cells, Pt.slots] at X333 l333 y333 z333 st333 hQ333
  replace l333 : ((((((((((((((((((((([] ++ [⟨b4, ((0 : Int32)).toNatClampNeg⟩]) ++ [⟨b4, ((1 : Int32)).toNatClampNeg⟩]) ++ [⟨b4, ((2 : Int32)).toNatClampNeg⟩]) ++ [⟨b4, ((3 : Int32)).toNatClampNeg⟩]) ++ [⟨b30, ((0 : Int32)).toNatClampNeg⟩]) ++ [⟨b30, ((1 : Int32)).toNatClampNeg⟩]) ++ [⟨b30, ((2 : Int32)).toNatClampNeg⟩]) ++ [⟨b30, ((3 : Int32)).toNatClampNeg⟩]) ++ [⟨b69, ((0 : Int32)).toNatClampNeg⟩]) ++ [⟨b69, ((1 : Int32)).toNatClampNeg⟩]) ++ [⟨b69, ((2 : Int32)).toNatClampNeg⟩]) ++ [⟨b69, ((3 : Int32)).toNatClampNeg⟩]) ++ [⟨b126, ((0 : Int32)).toNatClampNeg⟩]) ++ [⟨b126, ((1 : Int32)).toNatClampNeg⟩]) ++ [⟨b126, ((2 : Int32)).toNatClampNeg⟩]) ++ [⟨b126, ((3 : Int32)).toNatClampNeg⟩]) ++ [⟨b209, ((0 : Int32)).toNatClampNeg⟩]) ++ [⟨b209, ((1 : Int32)).toNatClampNeg⟩]) ++ [⟨b209, ((2 : Int32)).toNatClampNeg⟩]) ++ [⟨b209, ((3 : Int32)).toNatClampNeg⟩]) ++ Lc333) = L333 := l333.symm
  subst l333 y333 z333
  obtain ⟨rfl, Nq333, K333, Eq333, Fq333_0⟩ := hQ333
  have N333 := Fr.app N296 Nq333
  have f335 := f323.keep K333
  have f336 := f324.keep K333 (ninS ne_b4_b322 nin0)
  have f339 := f325.keep K333
  have f340 := f326.keep K333 (ninS ne_b30_b322 nin0)
  have f344 := f327.keep K333
  have f345 := f328.keep K333 (ninS ne_b69_b322 nin0)
  have f350 := f329.keep K333
  have f351 := f330.keep K333 (ninS ne_b126_b322 nin0)
  have f357 := f331.keep K333
  have f358 := f332.keep K333 (ninS ne_b209_b322 nin0)
  have f368 := A322.keep K333
  have Z333k := Nat.le_trans Z322 K333.1
  have G333 := gd X333 hx hby
  obtain ⟨cq369, kq369, q369a, q369b, q369c⟩ := isOf hZ rfl Eq333
  obtain ⟨_, _, ⟨T369, L369, k369, n369⟩, -, X369, ⟨Lc369, hQ369, l369, y369, z369⟩, st369⟩ := X333.virtualBack hx (y := (⟨"com/example/oceanus/oceanus/numerics/Tolerances", "group", "([D)V"⟩ : MethodName)) (z := (⟨"com/example/oceanus/oceanus/numerics/Tolerances", "group", "([D)V"⟩ : MethodName)) hown (mvT hZ (wd hw 42 rfl)) (mvT hZ (wd hw 43 rfl)) (notFace_of_selects (args := #[]) (mvT hZ (wd hw 45 rfl))) (mvT hZ (wd hw 45 rfl)) (mvT hZ (wd hw 44 rfl)) (by decide) (backOf (W := 0) (rm5_null l Z a0 hw [] b322 b69 T333.heap n0 Z333k Fq333_0) hZ (wd hw 46 rfl) (wd hw 5 rfl) (by decide) (by decide)) q369a q369c (g := (mkF m 227 #[iv p0, iv p1, iv p2, iv p3, iv p4, iv x1, iv x2, iv x3, rv b4, rv b30, rv b69, rv b126, rv b209, rv b322] [(.ref b69), (.ref b322)])) rfl (by rw [hml]; rfl) (Steps.refl _) (argsL := [(.ref b69)]) (rest := []) (lenOf pd_3 rfl) rfl (by show 2 * 0 + _ ≤ _; exact Nat.le_of_eq rfl) (hb hby at_227) (fun _ _ => ⟨rfl, rfl, (by decide : 8 + 0 ≤ _), (by decide : 31 + 0 ≤ _)⟩)
  dsimp only [Pt.U, Pt.locs, Pt.cells, Pt.slots] at X369 l369 y369 z369 st369 hQ369
  replace l369 : (((((((((((((((((((((([] ++ [⟨b4, ((0 : Int32)).toNatClampNeg⟩]) ++ [⟨b4, ((1 : Int32)).toNatClampNeg⟩]) ++ [⟨b4, ((2 : Int32)).toNatClampNeg⟩]) ++ [⟨b4, ((3 : Int32)).toNatClampNeg⟩]) ++ [⟨b30, ((0 : Int32)).toNatClampNeg⟩]) ++ [⟨b30, ((1 : Int32)).toNatClampNeg⟩]) ++ [⟨b30, ((2 : Int32)).toNatClampNeg⟩]) ++ [⟨b30, ((3 : Int32)).toNatClampNeg⟩]) ++ [⟨b69, ((0 : Int32)).toNatClampNeg⟩]) ++ [⟨b69, ((1 : Int32)).toNatClampNeg⟩]) ++ [⟨b69, ((2 : Int32)).toNatClampNeg⟩]) ++ [⟨b69, ((3 : Int32)).toNatClampNeg⟩]) ++ [⟨b126, ((0 : Int32)).toNatClampNeg⟩]) ++ [⟨b126, ((1 : Int32)).toNatClampNeg⟩]) ++ [⟨b126, ((2 : Int32)).toNatClampNeg⟩]) ++ [⟨b126, ((3 : Int32)).toNatClampNeg⟩]) ++ [⟨b209, ((0 : Int32)).toNatClampNeg⟩]) ++ [⟨b209, ((1 : Int32)).toNatClampNeg⟩]) ++ [⟨b209, ((2 : Int32)).toNatClampNeg⟩]) ++ [⟨b209, ((3 : Int32)).toNatClampNeg⟩]) ++ Lc333) ++ Lc369) = L369 := l369.symm
  subst l369 y369 z369
  obtain ⟨rfl, rfl, e369⟩ := hQ369
  simp only [List.append_nil, Nat.add_zero] at X369
  have G369 := gd X369 hx hby
  obtain ⟨_, _, ⟨T370, L370, k370, n370⟩, -, X370, ⟨Lc370, hQ370, l370, y370, z370⟩, st370⟩ := Jvm.LawKit.callS X369 hx (y := (⟨"com/example/oceanus/oceanus/numerics/TolerancesGroupPinLaw", "groupSum", "([I[DI)D"⟩ : MethodName)) hown (mvT hZ (wd hw 47 rfl)) (mvT hZ (wd hw 48 rfl)) (mvT hZ (wd hw 49 rfl)) (mvT hZ (wd hw 50 rfl)) (by decide) (backOf (W := 2) (rm6 l Z a0 hw [] b4 b30 (0 : Int32) T333.heap n0 Z333k (own_rm0_al_hp_hm_242 p0 p1 p2 p3 p4 x1 hx1 x2 hx2 x3 hx3 x11 hx11 x18 hx18 x25 hx25 x33 hx33 x42 hx42 x51 hx51 x60 hx60 hal) f336 f340) hZ (wd hw 50 rfl) (wd hw 49 rfl) (by decide) (by decide)) (g := (mkF m 242 #[iv p0, iv p1, iv p2, iv p3, iv p4, iv x1, iv x2, iv x3, rv b4, rv b30, rv b69, rv b126, rv b209, rv b322] [(.int (0 : Int32)), (.ref b30), (.ref b4), (.double x33)])) rfl (by rw [hml]; rfl) (argsL := [(.ref b4), (.ref b30), (.int (0 : Int32))]) (rest := [(.double x33)]) (lenOf pd_4 rfl) rfl (by show 2 * 0 + _ ≤ _; exact Nat.le_of_eq rfl) (hb hby at_242) (fun _ _ => ⟨rfl, e369, (by decide : 8 + 0 ≤ _), (by decide : 31 + 0 ≤ _)⟩)
  dsimp only [Pt.U, Pt.locs, Pt.cells, Pt.slots] at X370 l370 y370 z370 st370 hQ370
  replace l370 : (((((((((((((((((((((([] ++ [⟨b4, ((0 : Int32)).toNatClampNeg⟩]) ++ [⟨b4, ((1 : Int32)).toNatClampNeg⟩]) ++ [⟨b4, ((2 : Int32)).toNatClampNeg⟩]) ++ [⟨b4, ((3 : Int32)).toNatClampNeg⟩]) ++ [⟨b30, ((0 : Int32)).toNatClampNeg⟩]) ++ [⟨b30, ((1 : Int32)).toNatClampNeg⟩]) ++ [⟨b30, ((2 : Int32)).toNatClampNeg⟩]) ++ [⟨b30, ((3 : Int32)).toNatClampNeg⟩]) ++ [⟨b69, ((0 : Int32)).toNatClampNeg⟩]) ++ [⟨b69, ((1 : Int32)).toNatClampNeg⟩]) ++ [⟨b69, ((2 : Int32)).toNatClampNeg⟩]) ++ [⟨b69, ((3 : Int32)).toNatClampNeg⟩]) ++ [⟨b126, ((0 : Int32)).toNatClampNeg⟩]) ++ [⟨b126, ((1 : Int32)).toNatClampNeg⟩]) ++ [⟨b126, ((2 : Int32)).toNatClampNeg⟩]) ++ [⟨b126, ((3 : Int32)).toNatClampNeg⟩]) ++ [⟨b209, ((0 : Int32)).toNatClampNeg⟩]) ++ [⟨b209, ((1 : Int32)).toNatClampNeg⟩]) ++ [⟨b209, ((2 : Int32)).toNatClampNeg⟩]) ++ [⟨b209, ((3 : Int32)).toNatClampNeg⟩]) ++ Lc333) ++ Lc370) = L370 := l370.symm
  subst l370 y370 z370
  obtain ⟨rfl, rfl, e370⟩ := hQ370
  simp only [List.append_nil, Nat.add_zero] at X370
  have G370 := gd X370 hx hby
  obtain ⟨_, _, ⟨T371, L371, k371, n371⟩, -, X371, ⟨Lc371, hQ371, l371, y371, z371⟩, st371⟩ := Jvm.LawKit.callS X370 hx (y := (⟨"com/example/oceanus/oceanus/numerics/TolerancesGroupPinLaw", "groupSum", "([I[DI)D"⟩ : MethodName)) hown (mvT hZ (wd hw 47 rfl)) (mvT hZ (wd hw 48 rfl)) (mvT hZ (wd hw 49 rfl)) (mvT hZ (wd hw 50 rfl)) (by decide) (backOf (W := 2) (rm6 l Z a0 hw [] b4 b30 x11 T333.heap n0 Z333k (own_rm0_al_hp_hm_261 p0 p1 p2 p3 p4 x1 hx1 x2 hx2 x3 hx3 x11 hx11 x18 hx18 x25 hx25 x33 hx33 x42 hx42 x51 hx51 x60 hx60 hal) f336 f340) hZ (wd hw 50 rfl) (wd hw 49 rfl) (by decide) (by decide)) (g := (mkF m 261 #[iv p0, iv p1, iv p2, iv p3, iv p4, iv x1, iv x2, iv x3, rv b4, rv b30, rv b69, rv b126, rv b209, rv b322] [(.int x11), (.ref b30), (.ref b4), (.double x42)])) rfl (by rw [hml]; rfl) (argsL := [(.ref b4), (.ref b30), (.int x11)]) (rest := [(.double x42)]) (lenOf pd_4 rfl) rfl (by show 2 * 0 + _ ≤ _; exact Nat.le_of_eq rfl) (hb hby at_261) (fun _ _ => ⟨rfl, e370, (by decide : 8 + 0 ≤ _), (by decide : 31 + 0 ≤ _)⟩)
  dsimp only [Pt.U, Pt.locs, Pt.cells, Pt.slots] at X371 l371 y371 z371 st371 hQ371
  replace l371 : (((((((((((((((((((((([] ++ [⟨b4, ((0 : Int32)).toNatClampNeg⟩]) ++ [⟨b4, ((1 : Int32)).toNatClampNeg⟩]) ++ [⟨b4, ((2 : Int32)).toNatClampNeg⟩]) ++ [⟨b4, ((3 : Int32)).toNatClampNeg⟩]) ++ [⟨b30, ((0 : Int32)).toNatClampNeg⟩]) ++ [⟨b30, ((1 : Int32)).toNatClampNeg⟩]) ++ [⟨b30, ((2 : Int32)).toNatClampNeg⟩]) ++ [⟨b30, ((3 : Int32)).toNatClampNeg⟩]) ++ [⟨b69, ((0 : Int32)).toNatClampNeg⟩]) ++ [⟨b69, ((1 : Int32)).toNatClampNeg⟩]) ++ [⟨b69, ((2 : Int32)).toNatClampNeg⟩]) ++ [⟨b69, ((3 : Int32)).toNatClampNeg⟩]) ++ [⟨b126, ((0 : Int32)).toNatClampNeg⟩]) ++ [⟨b126, ((1 : Int32)).toNatClampNeg⟩]) ++ [⟨b126, ((2 : Int32)).toNatClampNeg⟩]) ++ [⟨b126, ((3 : Int32)).toNatClampNeg⟩]) ++ [⟨b209, ((0 : Int32)).toNatClampNeg⟩]) ++ [⟨b209, ((1 : Int32)).toNatClampNeg⟩]) ++ [⟨b209, ((2 : Int32)).toNatClampNeg⟩]) ++ [⟨b209, ((3 : Int32)).toNatClampNeg⟩]) ++ Lc333) ++ Lc371) = L371 := l371.symm
  subst l371 y371 z371
  obtain ⟨rfl, rfl, e371⟩ := hQ371
  simp only [List.append_nil, Nat.add_zero] at X371
  have G371 := gd X371 hx hby
  obtain ⟨_, _, ⟨T372, L372, k372, n372⟩, -, X372, ⟨Lc372, hQ372, l372, y372, z372⟩, st372⟩ := Jvm.LawKit.callS X371 hx (y := (⟨"com/example/oceanus/oceanus/numerics/TolerancesGroupPinLaw", "groupSum", "([I[DI)D"⟩ : MethodName)) hown (mvT hZ (wd hw 47 rfl)) (mvT hZ (wd hw 48 rfl)) (mvT hZ (wd hw 49 rfl)) (mvT hZ (wd hw 50 rfl)) (by decide) (backOf (W := 2) (rm6 l Z a0 hw [] b4 b30 x18 T333.heap n0 Z333k (own_rm0_al_hp_hm_280 p0 p1 p2 p3 p4 x1 hx1 x2 hx2 x3 hx3 x11 hx11 x18 hx18 x25 hx25 x33 hx33 x42 hx42 x51 hx51 x60 hx60 hal) f336 f340) hZ (wd hw 50 rfl) (wd hw 49 rfl) (by decide) (by decide)) (g := (mkF m 280 #[iv p0, iv p1, iv p2, iv p3, iv p4, iv x1, iv x2, iv x3, rv b4, rv b30, rv b69, rv b126, rv b209, rv b322] [(.int x18), (.ref b30), (.ref b4), (.double x51)])) rfl (by rw [hml]; rfl) (argsL := [(.ref b4), (.ref b30), (.int x18)]) (rest := [(.double x51)]) (lenOf pd_4 rfl) rfl (by show 2 * 0 + _ ≤ _; exact Nat.le_of_eq rfl) (hb hby at_280) (fun _ _ => ⟨rfl, e371, (by decide : 8 + 0 ≤ _), (by decide : 31 + 0 ≤ _)⟩)
  dsimp only [Pt.U, Pt.locs, Pt.cells, Pt.slots] at X372 l372 y372 z372 st372 hQ372
  replace l372 : (((((((((((((((((((((([] ++ [⟨b4, ((0 : Int32)).toNatClampNeg⟩]) ++ [⟨b4, ((1 : Int32)).toNatClampNeg⟩]) ++ [⟨b4, ((2 : Int32)).toNatClampNeg⟩]) ++ [⟨b4, ((3 : Int32)).toNatClampNeg⟩]) ++ [⟨b30, ((0 : Int32)).toNatClampNeg⟩]) ++ [⟨b30, ((1 : Int32)).toNatClampNeg⟩]) ++ [⟨b30, ((2 : Int32)).toNatClampNeg⟩]) ++ [⟨b30, ((3 : Int32)).toNatClampNeg⟩]) ++ [⟨b69, ((0 : Int32)).toNatClampNeg⟩]) ++ [⟨b69, ((1 : Int32)).toNatClampNeg⟩]) ++ [⟨b69, ((2 : Int32)).toNatClampNeg⟩]) ++ [⟨b69, ((3 : Int32)).toNatClampNeg⟩]) ++ [⟨b126, ((0 : Int32)).toNatClampNeg⟩]) ++ [⟨b126, ((1 : Int32)).toNatClampNeg⟩]) ++ [⟨b126, ((2 : Int32)).toNatClampNeg⟩]) ++ [⟨b126, ((3 : Int32)).toNatClampNeg⟩]) ++ [⟨b209, ((0 : Int32)).toNatClampNeg⟩]) ++ [⟨b209, ((1 : Int32)).toNatClampNeg⟩]) ++ [⟨b209, ((2 : Int32)).toNatClampNeg⟩]) ++ [⟨b209, ((3 : Int32)).toNatClampNeg⟩]) ++ Lc333) ++ Lc372) = L372 := l372.symm
  subst l372 y372 z372
  obtain ⟨rfl, rfl, e372⟩ := hQ372
  simp only [List.append_nil, Nat.add_zero] at X372
  have G372 := gd X372 hx hby
  obtain ⟨_, _, ⟨T373, L373, k373, n373⟩, -, X373, ⟨Lc373, hQ373, l373, y373, z373⟩, st373⟩ := Jvm.LawKit.callS X372 hx (y := (⟨"com/example/oceanus/oceanus/numerics/TolerancesGroupPinLaw", "groupSum", "([I[DI)D"⟩ : MethodName)) hown (mvT hZ (wd hw 47 rfl)) (mvT hZ (wd hw 48 rfl)) (mvT hZ (wd hw 49 rfl)) (mvT hZ (wd hw 50 rfl)) (by decide) (backOf (W := 2) (rm6 l Z a0 hw [] b4 b30 x25 T333.heap n0 Z333k (own_rm0_al_hp_hm_299 p0 p1 p2 p3 p4 x1 hx1 x2 hx2 x3 hx3 x11 hx11 x18 hx18 x25 hx25 x33 hx33 x42 hx42 x51 hx51 x60 hx60 hal) f336 f340) hZ (wd hw 50 rfl) (wd hw 49 rfl) (by decide) (by decide)) (g := (mkF m 299 #[iv p0, iv p1, iv p2, iv p3, iv p4, iv x1, iv x2, iv x3, rv b4, rv b30, rv b69, rv b126, rv b209, rv b322] [(.int x25), (.ref b30), (.ref b4), (.double x60)])) rfl (by rw [hml]; rfl) (argsL := [(.ref b4), (.ref b30), (.int x25)]) (rest := [(.double x60)]) (lenOf pd_4 rfl) rfl (by show 2 * 0 + _ ≤ _; exact Nat.le_of_eq rfl) (hb hby at_299) (fun _ _ => ⟨rfl, e372, (by decide : 8 + 0 ≤ _), (by decide : 31 + 0 ≤ _)⟩)
  dsimp only [Pt.U, Pt.locs, Pt.cells, Pt.slots] at X373 l373 y373 z373 st373 hQ373
  replace l373 : (((((((((((((((((((((([] ++ [⟨b4, ((0 : Int32)).toNatClampNeg⟩]) ++ [⟨b4, ((1 : Int32)).toNatClampNeg⟩]) ++ [⟨b4, ((2 : Int32)).toNatClampNeg⟩]) ++ [⟨b4, ((3 : Int32)).toNatClampNeg⟩]) ++ [⟨b30, ((0 : Int32)).toNatClampNeg⟩]) ++ [⟨b30, ((1 : Int32)).toNatClampNeg⟩]) ++ [⟨b30, ((2 : Int32)).toNatClampNeg⟩]) ++ [⟨b30, ((3 : Int32)).toNatClampNeg⟩]) ++ [⟨b69, ((0 : Int32)).toNatClampNeg⟩]) ++ [⟨b69, ((1 : Int32)).toNatClampNeg⟩]) ++ [⟨b69, ((2 : Int32)).toNatClampNeg⟩]) ++ [⟨b69, ((3 : Int32)).toNatClampNeg⟩]) ++ [⟨b126, ((0 : Int32)).toNatClampNeg⟩]) ++ [⟨b126, ((1 : Int32)).toNatClampNeg⟩]) ++ [⟨b126, ((2 : Int32)).toNatClampNeg⟩]) ++ [⟨b126, ((3 : Int32)).toNatClampNeg⟩]) ++ [⟨b209, ((0 : Int32)).toNatClampNeg⟩]) ++ [⟨b209, ((1 : Int32)).toNatClampNeg⟩]) ++ [⟨b209, ((2 : Int32)).toNatClampNeg⟩]) ++ [⟨b209, ((3 : Int32)).toNatClampNeg⟩]) ++ Lc333) ++ Lc373) = L373 := l373.symm
  subst l373 y373 z373
  obtain ⟨rfl, rfl, e373⟩ := hQ373
  simp only [List.append_nil, Nat.add_zero] at X373
  have G373 := gd X373 hx hby
  obtain ⟨fs, hr, hrun, hended, hW, hsame⟩ := X373.leave (v := some (.int (1 : Int32))) (fun h => by rw [Bd.returns] at h; cases h)
  refine ⟨_, _, pre0 _ ?_, hrun, hended, _, _, rfl, ?_, ⟨_, rfl⟩, hW, hsame.mono (by decide) (by decide)⟩
  · show Steps p.tables e below (s₁.setTop (mkF m 0 #[iv p0, iv p1, iv p2, iv p3, iv p4, .unset, .unset, .unset, .unset, .unset, .unset, .unset, .unset, .unset] [])) _
    refine miloadN 1 G0 at_0 rfl rfl ?_
    refine miconst 2 G0 at_1 (v := (1 : Int32)) rfl rfl ?_
    refine miand 3 G0 at_2 rfl rfl ?_
    refine castTop (g' := (mkF m 3 #[iv p0, iv p1, iv p2, iv p3, iv p4, .unset, .unset, .unset, .unset, .unset, .unset, .unset, .unset, .unset] [(.int x1)])) (by rw [hx1]) ?_
    refine mistore 5 G0 at_3 #[iv p0, iv p1, iv p2, iv p3, iv p4, iv x1, .unset, .unset, .unset, .unset, .unset, .unset, .unset, .unset] rfl rfl ?_
    refine miloadN 6 G0 at_5 rfl rfl ?_
    refine miconst 7 G0 at_6 (v := (1 : Int32)) rfl rfl ?_
    refine miushr 8 G0 at_7 rfl rfl ?_
    refine miconst 9 G0 at_8 (v := (3 : Int32)) rfl rfl ?_
    refine miand 10 G0 at_9 rfl rfl ?_
    refine miconst 11 G0 at_10 (v := (3 : Int32)) rfl rfl ?_
    refine mirem 12 G0 at_11 (by decide) (irem_eq_mod _ _) rfl ?_
    refine castTop (g' := (mkF m 12 #[iv p0, iv p1, iv p2, iv p3, iv p4, iv x1, .unset, .unset, .unset, .unset, .unset, .unset, .unset, .unset] [(.int x2)])) (by rw [hx2]) ?_
    refine mistore 14 G0 at_12 #[iv p0, iv p1, iv p2, iv p3, iv p4, iv x1, iv x2, .unset, .unset, .unset, .unset, .unset, .unset, .unset] rfl rfl ?_
    refine miloadN 15 G0 at_14 rfl rfl ?_
    refine miconst 16 G0 at_15 (v := (3 : Int32)) rfl rfl ?_
    refine miushr 17 G0 at_16 rfl rfl ?_
    refine miconst 18 G0 at_17 (v := (3 : Int32)) rfl rfl ?_
    refine miand 19 G0 at_18 rfl rfl ?_
    refine castTop (g' := (mkF m 19 #[iv p0, iv p1, iv p2, iv p3, iv p4, iv x1, iv x2, .unset, .unset, .unset, .unset, .unset, .unset, .unset] [(.int x3)])) (by rw [hx3]) ?_
    refine mistore 21 G0 at_19 #[iv p0, iv p1, iv p2, iv p3, iv p4, iv x1, iv x2, iv x3, .unset, .unset, .unset, .unset, .unset, .unset] rfl rfl ?_
    refine miconst 22 G0 at_21 (v := (4 : Int32)) rfl rfl ?_
    refine st4 _ ?_
    show Steps p.tables e below (T4.setTop (mkF m 24 #[iv p0, iv p1, iv p2, iv p3, iv p4, iv x1, iv x2, iv x3, .unset, .unset, .unset, .unset, .unset, .unset] [(.ref b4)])) _
    refine mastore 26 G4 at_24 rfl #[iv p0, iv p1, iv p2, iv p3, iv p4, iv x1, iv x2, iv x3, rv b4, .unset, .unset, .unset, .unset, .unset] rfl rfl ?_
    refine maload 28 G4 at_26 rfl rfl rfl ?_
    refine miconst 29 G4 at_28 (v := (0 : Int32)) rfl rfl ?_
    refine miconst 30 G4 at_29 (v := (0 : Int32)) rfl rfl ?_
    refine st5 _ ?_
    refine maload 33 G5 at_31 rfl rfl rfl ?_
    refine miconst 34 G5 at_33 (v := (1 : Int32)) rfl rfl ?_
    refine miload 36 G5 at_34 rfl rfl ?_
    refine miconst 37 G5 at_36 (v := (1 : Int32)) rfl rfl ?_
    refine st10 _ ?_
    refine st12 _ ?_
    refine maload 51 G12 at_49 rfl rfl rfl ?_
    refine miconst 52 G12 at_51 (v := (2 : Int32)) rfl rfl ?_
    refine miload 54 G12 at_52 rfl rfl ?_
    refine miconst 55 G12 at_54 (v := (2 : Int32)) rfl rfl ?_
    refine st17 _ ?_
    refine st19 _ ?_
    refine maload 70 G19 at_68 rfl rfl rfl ?_
    refine miconst 71 G19 at_70 (v := (3 : Int32)) rfl rfl ?_
    refine miload 73 G19 at_71 rfl rfl ?_
    refine miconst 74 G19 at_73 (v := (3 : Int32)) rfl rfl ?_
    refine st24 _ ?_
    refine st26 _ ?_
    refine miconst 88 G26 at_87 (v := (4 : Int32)) rfl rfl ?_
    refine st30 _ ?_
    show Steps p.tables e below (T30.setTop (mkF m 90 #[iv p0, iv p1, iv p2, iv p3, iv p4, iv x1, iv x2, iv x3, rv b4, .unset, .unset, .unset, .unset, .unset] [(.ref b30)])) _
    refine mastore 92 G30 at_90 rfl #[iv p0, iv p1, iv p2, iv p3, iv p4, iv x1, iv x2, iv x3, rv b4, rv b30, .unset, .unset, .unset, .unset] rfl rfl ?_
    refine maload 94 G30 at_92 rfl rfl rfl ?_
    refine miconst 95 G30 at_94 (v := (0 : Int32)) rfl rfl ?_
    refine miloadN 96 G30 at_95 rfl rfl ?_
    refine X30.ldcInt hx hown (mvT hZ (wd hw 2 rfl)) (g := (mkF m 96 #[iv p0, iv p1, iv p2, iv p3, iv p4, iv x1, iv x2, iv x3, rv b4, rv b30, .unset, .unset, .unset, .unset] [(.int p1), (.int (0 : Int32)), (.ref b30)])) rfl (hb hby at_96) _ ?_
    show Steps p.tables e below (T30.setTop (mkF m 98 #[iv p0, iv p1, iv p2, iv p3, iv p4, iv x1, iv x2, iv x3, rv b4, rv b30, .unset, .unset, .unset, .unset] [(.int (1048575 : Int32)), (.int p1), (.int (0 : Int32)), (.ref b30)])) _
    refine miand 99 G30 at_98 rfl rfl ?_
    refine mi2d 100 G30 at_99 rfl ?_
    refine castTop (g' := (mkF m 100 #[iv p0, iv p1, iv p2, iv p3, iv p4, iv x1, iv x2, iv x3, rv b4, rv b30, .unset, .unset, .unset, .unset] [(.double x33), (.int (0 : Int32)), (.ref b30)])) (by rw [hx33]) ?_
    refine st34 _ ?_
    refine maload 103 G34 at_101 rfl rfl rfl ?_
    refine miconst 104 G34 at_103 (v := (1 : Int32)) rfl rfl ?_
    refine miloadN 105 G34 at_104 rfl rfl ?_
    refine X34.ldcInt hx hown (mvT hZ (wd hw 2 rfl)) (g := (mkF m 105 #[iv p0, iv p1, iv p2, iv p3, iv p4, iv x1, iv x2, iv x3, rv b4, rv b30, .unset, .unset, .unset, .unset] [(.int p2), (.int (1 : Int32)), (.ref b30)])) rfl (hb hby at_105) _ ?_
    show Steps p.tables e below (T34.setTop (mkF m 107 #[iv p0, iv p1, iv p2, iv p3, iv p4, iv x1, iv x2, iv x3, rv b4, rv b30, .unset, .unset, .unset, .unset] [(.int (1048575 : Int32)), (.int p2), (.int (1 : Int32)), (.ref b30)])) _
    refine miand 108 G34 at_107 rfl rfl ?_
    refine mi2d 109 G34 at_108 rfl ?_
    refine castTop (g' := (mkF m 109 #[iv p0, iv p1, iv p2, iv p3, iv p4, iv x1, iv x2, iv x3, rv b4, rv b30, .unset, .unset, .unset, .unset] [(.double x42), (.int (1 : Int32)), (.ref b30)])) (by rw [hx42]) ?_
    refine st43 _ ?_
    refine maload 112 G43 at_110 rfl rfl rfl ?_
    refine miconst 113 G43 at_112 (v := (2 : Int32)) rfl rfl ?_
    refine miloadN 114 G43 at_113 rfl rfl ?_
    refine X43.ldcInt hx hown (mvT hZ (wd hw 2 rfl)) (g := (mkF m 114 #[iv p0, iv p1, iv p2, iv p3, iv p4, iv x1, iv x2, iv x3, rv b4, rv b30, .unset, .unset, .unset, .unset] [(.int p3), (.int (2 : Int32)), (.ref b30)])) rfl (hb hby at_114) _ ?_
    show Steps p.tables e below (T43.setTop (mkF m 116 #[iv p0, iv p1, iv p2, iv p3, iv p4, iv x1, iv x2, iv x3, rv b4, rv b30, .unset, .unset, .unset, .unset] [(.int (1048575 : Int32)), (.int p3), (.int (2 : Int32)), (.ref b30)])) _
    refine miand 117 G43 at_116 rfl rfl ?_
    refine mi2d 118 G43 at_117 rfl ?_
    refine castTop (g' := (mkF m 118 #[iv p0, iv p1, iv p2, iv p3, iv p4, iv x1, iv x2, iv x3, rv b4, rv b30, .unset, .unset, .unset, .unset] [(.double x51), (.int (2 : Int32)), (.ref b30)])) (by rw [hx51]) ?_
    refine st52 _ ?_
    refine maload 121 G52 at_119 rfl rfl rfl ?_
    refine miconst 122 G52 at_121 (v := (3 : Int32)) rfl rfl ?_
    refine miload 124 G52 at_122 rfl rfl ?_
    refine X52.ldcInt hx hown (mvT hZ (wd hw 2 rfl)) (g := (mkF m 124 #[iv p0, iv p1, iv p2, iv p3, iv p4, iv x1, iv x2, iv x3, rv b4, rv b30, .unset, .unset, .unset, .unset] [(.int p4), (.int (3 : Int32)), (.ref b30)])) rfl (hb hby at_124) _ ?_
    show Steps p.tables e below (T52.setTop (mkF m 126 #[iv p0, iv p1, iv p2, iv p3, iv p4, iv x1, iv x2, iv x3, rv b4, rv b30, .unset, .unset, .unset, .unset] [(.int (1048575 : Int32)), (.int p4), (.int (3 : Int32)), (.ref b30)])) _
    refine miand 127 G52 at_126 rfl rfl ?_
    refine mi2d 128 G52 at_127 rfl ?_
    refine castTop (g' := (mkF m 128 #[iv p0, iv p1, iv p2, iv p3, iv p4, iv x1, iv x2, iv x3, rv b4, rv b30, .unset, .unset, .unset, .unset] [(.double x60), (.int (3 : Int32)), (.ref b30)])) (by rw [hx60]) ?_
    refine st61 _ ?_
    refine miconst 130 G61 at_129 (v := (4 : Int32)) rfl rfl ?_
    refine st69 _ ?_
    show Steps p.tables e below (T69.setTop (mkF m 132 #[iv p0, iv p1, iv p2, iv p3, iv p4, iv x1, iv x2, iv x3, rv b4, rv b30, .unset, .unset, .unset, .unset] [(.ref b69)])) _
    refine mastore 134 G69 at_132 rfl #[iv p0, iv p1, iv p2, iv p3, iv p4, iv x1, iv x2, iv x3, rv b4, rv b30, rv b69, .unset, .unset, .unset] rfl rfl ?_
    refine maload 136 G69 at_134 rfl rfl rfl ?_
    refine miconst 137 G69 at_136 (v := (0 : Int32)) rfl rfl ?_
    refine maload 139 G69 at_137 rfl rfl rfl ?_
    refine miconst 140 G69 at_139 (v := (0 : Int32)) rfl rfl ?_
    refine mdaload 141 X69 hx hby hZ e69 f73 (v := x33) at_140 ⟨by decide, by decide⟩ rfl rfl ?_
    refine st74 _ ?_
    refine maload 144 G74 at_142 rfl rfl rfl ?_
    refine miconst 145 G74 at_144 (v := (1 : Int32)) rfl rfl ?_
    refine maload 147 G74 at_145 rfl rfl rfl ?_
    refine miconst 148 G74 at_147 (v := (1 : Int32)) rfl rfl ?_
    refine mdaload 149 X74 hx hby hZ e74 f81 (v := x42) at_148 ⟨by decide, by decide⟩ rfl rfl ?_
    refine st87 _ ?_
    refine maload 152 G87 at_150 rfl rfl rfl ?_
    refine miconst 153 G87 at_152 (v := (2 : Int32)) rfl rfl ?_
    refine maload 155 G87 at_153 rfl rfl rfl ?_
    refine miconst 156 G87 at_155 (v := (2 : Int32)) rfl rfl ?_
    refine mdaload 157 X87 hx hby hZ e87 f94 (v := x51) at_156 ⟨by decide, by decide⟩ rfl rfl ?_
    refine st100 _ ?_
    refine maload 160 G100 at_158 rfl rfl rfl ?_
    refine miconst 161 G100 at_160 (v := (3 : Int32)) rfl rfl ?_
    refine maload 163 G100 at_161 rfl rfl rfl ?_
    refine miconst 164 G100 at_163 (v := (3 : Int32)) rfl rfl ?_
    refine mdaload 165 X100 hx hby hZ e100 f107 (v := x60) at_164 ⟨by decide, by decide⟩ rfl rfl ?_
    refine st113 _ ?_
    refine miconst 167 G113 at_166 (v := (4 : Int32)) rfl rfl ?_
    refine st126 _ ?_
    show Steps p.tables e below (T126.setTop (mkF m 169 #[iv p0, iv p1, iv p2, iv p3, iv p4, iv x1, iv x2, iv x3, rv b4, rv b30, rv b69, .unset, .unset, .unset] [(.ref b126)])) _
    refine mdup 170 G126 at_169 rfl rfl ?_
    refine miconst 171 G126 at_170 (v := (0 : Int32)) rfl rfl ?_
    refine mdconst1 172 G126 at_171 (v := (4607182418800017408 : UInt64)) rfl rfl ?_
    refine st133 _ ?_
    refine mdup 174 G133 at_173 rfl rfl ?_
    refine miconst 175 G133 at_174 (v := (1 : Int32)) rfl rfl ?_
    refine mdconst1 176 G133 at_175 (v := (4607182418800017408 : UInt64)) rfl rfl ?_
    refine st152 _ ?_
    refine mdup 178 G152 at_177 rfl rfl ?_
    refine miconst 179 G152 at_178 (v := (2 : Int32)) rfl rfl ?_
    refine mdconst1 180 G152 at_179 (v := (4607182418800017408 : UInt64)) rfl rfl ?_
    refine st171 _ ?_
    refine mdup 182 G171 at_181 rfl rfl ?_
    refine miconst 183 G171 at_182 (v := (3 : Int32)) rfl rfl ?_
    refine mdconst1 184 G171 at_183 (v := (4607182418800017408 : UInt64)) rfl rfl ?_
    refine st190 _ ?_
    refine mastore 187 G190 at_185 rfl #[iv p0, iv p1, iv p2, iv p3, iv p4, iv x1, iv x2, iv x3, rv b4, rv b30, rv b69, rv b126, .unset, .unset] rfl rfl ?_
    refine miconst 188 G190 at_187 (v := (4 : Int32)) rfl rfl ?_
    refine st209 _ ?_
    show Steps p.tables e below (T209.setTop (mkF m 190 #[iv p0, iv p1, iv p2, iv p3, iv p4, iv x1, iv x2, iv x3, rv b4, rv b30, rv b69, rv b126, .unset, .unset] [(.ref b209)])) _
    refine mdup 191 G209 at_190 rfl rfl ?_
    refine miconst 192 G209 at_191 (v := (0 : Int32)) rfl rfl ?_
    refine mdconst1 193 G209 at_192 (v := (4607182418800017408 : UInt64)) rfl rfl ?_
    refine st218 _ ?_
    refine mdup 195 G218 at_194 rfl rfl ?_
    refine miconst 196 G218 at_195 (v := (1 : Int32)) rfl rfl ?_
    refine mdconst1 197 G218 at_196 (v := (4607182418800017408 : UInt64)) rfl rfl ?_
    refine st244 _ ?_
    refine mdup 199 G244 at_198 rfl rfl ?_
    refine miconst 200 G244 at_199 (v := (2 : Int32)) rfl rfl ?_
    refine mdconst1 201 G244 at_200 (v := (4607182418800017408 : UInt64)) rfl rfl ?_
    refine st270 _ ?_
    refine mdup 203 G270 at_202 rfl rfl ?_
    refine miconst 204 G270 at_203 (v := (3 : Int32)) rfl rfl ?_
    refine mdconst1 205 G270 at_204 (v := (4607182418800017408 : UInt64)) rfl rfl ?_
    refine st296 _ ?_
    refine mastore 208 G296 at_206 rfl #[iv p0, iv p1, iv p2, iv p3, iv p4, iv x1, iv x2, iv x3, rv b4, rv b30, rv b69, rv b126, rv b209, .unset] rfl rfl ?_
    refine st322 _ ?_
    show Steps p.tables e below (T322.setTop (mkF m 211 #[iv p0, iv p1, iv p2, iv p3, iv p4, iv x1, iv x2, iv x3, rv b4, rv b30, rv b69, rv b126, rv b209, .unset] [(.ref b322)])) _
    refine mdup 212 G322 at_211 rfl rfl ?_
    refine maload 214 G322 at_212 rfl rfl rfl ?_
    refine maload 216 G322 at_214 rfl rfl rfl ?_
    refine maload 218 G322 at_216 rfl rfl rfl ?_
    refine st333.trans ?_
    show Steps p.tables e below (T333.setTop (mkF m 221 #[iv p0, iv p1, iv p2, iv p3, iv p4, iv x1, iv x2, iv x3, rv b4, rv b30, rv b69, rv b126, rv b209, .unset] [(.ref b322)])) _
    refine mastore 223 G333 at_221 rfl #[iv p0, iv p1, iv p2, iv p3, iv p4, iv x1, iv x2, iv x3, rv b4, rv b30, rv b69, rv b126, rv b209, rv b322] rfl rfl ?_
    refine maload 225 G333 at_223 rfl rfl rfl ?_
    refine maload 227 G333 at_225 rfl rfl rfl ?_
    refine st369.trans ?_
    show Steps p.tables e below (T369.setTop (mkF m 230 #[iv p0, iv p1, iv p2, iv p3, iv p4, iv x1, iv x2, iv x3, rv b4, rv b30, rv b69, rv b126, rv b209, rv b322] [])) _
    refine maload 232 G369 at_230 rfl rfl rfl ?_
    refine miconst 233 G369 at_232 (v := (0 : Int32)) rfl rfl ?_
    refine mdaload 234 X369 hx hby hZ e369 f345 (v := x33) at_233 ⟨by decide, by decide⟩ rfl rfl ?_
    refine maload 236 G369 at_234 rfl rfl rfl ?_
    refine maload 238 G369 at_236 rfl rfl rfl ?_
    refine maload 240 G369 at_238 rfl rfl rfl ?_
    refine miconst 241 G369 at_240 (v := (0 : Int32)) rfl rfl ?_
    refine miaload 242 X369 hx hby hZ e369 f336 (v := (0 : Int32)) at_241 ⟨by decide, by decide⟩ rfl rfl ?_
    refine st370 _ ?_
    show Steps p.tables e below (T370.setTop (mkF m 245 #[iv p0, iv p1, iv p2, iv p3, iv p4, iv x1, iv x2, iv x3, rv b4, rv b30, rv b69, rv b126, rv b209, rv b322] [(.double (rv6 (0 : Int32) x33 x42 x51 x60 (0 : Int32) x11 x18 x25)), (.double x33)])) _
    refine mdcmp 246 G370 at_245 rfl ?_
    refine mifNo 249 G370 at_246 ((if0 _ _).trans (teq (own_rm0_al_fc246 p0 p1 p2 p3 p4 x1 hx1 x2 hx2 x3 hx3 x11 hx11 x18 hx18 x25 hx25 x33 hx33 x42 hx42 x51 hx51 x60 hx60 hal)).2) rfl ?_
    refine maload 251 G370 at_249 rfl rfl rfl ?_
    refine miconst 252 G370 at_251 (v := (1 : Int32)) rfl rfl ?_
    refine mdaload 253 X370 hx hby hZ e370 f345 (v := x42) at_252 ⟨by decide, by decide⟩ rfl rfl ?_
    refine maload 255 G370 at_253 rfl rfl rfl ?_
    refine maload 257 G370 at_255 rfl rfl rfl ?_
    refine maload 259 G370 at_257 rfl rfl rfl ?_
    refine miconst 260 G370 at_259 (v := (1 : Int32)) rfl rfl ?_
    refine miaload 261 X370 hx hby hZ e370 f336 (v := x11) at_260 ⟨by decide, by decide⟩ rfl rfl ?_
    refine st371 _ ?_
    show Steps p.tables e below (T371.setTop (mkF m 264 #[iv p0, iv p1, iv p2, iv p3, iv p4, iv x1, iv x2, iv x3, rv b4, rv b30, rv b69, rv b126, rv b209, rv b322] [(.double (rv6 x11 x33 x42 x51 x60 (0 : Int32) x11 x18 x25)), (.double x42)])) _
    refine mdcmp 265 G371 at_264 rfl ?_
    refine mifNo 268 G371 at_265 ((if0 _ _).trans (teq (own_rm0_al_fc265 p0 p1 p2 p3 p4 x1 hx1 x2 hx2 x3 hx3 x11 hx11 x18 hx18 x25 hx25 x33 hx33 x42 hx42 x51 hx51 x60 hx60 hal)).2) rfl ?_
    refine maload 270 G371 at_268 rfl rfl rfl ?_
    refine miconst 271 G371 at_270 (v := (2 : Int32)) rfl rfl ?_
    refine mdaload 272 X371 hx hby hZ e371 f345 (v := x51) at_271 ⟨by decide, by decide⟩ rfl rfl ?_
    refine maload 274 G371 at_272 rfl rfl rfl ?_
    refine maload 276 G371 at_274 rfl rfl rfl ?_
    refine maload 278 G371 at_276 rfl rfl rfl ?_
    refine miconst 279 G371 at_278 (v := (2 : Int32)) rfl rfl ?_
    refine miaload 280 X371 hx hby hZ e371 f336 (v := x18) at_279 ⟨by decide, by decide⟩ rfl rfl ?_
    refine st372 _ ?_
    show Steps p.tables e below (T372.setTop (mkF m 283 #[iv p0, iv p1, iv p2, iv p3, iv p4, iv x1, iv x2, iv x3, rv b4, rv b30, rv b69, rv b126, rv b209, rv b322] [(.double (rv6 x18 x33 x42 x51 x60 (0 : Int32) x11 x18 x25)), (.double x51)])) _
    refine mdcmp 284 G372 at_283 rfl ?_
    refine mifNo 287 G372 at_284 ((if0 _ _).trans (teq (own_rm0_al_fc284 p0 p1 p2 p3 p4 x1 hx1 x2 hx2 x3 hx3 x11 hx11 x18 hx18 x25 hx25 x33 hx33 x42 hx42 x51 hx51 x60 hx60 hal)).2) rfl ?_
    refine maload 289 G372 at_287 rfl rfl rfl ?_
    refine miconst 290 G372 at_289 (v := (3 : Int32)) rfl rfl ?_
    refine mdaload 291 X372 hx hby hZ e372 f345 (v := x60) at_290 ⟨by decide, by decide⟩ rfl rfl ?_
    refine maload 293 G372 at_291 rfl rfl rfl ?_
    refine maload 295 G372 at_293 rfl rfl rfl ?_
    refine maload 297 G372 at_295 rfl rfl rfl ?_
    refine miconst 298 G372 at_297 (v := (3 : Int32)) rfl rfl ?_
    refine miaload 299 X372 hx hby hZ e372 f336 (v := x25) at_298 ⟨by decide, by decide⟩ rfl rfl ?_
    refine st373 _ ?_
    show Steps p.tables e below (T373.setTop (mkF m 302 #[iv p0, iv p1, iv p2, iv p3, iv p4, iv x1, iv x2, iv x3, rv b4, rv b30, rv b69, rv b126, rv b209, rv b322] [(.double (rv6 x25 x33 x42 x51 x60 (0 : Int32) x11 x18 x25)), (.double x60)])) _
    refine mdcmp 303 G373 at_302 rfl ?_
    refine mifNo 306 G373 at_303 ((if0 _ _).trans (teq (own_rm0_al_fc303 p0 p1 p2 p3 p4 x1 hx1 x2 hx2 x3 hx3 x11 hx11 x18 hx18 x25 hx25 x33 hx33 x42 hx42 x51 hx51 x60 hx60 hal)).2) rfl ?_
    refine miconst 307 G373 at_306 (v := (1 : Int32)) rfl rfl ?_
    refine mgoto 311 G373 at_307 (by decide) rfl ?_
    exact retN X373 hx (t := .boolean) Bd.returns (by simp) (hb hby at_311) hr
  · show Q0 Z p0 p1 p2 p3 p4 h0 n0 _ T373.heap _
    rw [e373]
    exact ⟨rfl, N333⟩
theorem ef0_not (m : MethodId) (p0 : Int32) (p1 : Int32) (p2 : Int32) (p3 : Int32) (p4 : Int32) : entryFrame m #[(.int p0), (.int p1), (.int p2), (.int p3), (.int p4)] maxLocals = mkF m 0 #[iv p0, iv p1, iv p2, iv p3, iv p4, .unset, .unset, .unset, .unset, .unset, .unset, .unset, .unset, .unset] [] := by first | (simp [entryFrame, mkF, argsToLocals, Value.category, maxLocals]; done) | rfl
theorem own_rm0_not_hin66 (p0 : Int32) (p1 : Int32) (p2 : Int32) (p3 : Int32) (p4 : Int32) (x1 : Int32) (hx1 : x1 = (p0 &&& (1 : Int32))) (x2 : Int32) (hx2 : x2 = ((((p0.toUInt32 >>> ((1 : Int32) &&& 31).toUInt32).toInt32) &&& (3 : Int32)) % (3 : Int32))) (x3 : Int32) (hx3 : x3 = (((p0.toUInt32 >>> ((3 : Int32) &&& 31).toUInt32).toInt32) &&& (3 : Int32))) (x11 : Int32) (hx11 : x11 = (if x1 = (1 : Int32) then (1 : Int32) else (0 : Int32))) (hc55_16 : (¬ (x2 = (2 : Int32)))) (hal : ¬ own_alp p0) : ¬ x2 < 0 ∧ x2 < (4 : Int32) := by
  obtain ⟨C1, C2, C3⟩ := own_cs hx1 hx2 hx3
  rcases C2 with h | h | h <;> rw [h] <;> decide
theorem own_rm0_not_hin85 (p0 : Int32) (p1 : Int32) (p2 : Int32) (p3 : Int32) (p4 : Int32) (x1 : Int32) (hx1 : x1 = (p0 &&& (1 : Int32))) (x2 : Int32) (hx2 : x2 = ((((p0.toUInt32 >>> ((1 : Int32) &&& 31).toUInt32).toInt32) &&& (3 : Int32)) % (3 : Int32))) (x3 : Int32) (hx3 : x3 = (((p0.toUInt32 >>> ((3 : Int32) &&& 31).toUInt32).toInt32) &&& (3 : Int32))) (x11 : Int32) (hx11 : x11 = (if x1 = (1 : Int32) then (1 : Int32) else (0 : Int32))) (x18 : Int32) (hx18 : x18 = (if x2 = (2 : Int32) then (2 : Int32) else (([(0 : Int32), x11, (0 : Int32), (0 : Int32)] : List Int32).getD x2.toNatClampNeg (0 : Int32)))) (hc74_23 : (¬ (x3 = (3 : Int32)))) (hal : ¬ own_alp p0) : ¬ x3 < 0 ∧ x3 < (4 : Int32) := by
  obtain ⟨C1, C2, C3⟩ := own_cs hx1 hx2 hx3
  rcases C3 with h | h | h | h <;> rw [h] <;> decide
theorem own_rm0_not_hp_hok_218 (p0 : Int32) (p1 : Int32) (p2 : Int32) (p3 : Int32) (p4 : Int32) (x1 : Int32) (hx1 : x1 = (p0 &&& (1 : Int32))) (x2 : Int32) (hx2 : x2 = ((((p0.toUInt32 >>> ((1 : Int32) &&& 31).toUInt32).toInt32) &&& (3 : Int32)) % (3 : Int32))) (x3 : Int32) (hx3 : x3 = (((p0.toUInt32 >>> ((3 : Int32) &&& 31).toUInt32).toInt32) &&& (3 : Int32))) (x11 : Int32) (hx11 : x11 = (if x1 = (1 : Int32) then (1 : Int32) else (0 : Int32))) (x18 : Int32) (hx18 : x18 = (if x2 = (2 : Int32) then (2 : Int32) else (([(0 : Int32), x11, (0 : Int32), (0 : Int32)] : List Int32).getD x2.toNatClampNeg (0 : Int32)))) (x25 : Int32) (hx25 : x25 = (if x3 = (3 : Int32) then (3 : Int32) else (([(0 : Int32), x11, x18, (0 : Int32)] : List Int32).getD x3.toNatClampNeg (0 : Int32)))) (x33 : UInt64) (hx33 : x33 = (FP.i2d (p1 &&& (1048575 : Int32)))) (x42 : UInt64) (hx42 : x42 = (FP.i2d (p2 &&& (1048575 : Int32)))) (x51 : UInt64) (hx51 : x51 = (FP.i2d (p3 &&& (1048575 : Int32)))) (x60 : UInt64) (hx60 : x60 = (FP.i2d (p4 &&& (1048575 : Int32)))) (hal : ¬ own_alp p0) : own_ok (0 : Int32) x11 x18 x25 := by
  rcases own_np hx1 hx2 hx3 hx11 hx18 hx25 hal with ⟨h1, h2, h3⟩ | ⟨h1, h2, h3⟩ | ⟨h1, h2, h3⟩ | ⟨h1, h2, h3⟩ | ⟨h1, h2, h3⟩ | ⟨h1, h2, h3⟩ | ⟨h1, h2, h3⟩ | ⟨h1, h2, h3⟩ | ⟨h1, h2, h3⟩ | ⟨h1, h2, h3⟩ | ⟨h1, h2, h3⟩ | ⟨h1, h2, h3⟩ | ⟨h1, h2, h3⟩ | ⟨h1, h2, h3⟩ <;> rw [h1, h2, h3] <;> unfold own_ok own_P <;> decide
theorem own_rm0_not_hp_hal_218 (p0 : Int32) (p1 : Int32) (p2 : Int32) (p3 : Int32) (p4 : Int32) (x1 : Int32) (hx1 : x1 = (p0 &&& (1 : Int32))) (x2 : Int32) (hx2 : x2 = ((((p0.toUInt32 >>> ((1 : Int32) &&& 31).toUInt32).toInt32) &&& (3 : Int32)) % (3 : Int32))) (x3 : Int32) (hx3 : x3 = (((p0.toUInt32 >>> ((3 : Int32) &&& 31).toUInt32).toInt32) &&& (3 : Int32))) (x11 : Int32) (hx11 : x11 = (if x1 = (1 : Int32) then (1 : Int32) else (0 : Int32))) (x18 : Int32) (hx18 : x18 = (if x2 = (2 : Int32) then (2 : Int32) else (([(0 : Int32), x11, (0 : Int32), (0 : Int32)] : List Int32).getD x2.toNatClampNeg (0 : Int32)))) (x25 : Int32) (hx25 : x25 = (if x3 = (3 : Int32) then (3 : Int32) else (([(0 : Int32), x11, x18, (0 : Int32)] : List Int32).getD x3.toNatClampNeg (0 : Int32)))) (x33 : UInt64) (hx33 : x33 = (FP.i2d (p1 &&& (1048575 : Int32)))) (x42 : UInt64) (hx42 : x42 = (FP.i2d (p2 &&& (1048575 : Int32)))) (x51 : UInt64) (hx51 : x51 = (FP.i2d (p3 &&& (1048575 : Int32)))) (x60 : UInt64) (hx60 : x60 = (FP.i2d (p4 &&& (1048575 : Int32)))) (hal : ¬ own_alp p0) : ¬ own_al (0 : Int32) x11 x18 x25 := by
  rcases own_np hx1 hx2 hx3 hx11 hx18 hx25 hal with ⟨h1, h2, h3⟩ | ⟨h1, h2, h3⟩ | ⟨h1, h2, h3⟩ | ⟨h1, h2, h3⟩ | ⟨h1, h2, h3⟩ | ⟨h1, h2, h3⟩ | ⟨h1, h2, h3⟩ | ⟨h1, h2, h3⟩ | ⟨h1, h2, h3⟩ | ⟨h1, h2, h3⟩ | ⟨h1, h2, h3⟩ | ⟨h1, h2, h3⟩ | ⟨h1, h2, h3⟩ | ⟨h1, h2, h3⟩ <;> rw [h1, h2, h3] <;> unfold own_al <;> decide
theorem own_rm0_not_hp_hm_227 (p0 : Int32) (p1 : Int32) (p2 : Int32) (p3 : Int32) (p4 : Int32) (x1 : Int32) (hx1 : x1 = (p0 &&& (1 : Int32))) (x2 : Int32) (hx2 : x2 = ((((p0.toUInt32 >>> ((1 : Int32) &&& 31).toUInt32).toInt32) &&& (3 : Int32)) % (3 : Int32))) (x3 : Int32) (hx3 : x3 = (((p0.toUInt32 >>> ((3 : Int32) &&& 31).toUInt32).toInt32) &&& (3 : Int32))) (x11 : Int32) (hx11 : x11 = (if x1 = (1 : Int32) then (1 : Int32) else (0 : Int32))) (x18 : Int32) (hx18 : x18 = (if x2 = (2 : Int32) then (2 : Int32) else (([(0 : Int32), x11, (0 : Int32), (0 : Int32)] : List Int32).getD x2.toNatClampNeg (0 : Int32)))) (x25 : Int32) (hx25 : x25 = (if x3 = (3 : Int32) then (3 : Int32) else (([(0 : Int32), x11, x18, (0 : Int32)] : List Int32).getD x3.toNatClampNeg (0 : Int32)))) (x33 : UInt64) (hx33 : x33 = (FP.i2d (p1 &&& (1048575 : Int32)))) (x42 : UInt64) (hx42 : x42 = (FP.i2d (p2 &&& (1048575 : Int32)))) (x51 : UInt64) (hx51 : x51 = (FP.i2d (p3 &&& (1048575 : Int32)))) (x60 : UInt64) (hx60 : x60 = (FP.i2d (p4 &&& (1048575 : Int32)))) (hal : ¬ own_alp p0) : own_fin4 x33 x42 x51 x60 := ⟨by rw [hx33]; exact Jvm.Free.Fl.i2d_fin _, by rw [hx42]; exact Jvm.Free.Fl.i2d_fin _, by rw [hx51]; exact Jvm.Free.Fl.i2d_fin _, by rw [hx60]; exact Jvm.Free.Fl.i2d_fin _⟩
theorem own_rm0_not_hp_hpat_227 (p0 : Int32) (p1 : Int32) (p2 : Int32) (p3 : Int32) (p4 : Int32) (x1 : Int32) (hx1 : x1 = (p0 &&& (1 : Int32))) (x2 : Int32) (hx2 : x2 = ((((p0.toUInt32 >>> ((1 : Int32) &&& 31).toUInt32).toInt32) &&& (3 : Int32)) % (3 : Int32))) (x3 : Int32) (hx3 : x3 = (((p0.toUInt32 >>> ((3 : Int32) &&& 31).toUInt32).toInt32) &&& (3 : Int32))) (x11 : Int32) (hx11 : x11 = (if x1 = (1 : Int32) then (1 : Int32) else (0 : Int32))) (x18 : Int32) (hx18 : x18 = (if x2 = (2 : Int32) then (2 : Int32) else (([(0 : Int32), x11, (0 : Int32), (0 : Int32)] : List Int32).getD x2.toNatClampNeg (0 : Int32)))) (x25 : Int32) (hx25 : x25 = (if x3 = (3 : Int32) then (3 : Int32) else (([(0 : Int32), x11, x18, (0 : Int32)] : List Int32).getD x3.toNatClampNeg (0 : Int32)))) (x33 : UInt64) (hx33 : x33 = (FP.i2d (p1 &&& (1048575 : Int32)))) (x42 : UInt64) (hx42 : x42 = (FP.i2d (p2 &&& (1048575 : Int32)))) (x51 : UInt64) (hx51 : x51 = (FP.i2d (p3 &&& (1048575 : Int32)))) (x60 : UInt64) (hx60 : x60 = (FP.i2d (p4 &&& (1048575 : Int32)))) (hal : ¬ own_alp p0) : own_pat x11 x18 x25 := own_np hx1 hx2 hx3 hx11 hx18 hx25 hal
theorem own_rm0_not_hp_hm_242 (p0 : Int32) (p1 : Int32) (p2 : Int32) (p3 : Int32) (p4 : Int32) (x1 : Int32) (hx1 : x1 = (p0 &&& (1 : Int32))) (x2 : Int32) (hx2 : x2 = ((((p0.toUInt32 >>> ((1 : Int32) &&& 31).toUInt32).toInt32) &&& (3 : Int32)) % (3 : Int32))) (x3 : Int32) (hx3 : x3 = (((p0.toUInt32 >>> ((3 : Int32) &&& 31).toUInt32).toInt32) &&& (3 : Int32))) (x11 : Int32) (hx11 : x11 = (if x1 = (1 : Int32) then (1 : Int32) else (0 : Int32))) (x18 : Int32) (hx18 : x18 = (if x2 = (2 : Int32) then (2 : Int32) else (([(0 : Int32), x11, (0 : Int32), (0 : Int32)] : List Int32).getD x2.toNatClampNeg (0 : Int32)))) (x25 : Int32) (hx25 : x25 = (if x3 = (3 : Int32) then (3 : Int32) else (([(0 : Int32), x11, x18, (0 : Int32)] : List Int32).getD x3.toNatClampNeg (0 : Int32)))) (x33 : UInt64) (hx33 : x33 = (FP.i2d (p1 &&& (1048575 : Int32)))) (x42 : UInt64) (hx42 : x42 = (FP.i2d (p2 &&& (1048575 : Int32)))) (x51 : UInt64) (hx51 : x51 = (FP.i2d (p3 &&& (1048575 : Int32)))) (x60 : UInt64) (hx60 : x60 = (FP.i2d (p4 &&& (1048575 : Int32)))) (hal : ¬ own_alp p0) : own_fin4 x33 x42 x51 x60 := ⟨by rw [hx33]; exact Jvm.Free.Fl.i2d_fin _, by rw [hx42]; exact Jvm.Free.Fl.i2d_fin _, by rw [hx51]; exact Jvm.Free.Fl.i2d_fin _, by rw [hx60]; exact Jvm.Free.Fl.i2d_fin _⟩
theorem own_rm0_not_fc246 (p0 : Int32) (p1 : Int32) (p2 : Int32) (p3 : Int32) (p4 : Int32) (x1 : Int32) (hx1 : x1 = (p0 &&& (1 : Int32))) (x2 : Int32) (hx2 : x2 = ((((p0.toUInt32 >>> ((1 : Int32) &&& 31).toUInt32).toInt32) &&& (3 : Int32)) % (3 : Int32))) (x3 : Int32) (hx3 : x3 = (((p0.toUInt32 >>> ((3 : Int32) &&& 31).toUInt32).toInt32) &&& (3 : Int32))) (x11 : Int32) (hx11 : x11 = (if x1 = (1 : Int32) then (1 : Int32) else (0 : Int32))) (x18 : Int32) (hx18 : x18 = (if x2 = (2 : Int32) then (2 : Int32) else (([(0 : Int32), x11, (0 : Int32), (0 : Int32)] : List Int32).getD x2.toNatClampNeg (0 : Int32)))) (x25 : Int32) (hx25 : x25 = (if x3 = (3 : Int32) then (3 : Int32) else (([(0 : Int32), x11, x18, (0 : Int32)] : List Int32).getD x3.toNatClampNeg (0 : Int32)))) (x33 : UInt64) (hx33 : x33 = (FP.i2d (p1 &&& (1048575 : Int32)))) (x42 : UInt64) (hx42 : x42 = (FP.i2d (p2 &&& (1048575 : Int32)))) (x51 : UInt64) (hx51 : x51 = (FP.i2d (p3 &&& (1048575 : Int32)))) (x60 : UInt64) (hx60 : x60 = (FP.i2d (p4 &&& (1048575 : Int32)))) (hal : ¬ own_alp p0) : (cmpValue (FP.dcmp (own_x0 x11 x18 x25 x33 x42 x51 x60) (rv6 (0 : Int32) x33 x42 x51 x60 (0 : Int32) x11 x18 x25)) .l) = (0 : Int32) := by
  have N0 := own_Nm hx33
  have N1 := own_Nm hx42
  have N2 := own_Nm hx51
  have N3 := own_Nm hx60
  rcases own_np hx1 hx2 hx3 hx11 hx18 hx25 hal with ⟨h1, h2, h3⟩ | ⟨h1, h2, h3⟩ | ⟨h1, h2, h3⟩ | ⟨h1, h2, h3⟩ | ⟨h1, h2, h3⟩ | ⟨h1, h2, h3⟩ | ⟨h1, h2, h3⟩ | ⟨h1, h2, h3⟩ | ⟨h1, h2, h3⟩ | ⟨h1, h2, h3⟩ | ⟨h1, h2, h3⟩ | ⟨h1, h2, h3⟩ | ⟨h1, h2, h3⟩ | ⟨h1, h2, h3⟩
  · rw [h1, h2, h3]
    show cmpValue (FP.dcmp (FP.dadd (FP.dadd (FP.dadd x33 x42) x51) x60) (FP.dadd (FP.dadd (FP.dadd (FP.dadd (0 : UInt64) x33) x42) x51) x60)) .l = 0
    exact own_Ncmp (own_Nadd (own_Nadd (own_Nadd N0 N1 (by decide)) N2 (by decide)) N3 (by decide)) (own_Nadd (own_Nadd (own_Nadd (own_Nadd own_N0 N0 (by decide)) N1 (by decide)) N2 (by decide)) N3 (by decide)) (by omega)
  · rw [h1, h2, h3]
    show cmpValue (FP.dcmp (FP.dadd (FP.dadd x33 x42) x51) (FP.dadd (FP.dadd (FP.dadd (0 : UInt64) x33) x42) x51)) .l = 0
    exact own_Ncmp (own_Nadd (own_Nadd N0 N1 (by decide)) N2 (by decide)) (own_Nadd (own_Nadd (own_Nadd own_N0 N0 (by decide)) N1 (by decide)) N2 (by decide)) (by omega)
  · rw [h1, h2, h3]
    show cmpValue (FP.dcmp (FP.dadd (FP.dadd x33 x42) x60) (FP.dadd (FP.dadd (FP.dadd (0 : UInt64) x33) x42) x60)) .l = 0
    exact own_Ncmp (own_Nadd (own_Nadd N0 N1 (by decide)) N3 (by decide)) (own_Nadd (own_Nadd (own_Nadd own_N0 N0 (by decide)) N1 (by decide)) N3 (by decide)) (by omega)
  · rw [h1, h2, h3]
    show cmpValue (FP.dcmp (FP.dadd x33 x42) (FP.dadd (FP.dadd (0 : UInt64) x33) x42)) .l = 0
    exact own_Ncmp (own_Nadd N0 N1 (by decide)) (own_Nadd (own_Nadd own_N0 N0 (by decide)) N1 (by decide)) (by omega)
  · rw [h1, h2, h3]
    show cmpValue (FP.dcmp (FP.dadd x33 x42) (FP.dadd (FP.dadd (0 : UInt64) x33) x42)) .l = 0
    exact own_Ncmp (own_Nadd N0 N1 (by decide)) (own_Nadd (own_Nadd own_N0 N0 (by decide)) N1 (by decide)) (by omega)
  · rw [h1, h2, h3]
    show cmpValue (FP.dcmp (FP.dadd (FP.dadd x33 x51) x60) (FP.dadd (FP.dadd (FP.dadd (0 : UInt64) x33) x51) x60)) .l = 0
    exact own_Ncmp (own_Nadd (own_Nadd N0 N2 (by decide)) N3 (by decide)) (own_Nadd (own_Nadd (own_Nadd own_N0 N0 (by decide)) N2 (by decide)) N3 (by decide)) (by omega)
  · rw [h1, h2, h3]
    show cmpValue (FP.dcmp (FP.dadd x33 x51) (FP.dadd (FP.dadd (0 : UInt64) x33) x51)) .l = 0
    exact own_Ncmp (own_Nadd N0 N2 (by decide)) (own_Nadd (own_Nadd own_N0 N0 (by decide)) N2 (by decide)) (by omega)
  · rw [h1, h2, h3]
    show cmpValue (FP.dcmp (FP.dadd x33 x51) (FP.dadd (FP.dadd (0 : UInt64) x33) x51)) .l = 0
    exact own_Ncmp (own_Nadd N0 N2 (by decide)) (own_Nadd (own_Nadd own_N0 N0 (by decide)) N2 (by decide)) (by omega)
  · rw [h1, h2, h3]
    show cmpValue (FP.dcmp (FP.dadd x33 x60) (FP.dadd (FP.dadd (0 : UInt64) x33) x60)) .l = 0
    exact own_Ncmp (own_Nadd N0 N3 (by decide)) (own_Nadd (own_Nadd own_N0 N0 (by decide)) N3 (by decide)) (by omega)
  · rw [h1, h2, h3]
    show cmpValue (FP.dcmp x33 (FP.dadd (0 : UInt64) x33)) .l = 0
    exact own_Ncmp N0 (own_Nadd own_N0 N0 (by decide)) (by omega)
  · rw [h1, h2, h3]
    show cmpValue (FP.dcmp x33 (FP.dadd (0 : UInt64) x33)) .l = 0
    exact own_Ncmp N0 (own_Nadd own_N0 N0 (by decide)) (by omega)
  · rw [h1, h2, h3]
    show cmpValue (FP.dcmp (FP.dadd x33 x60) (FP.dadd (FP.dadd (0 : UInt64) x33) x60)) .l = 0
    exact own_Ncmp (own_Nadd N0 N3 (by decide)) (own_Nadd (own_Nadd own_N0 N0 (by decide)) N3 (by decide)) (by omega)
  · rw [h1, h2, h3]
    show cmpValue (FP.dcmp x33 (FP.dadd (0 : UInt64) x33)) .l = 0
    exact own_Ncmp N0 (own_Nadd own_N0 N0 (by decide)) (by omega)
  · rw [h1, h2, h3]
    show cmpValue (FP.dcmp x33 (FP.dadd (0 : UInt64) x33)) .l = 0
    exact own_Ncmp N0 (own_Nadd own_N0 N0 (by decide)) (by omega)
theorem own_rm0_not_hp_hm_261 (p0 : Int32) (p1 : Int32) (p2 : Int32) (p3 : Int32) (p4 : Int32) (x1 : Int32) (hx1 : x1 = (p0 &&& (1 : Int32))) (x2 : Int32) (hx2 : x2 = ((((p0.toUInt32 >>> ((1 : Int32) &&& 31).toUInt32).toInt32) &&& (3 : Int32)) % (3 : Int32))) (x3 : Int32) (hx3 : x3 = (((p0.toUInt32 >>> ((3 : Int32) &&& 31).toUInt32).toInt32) &&& (3 : Int32))) (x11 : Int32) (hx11 : x11 = (if x1 = (1 : Int32) then (1 : Int32) else (0 : Int32))) (x18 : Int32) (hx18 : x18 = (if x2 = (2 : Int32) then (2 : Int32) else (([(0 : Int32), x11, (0 : Int32), (0 : Int32)] : List Int32).getD x2.toNatClampNeg (0 : Int32)))) (x25 : Int32) (hx25 : x25 = (if x3 = (3 : Int32) then (3 : Int32) else (([(0 : Int32), x11, x18, (0 : Int32)] : List Int32).getD x3.toNatClampNeg (0 : Int32)))) (x33 : UInt64) (hx33 : x33 = (FP.i2d (p1 &&& (1048575 : Int32)))) (x42 : UInt64) (hx42 : x42 = (FP.i2d (p2 &&& (1048575 : Int32)))) (x51 : UInt64) (hx51 : x51 = (FP.i2d (p3 &&& (1048575 : Int32)))) (x60 : UInt64) (hx60 : x60 = (FP.i2d (p4 &&& (1048575 : Int32)))) (hal : ¬ own_alp p0) : own_fin4 x33 x42 x51 x60 := ⟨by rw [hx33]; exact Jvm.Free.Fl.i2d_fin _, by rw [hx42]; exact Jvm.Free.Fl.i2d_fin _, by rw [hx51]; exact Jvm.Free.Fl.i2d_fin _, by rw [hx60]; exact Jvm.Free.Fl.i2d_fin _⟩
theorem own_rm0_not_fc265 (p0 : Int32) (p1 : Int32) (p2 : Int32) (p3 : Int32) (p4 : Int32) (x1 : Int32) (hx1 : x1 = (p0 &&& (1 : Int32))) (x2 : Int32) (hx2 : x2 = ((((p0.toUInt32 >>> ((1 : Int32) &&& 31).toUInt32).toInt32) &&& (3 : Int32)) % (3 : Int32))) (x3 : Int32) (hx3 : x3 = (((p0.toUInt32 >>> ((3 : Int32) &&& 31).toUInt32).toInt32) &&& (3 : Int32))) (x11 : Int32) (hx11 : x11 = (if x1 = (1 : Int32) then (1 : Int32) else (0 : Int32))) (x18 : Int32) (hx18 : x18 = (if x2 = (2 : Int32) then (2 : Int32) else (([(0 : Int32), x11, (0 : Int32), (0 : Int32)] : List Int32).getD x2.toNatClampNeg (0 : Int32)))) (x25 : Int32) (hx25 : x25 = (if x3 = (3 : Int32) then (3 : Int32) else (([(0 : Int32), x11, x18, (0 : Int32)] : List Int32).getD x3.toNatClampNeg (0 : Int32)))) (x33 : UInt64) (hx33 : x33 = (FP.i2d (p1 &&& (1048575 : Int32)))) (x42 : UInt64) (hx42 : x42 = (FP.i2d (p2 &&& (1048575 : Int32)))) (x51 : UInt64) (hx51 : x51 = (FP.i2d (p3 &&& (1048575 : Int32)))) (x60 : UInt64) (hx60 : x60 = (FP.i2d (p4 &&& (1048575 : Int32)))) (hal : ¬ own_alp p0) : (cmpValue (FP.dcmp (own_x1 x11 x18 x25 x33 x42 x51 x60) (rv6 x11 x33 x42 x51 x60 (0 : Int32) x11 x18 x25)) .l) = (0 : Int32) := by
  have N0 := own_Nm hx33
  have N1 := own_Nm hx42
  have N2 := own_Nm hx51
  have N3 := own_Nm hx60
  rcases own_np hx1 hx2 hx3 hx11 hx18 hx25 hal with ⟨h1, h2, h3⟩ | ⟨h1, h2, h3⟩ | ⟨h1, h2, h3⟩ | ⟨h1, h2, h3⟩ | ⟨h1, h2, h3⟩ | ⟨h1, h2, h3⟩ | ⟨h1, h2, h3⟩ | ⟨h1, h2, h3⟩ | ⟨h1, h2, h3⟩ | ⟨h1, h2, h3⟩ | ⟨h1, h2, h3⟩ | ⟨h1, h2, h3⟩ | ⟨h1, h2, h3⟩ | ⟨h1, h2, h3⟩
  · rw [h1, h2, h3]
    show cmpValue (FP.dcmp (FP.dadd (FP.dadd (FP.dadd x33 x42) x51) x60) (FP.dadd (FP.dadd (FP.dadd (FP.dadd (0 : UInt64) x33) x42) x51) x60)) .l = 0
    exact own_Ncmp (own_Nadd (own_Nadd (own_Nadd N0 N1 (by decide)) N2 (by decide)) N3 (by decide)) (own_Nadd (own_Nadd (own_Nadd (own_Nadd own_N0 N0 (by decide)) N1 (by decide)) N2 (by decide)) N3 (by decide)) (by omega)
  · rw [h1, h2, h3]
    show cmpValue (FP.dcmp (FP.dadd (FP.dadd x33 x42) x51) (FP.dadd (FP.dadd (FP.dadd (0 : UInt64) x33) x42) x51)) .l = 0
    exact own_Ncmp (own_Nadd (own_Nadd N0 N1 (by decide)) N2 (by decide)) (own_Nadd (own_Nadd (own_Nadd own_N0 N0 (by decide)) N1 (by decide)) N2 (by decide)) (by omega)
  · rw [h1, h2, h3]
    show cmpValue (FP.dcmp (FP.dadd (FP.dadd x33 x42) x60) (FP.dadd (FP.dadd (FP.dadd (0 : UInt64) x33) x42) x60)) .l = 0
    exact own_Ncmp (own_Nadd (own_Nadd N0 N1 (by decide)) N3 (by decide)) (own_Nadd (own_Nadd (own_Nadd own_N0 N0 (by decide)) N1 (by decide)) N3 (by decide)) (by omega)
  · rw [h1, h2, h3]
    show cmpValue (FP.dcmp (FP.dadd x33 x42) (FP.dadd (FP.dadd (0 : UInt64) x33) x42)) .l = 0
    exact own_Ncmp (own_Nadd N0 N1 (by decide)) (own_Nadd (own_Nadd own_N0 N0 (by decide)) N1 (by decide)) (by omega)
  · rw [h1, h2, h3]
    show cmpValue (FP.dcmp (FP.dadd x33 x42) (FP.dadd (FP.dadd (0 : UInt64) x33) x42)) .l = 0
    exact own_Ncmp (own_Nadd N0 N1 (by decide)) (own_Nadd (own_Nadd own_N0 N0 (by decide)) N1 (by decide)) (by omega)
  · rw [h1, h2, h3]
    show cmpValue (FP.dcmp x42 (FP.dadd (0 : UInt64) x42)) .l = 0
    exact own_Ncmp N1 (own_Nadd own_N0 N1 (by decide)) (by omega)
  · rw [h1, h2, h3]
    show cmpValue (FP.dcmp (FP.dadd x42 x60) (FP.dadd (FP.dadd (0 : UInt64) x42) x60)) .l = 0
    exact own_Ncmp (own_Nadd N1 N3 (by decide)) (own_Nadd (own_Nadd own_N0 N1 (by decide)) N3 (by decide)) (by omega)
  · rw [h1, h2, h3]
    show cmpValue (FP.dcmp x42 (FP.dadd (0 : UInt64) x42)) .l = 0
    exact own_Ncmp N1 (own_Nadd own_N0 N1 (by decide)) (by omega)
  · rw [h1, h2, h3]
    show cmpValue (FP.dcmp (FP.dadd x42 x51) (FP.dadd (FP.dadd (0 : UInt64) x42) x51)) .l = 0
    exact own_Ncmp (own_Nadd N1 N2 (by decide)) (own_Nadd (own_Nadd own_N0 N1 (by decide)) N2 (by decide)) (by omega)
  · rw [h1, h2, h3]
    show cmpValue (FP.dcmp (FP.dadd (FP.dadd x42 x51) x60) (FP.dadd (FP.dadd (FP.dadd (0 : UInt64) x42) x51) x60)) .l = 0
    exact own_Ncmp (own_Nadd (own_Nadd N1 N2 (by decide)) N3 (by decide)) (own_Nadd (own_Nadd (own_Nadd own_N0 N1 (by decide)) N2 (by decide)) N3 (by decide)) (by omega)
  · rw [h1, h2, h3]
    show cmpValue (FP.dcmp (FP.dadd x42 x51) (FP.dadd (FP.dadd (0 : UInt64) x42) x51)) .l = 0
    exact own_Ncmp (own_Nadd N1 N2 (by decide)) (own_Nadd (own_Nadd own_N0 N1 (by decide)) N2 (by decide)) (by omega)
  · rw [h1, h2, h3]
    show cmpValue (FP.dcmp x42 (FP.dadd (0 : UInt64) x42)) .l = 0
    exact own_Ncmp N1 (own_Nadd own_N0 N1 (by decide)) (by omega)
  · rw [h1, h2, h3]
    show cmpValue (FP.dcmp (FP.dadd x42 x60) (FP.dadd (FP.dadd (0 : UInt64) x42) x60)) .l = 0
    exact own_Ncmp (own_Nadd N1 N3 (by decide)) (own_Nadd (own_Nadd own_N0 N1 (by decide)) N3 (by decide)) (by omega)
  · rw [h1, h2, h3]
    show cmpValue (FP.dcmp x42 (FP.dadd (0 : UInt64) x42)) .l = 0
    exact own_Ncmp N1 (own_Nadd own_N0 N1 (by decide)) (by omega)
theorem own_rm0_not_hp_hm_280 (p0 : Int32) (p1 : Int32) (p2 : Int32) (p3 : Int32) (p4 : Int32) (x1 : Int32) (hx1 : x1 = (p0 &&& (1 : Int32))) (x2 : Int32) (hx2 : x2 = ((((p0.toUInt32 >>> ((1 : Int32) &&& 31).toUInt32).toInt32) &&& (3 : Int32)) % (3 : Int32))) (x3 : Int32) (hx3 : x3 = (((p0.toUInt32 >>> ((3 : Int32) &&& 31).toUInt32).toInt32) &&& (3 : Int32))) (x11 : Int32) (hx11 : x11 = (if x1 = (1 : Int32) then (1 : Int32) else (0 : Int32))) (x18 : Int32) (hx18 : x18 = (if x2 = (2 : Int32) then (2 : Int32) else (([(0 : Int32), x11, (0 : Int32), (0 : Int32)] : List Int32).getD x2.toNatClampNeg (0 : Int32)))) (x25 : Int32) (hx25 : x25 = (if x3 = (3 : Int32) then (3 : Int32) else (([(0 : Int32), x11, x18, (0 : Int32)] : List Int32).getD x3.toNatClampNeg (0 : Int32)))) (x33 : UInt64) (hx33 : x33 = (FP.i2d (p1 &&& (1048575 : Int32)))) (x42 : UInt64) (hx42 : x42 = (FP.i2d (p2 &&& (1048575 : Int32)))) (x51 : UInt64) (hx51 : x51 = (FP.i2d (p3 &&& (1048575 : Int32)))) (x60 : UInt64) (hx60 : x60 = (FP.i2d (p4 &&& (1048575 : Int32)))) (hal : ¬ own_alp p0) : own_fin4 x33 x42 x51 x60 := ⟨by rw [hx33]; exact Jvm.Free.Fl.i2d_fin _, by rw [hx42]; exact Jvm.Free.Fl.i2d_fin _, by rw [hx51]; exact Jvm.Free.Fl.i2d_fin _, by rw [hx60]; exact Jvm.Free.Fl.i2d_fin _⟩
theorem own_rm0_not_fc284 (p0 : Int32) (p1 : Int32) (p2 : Int32) (p3 : Int32) (p4 : Int32) (x1 : Int32) (hx1 : x1 = (p0 &&& (1 : Int32))) (x2 : Int32) (hx2 : x2 = ((((p0.toUInt32 >>> ((1 : Int32) &&& 31).toUInt32).toInt32) &&& (3 : Int32)) % (3 : Int32))) (x3 : Int32) (hx3 : x3 = (((p0.toUInt32 >>> ((3 : Int32) &&& 31).toUInt32).toInt32) &&& (3 : Int32))) (x11 : Int32) (hx11 : x11 = (if x1 = (1 : Int32) then (1 : Int32) else (0 : Int32))) (x18 : Int32) (hx18 : x18 = (if x2 = (2 : Int32) then (2 : Int32) else (([(0 : Int32), x11, (0 : Int32), (0 : Int32)] : List Int32).getD x2.toNatClampNeg (0 : Int32)))) (x25 : Int32) (hx25 : x25 = (if x3 = (3 : Int32) then (3 : Int32) else (([(0 : Int32), x11, x18, (0 : Int32)] : List Int32).getD x3.toNatClampNeg (0 : Int32)))) (x33 : UInt64) (hx33 : x33 = (FP.i2d (p1 &&& (1048575 : Int32)))) (x42 : UInt64) (hx42 : x42 = (FP.i2d (p2 &&& (1048575 : Int32)))) (x51 : UInt64) (hx51 : x51 = (FP.i2d (p3 &&& (1048575 : Int32)))) (x60 : UInt64) (hx60 : x60 = (FP.i2d (p4 &&& (1048575 : Int32)))) (hal : ¬ own_alp p0) : (cmpValue (FP.dcmp (own_x2 x11 x18 x25 x33 x42 x51 x60) (rv6 x18 x33 x42 x51 x60 (0 : Int32) x11 x18 x25)) .l) = (0 : Int32) := by
  have N0 := own_Nm hx33
  have N1 := own_Nm hx42
  have N2 := own_Nm hx51
  have N3 := own_Nm hx60
  rcases own_np hx1 hx2 hx3 hx11 hx18 hx25 hal with ⟨h1, h2, h3⟩ | ⟨h1, h2, h3⟩ | ⟨h1, h2, h3⟩ | ⟨h1, h2, h3⟩ | ⟨h1, h2, h3⟩ | ⟨h1, h2, h3⟩ | ⟨h1, h2, h3⟩ | ⟨h1, h2, h3⟩ | ⟨h1, h2, h3⟩ | ⟨h1, h2, h3⟩ | ⟨h1, h2, h3⟩ | ⟨h1, h2, h3⟩ | ⟨h1, h2, h3⟩ | ⟨h1, h2, h3⟩
  · rw [h1, h2, h3]
    show cmpValue (FP.dcmp (FP.dadd (FP.dadd (FP.dadd x33 x42) x51) x60) (FP.dadd (FP.dadd (FP.dadd (FP.dadd (0 : UInt64) x33) x42) x51) x60)) .l = 0
    exact own_Ncmp (own_Nadd (own_Nadd (own_Nadd N0 N1 (by decide)) N2 (by decide)) N3 (by decide)) (own_Nadd (own_Nadd (own_Nadd (own_Nadd own_N0 N0 (by decide)) N1 (by decide)) N2 (by decide)) N3 (by decide)) (by omega)
  · rw [h1, h2, h3]
    show cmpValue (FP.dcmp (FP.dadd (FP.dadd x33 x42) x51) (FP.dadd (FP.dadd (FP.dadd (0 : UInt64) x33) x42) x51)) .l = 0
    exact own_Ncmp (own_Nadd (own_Nadd N0 N1 (by decide)) N2 (by decide)) (own_Nadd (own_Nadd (own_Nadd own_N0 N0 (by decide)) N1 (by decide)) N2 (by decide)) (by omega)
  · rw [h1, h2, h3]
    show cmpValue (FP.dcmp x51 (FP.dadd (0 : UInt64) x51)) .l = 0
    exact own_Ncmp N2 (own_Nadd own_N0 N2 (by decide)) (by omega)
  · rw [h1, h2, h3]
    show cmpValue (FP.dcmp (FP.dadd x51 x60) (FP.dadd (FP.dadd (0 : UInt64) x51) x60)) .l = 0
    exact own_Ncmp (own_Nadd N2 N3 (by decide)) (own_Nadd (own_Nadd own_N0 N2 (by decide)) N3 (by decide)) (by omega)
  · rw [h1, h2, h3]
    show cmpValue (FP.dcmp x51 (FP.dadd (0 : UInt64) x51)) .l = 0
    exact own_Ncmp N2 (own_Nadd own_N0 N2 (by decide)) (by omega)
  · rw [h1, h2, h3]
    show cmpValue (FP.dcmp (FP.dadd (FP.dadd x33 x51) x60) (FP.dadd (FP.dadd (FP.dadd (0 : UInt64) x33) x51) x60)) .l = 0
    exact own_Ncmp (own_Nadd (own_Nadd N0 N2 (by decide)) N3 (by decide)) (own_Nadd (own_Nadd (own_Nadd own_N0 N0 (by decide)) N2 (by decide)) N3 (by decide)) (by omega)
  · rw [h1, h2, h3]
    show cmpValue (FP.dcmp (FP.dadd x33 x51) (FP.dadd (FP.dadd (0 : UInt64) x33) x51)) .l = 0
    exact own_Ncmp (own_Nadd N0 N2 (by decide)) (own_Nadd (own_Nadd own_N0 N0 (by decide)) N2 (by decide)) (by omega)
  · rw [h1, h2, h3]
    show cmpValue (FP.dcmp (FP.dadd x33 x51) (FP.dadd (FP.dadd (0 : UInt64) x33) x51)) .l = 0
    exact own_Ncmp (own_Nadd N0 N2 (by decide)) (own_Nadd (own_Nadd own_N0 N0 (by decide)) N2 (by decide)) (by omega)
  · rw [h1, h2, h3]
    show cmpValue (FP.dcmp (FP.dadd x42 x51) (FP.dadd (FP.dadd (0 : UInt64) x42) x51)) .l = 0
    exact own_Ncmp (own_Nadd N1 N2 (by decide)) (own_Nadd (own_Nadd own_N0 N1 (by decide)) N2 (by decide)) (by omega)
  · rw [h1, h2, h3]
    show cmpValue (FP.dcmp (FP.dadd (FP.dadd x42 x51) x60) (FP.dadd (FP.dadd (FP.dadd (0 : UInt64) x42) x51) x60)) .l = 0
    exact own_Ncmp (own_Nadd (own_Nadd N1 N2 (by decide)) N3 (by decide)) (own_Nadd (own_Nadd (own_Nadd own_N0 N1 (by decide)) N2 (by decide)) N3 (by decide)) (by omega)
  · rw [h1, h2, h3]
    show cmpValue (FP.dcmp (FP.dadd x42 x51) (FP.dadd (FP.dadd (0 : UInt64) x42) x51)) .l = 0
    exact own_Ncmp (own_Nadd N1 N2 (by decide)) (own_Nadd (own_Nadd own_N0 N1 (by decide)) N2 (by decide)) (by omega)
  · rw [h1, h2, h3]
    show cmpValue (FP.dcmp x51 (FP.dadd (0 : UInt64) x51)) .l = 0
    exact own_Ncmp N2 (own_Nadd own_N0 N2 (by decide)) (by omega)
  · rw [h1, h2, h3]
    show cmpValue (FP.dcmp x51 (FP.dadd (0 : UInt64) x51)) .l = 0
    exact own_Ncmp N2 (own_Nadd own_N0 N2 (by decide)) (by omega)
  · rw [h1, h2, h3]
    show cmpValue (FP.dcmp (FP.dadd x51 x60) (FP.dadd (FP.dadd (0 : UInt64) x51) x60)) .l = 0
    exact own_Ncmp (own_Nadd N2 N3 (by decide)) (own_Nadd (own_Nadd own_N0 N2 (by decide)) N3 (by decide)) (by omega)
theorem own_rm0_not_hp_hm_299 (p0 : Int32) (p1 : Int32) (p2 : Int32) (p3 : Int32) (p4 : Int32) (x1 : Int32) (hx1 : x1 = (p0 &&& (1 : Int32))) (x2 : Int32) (hx2 : x2 = ((((p0.toUInt32 >>> ((1 : Int32) &&& 31).toUInt32).toInt32) &&& (3 : Int32)) % (3 : Int32))) (x3 : Int32) (hx3 : x3 = (((p0.toUInt32 >>> ((3 : Int32) &&& 31).toUInt32).toInt32) &&& (3 : Int32))) (x11 : Int32) (hx11 : x11 = (if x1 = (1 : Int32) then (1 : Int32) else (0 : Int32))) (x18 : Int32) (hx18 : x18 = (if x2 = (2 : Int32) then (2 : Int32) else (([(0 : Int32), x11, (0 : Int32), (0 : Int32)] : List Int32).getD x2.toNatClampNeg (0 : Int32)))) (x25 : Int32) (hx25 : x25 = (if x3 = (3 : Int32) then (3 : Int32) else (([(0 : Int32), x11, x18, (0 : Int32)] : List Int32).getD x3.toNatClampNeg (0 : Int32)))) (x33 : UInt64) (hx33 : x33 = (FP.i2d (p1 &&& (1048575 : Int32)))) (x42 : UInt64) (hx42 : x42 = (FP.i2d (p2 &&& (1048575 : Int32)))) (x51 : UInt64) (hx51 : x51 = (FP.i2d (p3 &&& (1048575 : Int32)))) (x60 : UInt64) (hx60 : x60 = (FP.i2d (p4 &&& (1048575 : Int32)))) (hal : ¬ own_alp p0) : own_fin4 x33 x42 x51 x60 := ⟨by rw [hx33]; exact Jvm.Free.Fl.i2d_fin _, by rw [hx42]; exact Jvm.Free.Fl.i2d_fin _, by rw [hx51]; exact Jvm.Free.Fl.i2d_fin _, by rw [hx60]; exact Jvm.Free.Fl.i2d_fin _⟩
theorem own_rm0_not_fc303 (p0 : Int32) (p1 : Int32) (p2 : Int32) (p3 : Int32) (p4 : Int32) (x1 : Int32) (hx1 : x1 = (p0 &&& (1 : Int32))) (x2 : Int32) (hx2 : x2 = ((((p0.toUInt32 >>> ((1 : Int32) &&& 31).toUInt32).toInt32) &&& (3 : Int32)) % (3 : Int32))) (x3 : Int32) (hx3 : x3 = (((p0.toUInt32 >>> ((3 : Int32) &&& 31).toUInt32).toInt32) &&& (3 : Int32))) (x11 : Int32) (hx11 : x11 = (if x1 = (1 : Int32) then (1 : Int32) else (0 : Int32))) (x18 : Int32) (hx18 : x18 = (if x2 = (2 : Int32) then (2 : Int32) else (([(0 : Int32), x11, (0 : Int32), (0 : Int32)] : List Int32).getD x2.toNatClampNeg (0 : Int32)))) (x25 : Int32) (hx25 : x25 = (if x3 = (3 : Int32) then (3 : Int32) else (([(0 : Int32), x11, x18, (0 : Int32)] : List Int32).getD x3.toNatClampNeg (0 : Int32)))) (x33 : UInt64) (hx33 : x33 = (FP.i2d (p1 &&& (1048575 : Int32)))) (x42 : UInt64) (hx42 : x42 = (FP.i2d (p2 &&& (1048575 : Int32)))) (x51 : UInt64) (hx51 : x51 = (FP.i2d (p3 &&& (1048575 : Int32)))) (x60 : UInt64) (hx60 : x60 = (FP.i2d (p4 &&& (1048575 : Int32)))) (hal : ¬ own_alp p0) : (cmpValue (FP.dcmp (own_x3 x11 x18 x25 x33 x42 x51 x60) (rv6 x25 x33 x42 x51 x60 (0 : Int32) x11 x18 x25)) .l) = (0 : Int32) := by
  have N0 := own_Nm hx33
  have N1 := own_Nm hx42
  have N2 := own_Nm hx51
  have N3 := own_Nm hx60
  rcases own_np hx1 hx2 hx3 hx11 hx18 hx25 hal with ⟨h1, h2, h3⟩ | ⟨h1, h2, h3⟩ | ⟨h1, h2, h3⟩ | ⟨h1, h2, h3⟩ | ⟨h1, h2, h3⟩ | ⟨h1, h2, h3⟩ | ⟨h1, h2, h3⟩ | ⟨h1, h2, h3⟩ | ⟨h1, h2, h3⟩ | ⟨h1, h2, h3⟩ | ⟨h1, h2, h3⟩ | ⟨h1, h2, h3⟩ | ⟨h1, h2, h3⟩ | ⟨h1, h2, h3⟩
  · rw [h1, h2, h3]
    show cmpValue (FP.dcmp (FP.dadd (FP.dadd (FP.dadd x33 x42) x51) x60) (FP.dadd (FP.dadd (FP.dadd (FP.dadd (0 : UInt64) x33) x42) x51) x60)) .l = 0
    exact own_Ncmp (own_Nadd (own_Nadd (own_Nadd N0 N1 (by decide)) N2 (by decide)) N3 (by decide)) (own_Nadd (own_Nadd (own_Nadd (own_Nadd own_N0 N0 (by decide)) N1 (by decide)) N2 (by decide)) N3 (by decide)) (by omega)
  · rw [h1, h2, h3]
    show cmpValue (FP.dcmp x60 (FP.dadd (0 : UInt64) x60)) .l = 0
    exact own_Ncmp N3 (own_Nadd own_N0 N3 (by decide)) (by omega)
  · rw [h1, h2, h3]
    show cmpValue (FP.dcmp (FP.dadd (FP.dadd x33 x42) x60) (FP.dadd (FP.dadd (FP.dadd (0 : UInt64) x33) x42) x60)) .l = 0
    exact own_Ncmp (own_Nadd (own_Nadd N0 N1 (by decide)) N3 (by decide)) (own_Nadd (own_Nadd (own_Nadd own_N0 N0 (by decide)) N1 (by decide)) N3 (by decide)) (by omega)
  · rw [h1, h2, h3]
    show cmpValue (FP.dcmp (FP.dadd x51 x60) (FP.dadd (FP.dadd (0 : UInt64) x51) x60)) .l = 0
    exact own_Ncmp (own_Nadd N2 N3 (by decide)) (own_Nadd (own_Nadd own_N0 N2 (by decide)) N3 (by decide)) (by omega)
  · rw [h1, h2, h3]
    show cmpValue (FP.dcmp x60 (FP.dadd (0 : UInt64) x60)) .l = 0
    exact own_Ncmp N3 (own_Nadd own_N0 N3 (by decide)) (by omega)
  · rw [h1, h2, h3]
    show cmpValue (FP.dcmp (FP.dadd (FP.dadd x33 x51) x60) (FP.dadd (FP.dadd (FP.dadd (0 : UInt64) x33) x51) x60)) .l = 0
    exact own_Ncmp (own_Nadd (own_Nadd N0 N2 (by decide)) N3 (by decide)) (own_Nadd (own_Nadd (own_Nadd own_N0 N0 (by decide)) N2 (by decide)) N3 (by decide)) (by omega)
  · rw [h1, h2, h3]
    show cmpValue (FP.dcmp (FP.dadd x42 x60) (FP.dadd (FP.dadd (0 : UInt64) x42) x60)) .l = 0
    exact own_Ncmp (own_Nadd N1 N3 (by decide)) (own_Nadd (own_Nadd own_N0 N1 (by decide)) N3 (by decide)) (by omega)
  · rw [h1, h2, h3]
    show cmpValue (FP.dcmp x60 (FP.dadd (0 : UInt64) x60)) .l = 0
    exact own_Ncmp N3 (own_Nadd own_N0 N3 (by decide)) (by omega)
  · rw [h1, h2, h3]
    show cmpValue (FP.dcmp (FP.dadd x33 x60) (FP.dadd (FP.dadd (0 : UInt64) x33) x60)) .l = 0
    exact own_Ncmp (own_Nadd N0 N3 (by decide)) (own_Nadd (own_Nadd own_N0 N0 (by decide)) N3 (by decide)) (by omega)
  · rw [h1, h2, h3]
    show cmpValue (FP.dcmp (FP.dadd (FP.dadd x42 x51) x60) (FP.dadd (FP.dadd (FP.dadd (0 : UInt64) x42) x51) x60)) .l = 0
    exact own_Ncmp (own_Nadd (own_Nadd N1 N2 (by decide)) N3 (by decide)) (own_Nadd (own_Nadd (own_Nadd own_N0 N1 (by decide)) N2 (by decide)) N3 (by decide)) (by omega)
  · rw [h1, h2, h3]
    show cmpValue (FP.dcmp x60 (FP.dadd (0 : UInt64) x60)) .l = 0
    exact own_Ncmp N3 (own_Nadd own_N0 N3 (by decide)) (by omega)
  · rw [h1, h2, h3]
    show cmpValue (FP.dcmp (FP.dadd x33 x60) (FP.dadd (FP.dadd (0 : UInt64) x33) x60)) .l = 0
    exact own_Ncmp (own_Nadd N0 N3 (by decide)) (own_Nadd (own_Nadd own_N0 N0 (by decide)) N3 (by decide)) (by omega)
  · rw [h1, h2, h3]
    show cmpValue (FP.dcmp (FP.dadd x42 x60) (FP.dadd (FP.dadd (0 : UInt64) x42) x60)) .l = 0
    exact own_Ncmp (own_Nadd N1 N3 (by decide)) (own_Nadd (own_Nadd own_N0 N1 (by decide)) N3 (by decide)) (by omega)
  · rw [h1, h2, h3]
    show cmpValue (FP.dcmp (FP.dadd x51 x60) (FP.dadd (FP.dadd (0 : UInt64) x51) x60)) .l = 0
    exact own_Ncmp (own_Nadd N2 N3 (by decide)) (own_Nadd (own_Nadd own_N0 N2 (by decide)) N3 (by decide)) (by omega)
set_option maxRecDepth 65536 in
set_option maxHeartbeats 40000000 in
theorem rm0_not (l : Launch) (Z : State) (a0 : Array Value) (hw : ∀ d ∈ tables_1, d.before a0 Z = true) (ws : List Jvm.Cond) (p0 : Int32) (p1 : Int32) (p2 : Int32) (p3 : Int32) (p4 : Int32)  (h0 : Heap) (n0 : Nat) (Z0 : n0 ≤ h0.size) (hal : ¬ own_alp p0) :
    MetFree l x (head1 (Jvm.Cond.code x code maxLocals ret :: ws) room_1) (fun a U => a = #[(.int p0), (.int p1), (.int p2), (.int p3), (.int p4)] ∧ Z.Warmed39 U.vm ∧ U.heap = h0) (fun _ _ _ _ _ => True) (fun _ U o U' => ∃ v L, o = .returned v ∧ Q0 Z p0 p1 p2 p3 p4 h0 n0 v U'.heap L ∧ FrameEnd U o U' L room_1.cells room_1.slots) := by
  refine MetFree.of_bodySF (plainFor_of_name pn_0) hisR ?_
  intro p e s m args below meth c s₁ Bd hml0 hP hK
  obtain ⟨rfl, hZ, hh⟩ := hP
  have hx := Bd.exec
  have hby := Bd.bytes
  have hml : c.maxLocals = 14 := hml0
  have hown : s.vm.findClass "com/example/oceanus/oceanus/numerics/TolerancesGroupPinLaw" = some m.cls := findClass_of_methodNamed Bd.named
  have hnm := (name_of_methodNamed Bd.named Bd.method).1
  have X0 : Stand p l e room_1 s m #[(.int p0), (.int p1), (.int p2), (.int p3), (.int p4)] below meth c s₁ [] 0 0 := Stand.of_body Bd
  have e0 : s₁.heap = h0 := by rw [← hh, Bd.state]; rfl
  have N0 := Fr.nil n0
  have G0 := gd X0 hx hby
  have pre0 : ∀ t, Steps p.tables e below (s₁.setTop (mkF m 0 #[iv p0, iv p1, iv p2, iv p3, iv p4, .unset, .unset, .unset, .unset, .unset, .unset, .unset, .unset, .unset] [])) t → Steps p.tables e below (s₁.setTop (entryFrame m #[(.int p0), (.int p1), (.int p2), (.int p3), (.int p4)] maxLocals)) t := fun t k => castTop (ef0_not m p0 p1 p2 p3 p4) k
  obtain ⟨x1, hx1⟩ : ∃ z : Int32, z = (p0 &&& (1 : Int32)) := ⟨_, rfl⟩
  obtain ⟨x2, hx2⟩ : ∃ z : Int32, z = ((((p0.toUInt32 >>> ((1 : Int32) &&& 31).toUInt32).toInt32) &&& (3 : Int32)) % (3 : Int32)) := ⟨_, rfl⟩
  obtain ⟨x3, hx3⟩ : ∃ z : Int32, z = (((p0.toUInt32 >>> ((3 : Int32) &&& 31).toUInt32).toInt32) &&& (3 : Int32)) := ⟨_, rfl⟩
  obtain ⟨T4, h4, k4, X4, e4, E4, A4, Xa4, st4⟩ := newPE X0 hx hZ (wd hw 0 rfl) e0 (g := (mkF m 22 #[iv p0, iv p1, iv p2, iv p3, iv p4, iv x1, iv x2, iv x3, .unset, .unset, .unset, .unset, .unset, .unset] [(.int (4 : Int32))])) rfl (hb hby at_22) rfl (by decide) (cap := 4) (by decide) (by decide) (by decide) (by decide) (ad := "[I") (by decide)
  have G4 := gd X4 hx hby
  obtain ⟨b4, g4⟩ : ∃ z, z = h0.size := ⟨_, rfl⟩
  rw [← g4] at A4 Xa4 st4
  have g_b4 : n0 ≤ b4 := Nat.le_trans Z0 (Nat.le_of_eq g4.symm)
  have Z4 := Nat.le_trans Z0 E4.1
  have V_b4 : Arv Z h4 b4 k4 .int (4 : Int32) [(.int (0 : Int32)), (.int (0 : Int32)), (.int (0 : Int32)), (.int (0 : Int32))] (.int (0 : Int32)) := (Arv.new A4 (by decide)).pad (pad_rep [] (.int (0 : Int32)) 4)
  obtain ⟨T5, h5, X5, e5, W5, Vs5, st5⟩ := own_stI X4 hx hby hZ e4 V_b4 (j := (0 : Int32)) (v := (0 : Int32)) at_30 ⟨by decide, by decide⟩ 0 rfl (Nat.le_of_ble_eq_true rfl) #[iv p0, iv p1, iv p2, iv p3, iv p4, iv x1, iv x2, iv x3, rv b4, .unset, .unset, .unset, .unset, .unset] [] 31 rfl
  have G5 := gd X5 hx hby
  have N5 := Fr.snoc X5 N0 g_b4
  have f7 := Xa4.wr W5
  have Z5 := Nat.le_trans Z4 (Keep.of_wr W5).1
  have V5 : Arv Z h5 b4 k4 .int (4 : Int32) [(.int (0 : Int32)), (.int (0 : Int32)), (.int (0 : Int32)), (.int (0 : Int32))] (.int (0 : Int32)) := Vs5
  obtain ⟨x11, hx11⟩ : ∃ z : Int32, z = (if x1 = (1 : Int32) then (1 : Int32) else (0 : Int32)) := ⟨_, rfl⟩
  obtain ⟨T10, X10, e10, st10⟩ : ∃ T' : State, Stand p l e room_1 s m #[(.int p0), (.int p1), (.int p2), (.int p3), (.int p4)] below meth c T' ([] ++ [⟨b4, ((0 : Int32)).toNatClampNeg⟩]) 1 4 ∧ T'.heap = h5 ∧ ∀ target, Steps p.tables e below (T'.setTop (mkF m 48 #[iv p0, iv p1, iv p2, iv p3, iv p4, iv x1, iv x2, iv x3, rv b4, .unset, .unset, .unset, .unset, .unset] [(.int x11), (.int (1 : Int32)), (.ref b4)])) target → Steps p.tables e below (T5.setTop (mkF m 37 #[iv p0, iv p1, iv p2, iv p3, iv p4, iv x1, iv x2, iv x3, rv b4, .unset, .unset, .unset, .unset, .unset] [(.int (1 : Int32)), (.int x1), (.int (1 : Int32)), (.ref b4)])) target := by
    by_cases hc37_9 : x1 = (1 : Int32)
    · refine ⟨T5, X5, e5, fun target kt => ?_⟩
      refine micmpNo 40 G5 at_37 (teq hc37_9).2 rfl ?_
      refine miconst 41 G5 at_40 (v := (1 : Int32)) rfl rfl ?_
      refine mgoto 48 G5 at_41 (by decide) rfl ?_
      exact castTop (g' := (mkF m 48 #[iv p0, iv p1, iv p2, iv p3, iv p4, iv x1, iv x2, iv x3, rv b4, .unset, .unset, .unset, .unset, .unset] [(.int x11), (.int (1 : Int32)), (.ref b4)])) (by simp only [hx11, if_pos hc37_9]) kt
    · refine ⟨T5, X5, e5, fun target kt => ?_⟩
      refine micmpYes 44 G5 at_37 (feq hc37_9).2 (by decide) rfl ?_
      refine maload 46 G5 at_44 rfl rfl rfl ?_
      refine miconst 47 G5 at_46 (v := (0 : Int32)) rfl rfl ?_
      refine miaload 48 X5 hx hby hZ e5 V5 (v := (0 : Int32)) at_47 ⟨by decide, by decide⟩ rfl rfl ?_
      exact castTop (g' := (mkF m 48 #[iv p0, iv p1, iv p2, iv p3, iv p4, iv x1, iv x2, iv x3, rv b4, .unset, .unset, .unset, .unset, .unset] [(.int x11), (.int (1 : Int32)), (.ref b4)])) (by simp only [hx11, if_neg hc37_9]) kt
  have G10 := gd X10 hx hby
  obtain ⟨T12, h12, X12, e12, W12, Vs12, st12⟩ := own_stI X10 hx hby hZ e10 V5 (j := (1 : Int32)) (v := x11) at_48 ⟨by decide, by decide⟩ 1 rfl (Nat.le_of_ble_eq_true rfl) #[iv p0, iv p1, iv p2, iv p3, iv p4, iv x1, iv x2, iv x3, rv b4, .unset, .unset, .unset, .unset, .unset] [] 49 rfl
  have G12 := gd X12 hx hby
  have N12 := Fr.snoc X12 N5 g_b4
  have f14 := f7.wr W12
  have Z12 := Nat.le_trans Z5 (Keep.of_wr W12).1
  have V12 : Arv Z h12 b4 k4 .int (4 : Int32) [(.int (0 : Int32)), (.int x11), (.int (0 : Int32)), (.int (0 : Int32))] (.int (0 : Int32)) := Vs12
  obtain ⟨x18, hx18⟩ : ∃ z : Int32, z = (if x2 = (2 : Int32) then (2 : Int32) else (([(0 : Int32), x11, (0 : Int32), (0 : Int32)] : List Int32).getD x2.toNatClampNeg (0 : Int32))) := ⟨_, rfl⟩
  obtain ⟨T17, X17, e17, st17⟩ : ∃ T' : State, Stand p l e room_1 s m #[(.int p0), (.int p1), (.int p2), (.int p3), (.int p4)] below meth c T' (([] ++ [⟨b4, ((0 : Int32)).toNatClampNeg⟩]) ++ [⟨b4, ((1 : Int32)).toNatClampNeg⟩]) 1 4 ∧ T'.heap = h12 ∧ ∀ target, Steps p.tables e below (T'.setTop (mkF m 67 #[iv p0, iv p1, iv p2, iv p3, iv p4, iv x1, iv x2, iv x3, rv b4, .unset, .unset, .unset, .unset, .unset] [(.int x18), (.int (2 : Int32)), (.ref b4)])) target → Steps p.tables e below (T12.setTop (mkF m 55 #[iv p0, iv p1, iv p2, iv p3, iv p4, iv x1, iv x2, iv x3, rv b4, .unset, .unset, .unset, .unset, .unset] [(.int (2 : Int32)), (.int x2), (.int (2 : Int32)), (.ref b4)])) target := by
    by_cases hc55_16 : x2 = (2 : Int32)
    · refine ⟨T12, X12, e12, fun target kt => ?_⟩
      refine micmpNo 58 G12 at_55 (teq hc55_16).2 rfl ?_
      refine miconst 59 G12 at_58 (v := (2 : Int32)) rfl rfl ?_
      refine mgoto 67 G12 at_59 (by decide) rfl ?_
      exact castTop (g' := (mkF m 67 #[iv p0, iv p1, iv p2, iv p3, iv p4, iv x1, iv x2, iv x3, rv b4, .unset, .unset, .unset, .unset, .unset] [(.int x18), (.int (2 : Int32)), (.ref b4)])) (by simp only [hx18, if_pos hc55_16]) kt
    · refine ⟨T12, X12, e12, fun target kt => ?_⟩
      refine micmpYes 62 G12 at_55 (feq hc55_16).2 (by decide) rfl ?_
      refine maload 64 G12 at_62 rfl rfl rfl ?_
      refine miload 66 G12 at_64 rfl rfl ?_
      refine miaload 67 X12 hx hby hZ e12 V12 (v := (([(0 : Int32), x11, (0 : Int32), (0 : Int32)] : List Int32).getD x2.toNatClampNeg (0 : Int32))) at_66 (own_rm0_not_hin66 p0 p1 p2 p3 p4 x1 hx1 x2 hx2 x3 hx3 x11 hx11 hc55_16 hal) (own_getDI ([(0 : Int32), x11, (0 : Int32), (0 : Int32)] : List Int32) _ _) rfl ?_
      exact castTop (g' := (mkF m 67 #[iv p0, iv p1, iv p2, iv p3, iv p4, iv x1, iv x2, iv x3, rv b4, .unset, .unset, .unset, .unset, .unset] [(.int x18), (.int (2 : Int32)), (.ref b4)])) (by simp only [hx18, if_neg hc55_16]) kt
  have G17 := gd X17 hx hby
  obtain ⟨T19, h19, X19, e19, W19, Vs19, st19⟩ := own_stI X17 hx hby hZ e17 V12 (j := (2 : Int32)) (v := x18) at_67 ⟨by decide, by decide⟩ 2 rfl (Nat.le_of_ble_eq_true rfl) #[iv p0, iv p1, iv p2, iv p3, iv p4, iv x1, iv x2, iv x3, rv b4, .unset, .unset, .unset, .unset, .unset] [] 68 rfl
  have G19 := gd X19 hx hby
  have N19 := Fr.snoc X19 N12 g_b4
  have f21 := f14.wr W19
  have Z19 := Nat.le_trans Z12 (Keep.of_wr W19).1
  have V19 : Arv Z h19 b4 k4 .int (4 : Int32) [(.int (0 : Int32)), (.int x11), (.int x18), (.int (0 : Int32))] (.int (0 : Int32)) := Vs19
  obtain ⟨x25, hx25⟩ : ∃ z : Int32, z = (if x3 = (3 : Int32) then (3 : Int32) else (([(0 : Int32), x11, x18, (0 : Int32)] : List Int32).getD x3.toNatClampNeg (0 : Int32))) := ⟨_, rfl⟩
  obtain ⟨T24, X24, e24, st24⟩ : ∃ T' : State, Stand p l e room_1 s m #[(.int p0), (.int p1), (.int p2), (.int p3), (.int p4)] below meth c T' ((([] ++ [⟨b4, ((0 : Int32)).toNatClampNeg⟩]) ++ [⟨b4, ((1 : Int32)).toNatClampNeg⟩]) ++ [⟨b4, ((2 : Int32)).toNatClampNeg⟩]) 1 4 ∧ T'.heap = h19 ∧ ∀ target, Steps p.tables e below (T'.setTop (mkF m 86 #[iv p0, iv p1, iv p2, iv p3, iv p4, iv x1, iv x2, iv x3, rv b4, .unset, .unset, .unset, .unset, .unset] [(.int x25), (.int (3 : Int32)), (.ref b4)])) target → Steps p.tables e below (T19.setTop (mkF m 74 #[iv p0, iv p1, iv p2, iv p3, iv p4, iv x1, iv x2, iv x3, rv b4, .unset, .unset, .unset, .unset, .unset] [(.int (3 : Int32)), (.int x3), (.int (3 : Int32)), (.ref b4)])) target := by
    by_cases hc74_23 : x3 = (3 : Int32)
    · refine ⟨T19, X19, e19, fun target kt => ?_⟩
      refine micmpNo 77 G19 at_74 (teq hc74_23).2 rfl ?_
      refine miconst 78 G19 at_77 (v := (3 : Int32)) rfl rfl ?_
      refine mgoto 86 G19 at_78 (by decide) rfl ?_
      exact castTop (g' := (mkF m 86 #[iv p0, iv p1, iv p2, iv p3, iv p4, iv x1, iv x2, iv x3, rv b4, .unset, .unset, .unset, .unset, .unset] [(.int x25), (.int (3 : Int32)), (.ref b4)])) (by simp only [hx25, if_pos hc74_23]) kt
    · refine ⟨T19, X19, e19, fun target kt => ?_⟩
      refine micmpYes 81 G19 at_74 (feq hc74_23).2 (by decide) rfl ?_
      refine maload 83 G19 at_81 rfl rfl rfl ?_
      refine miload 85 G19 at_83 rfl rfl ?_
      refine miaload 86 X19 hx hby hZ e19 V19 (v := (([(0 : Int32), x11, x18, (0 : Int32)] : List Int32).getD x3.toNatClampNeg (0 : Int32))) at_85 (own_rm0_not_hin85 p0 p1 p2 p3 p4 x1 hx1 x2 hx2 x3 hx3 x11 hx11 x18 hx18 hc74_23 hal) (own_getDI ([(0 : Int32), x11, x18, (0 : Int32)] : List Int32) _ _) rfl ?_
      exact castTop (g' := (mkF m 86 #[iv p0, iv p1, iv p2, iv p3, iv p4, iv x1, iv x2, iv x3, rv b4, .unset, .unset, .unset, .unset, .unset] [(.int x25), (.int (3 : Int32)), (.ref b4)])) (by simp only [hx25, if_neg hc74_23]) kt
  have G24 := gd X24 hx hby
  obtain ⟨T26, h26, X26, e26, W26, Vs26, st26⟩ := own_stI X24 hx hby hZ e24 V19 (j := (3 : Int32)) (v := x25) at_86 ⟨by decide, by decide⟩ 3 rfl (Nat.le_of_ble_eq_true rfl) #[iv p0, iv p1, iv p2, iv p3, iv p4, iv x1, iv x2, iv x3, rv b4, .unset, .unset, .unset, .unset, .unset] [] 87 rfl
  have G26 := gd X26 hx hby
  have N26 := Fr.snoc X26 N19 g_b4
  have f28 := f21.wr W26
  have Z26 := Nat.le_trans Z19 (Keep.of_wr W26).1
  have V26 : Arv Z h26 b4 k4 .int (4 : Int32) [(.int (0 : Int32)), (.int x11), (.int x18), (.int x25)] (.int (0 : Int32)) := Vs26
  obtain ⟨T30, h30, k30, X30, e30, E30, A30, Xa30, st30⟩ := newPE X26 hx hZ (wd hw 1 rfl) e26 (g := (mkF m 88 #[iv p0, iv p1, iv p2, iv p3, iv p4, iv x1, iv x2, iv x3, rv b4, .unset, .unset, .unset, .unset, .unset] [(.int (4 : Int32))])) rfl (hb hby at_88) rfl (by decide) (cap := 4) (by decide) (by decide) (by decide) (by decide) (ad := "[D") (by decide)
  have G30 := gd X30 hx hby
  obtain ⟨b30, g30⟩ : ∃ z, z = h26.size := ⟨_, rfl⟩
  rw [← g30] at A30 Xa30 st30
  have ne_b4_b30 : b4 ≠ b30 := Nat.ne_of_lt (Nat.lt_of_lt_of_le f28.lt (Nat.le_of_eq g30.symm))
  have g_b30 : n0 ≤ b30 := Nat.le_trans Z26 (Nat.le_of_eq g30.symm)
  have f31 := f28.ext E30
  have f32 := V26.ext E30
  have Z30 := Nat.le_trans Z26 E30.1
  have V_b30 : Arv Z h30 b30 k30 .double (4 : Int32) [(.double (0 : UInt64)), (.double (0 : UInt64)), (.double (0 : UInt64)), (.double (0 : UInt64))] (.double (0 : UInt64)) := (Arv.new A30 (by decide)).pad (pad_rep [] (.double (0 : UInt64)) 4)
  obtain ⟨x33, hx33⟩ : ∃ z : UInt64, z = (FP.i2d (p1 &&& (1048575 : Int32))) := ⟨_, rfl⟩
  obtain ⟨T34, h34, X34, e34, W34, Vs34, st34⟩ := own_stD X30 hx hby hZ e30 V_b30 (j := (0 : Int32)) (v := x33) at_100 ⟨by decide, by decide⟩ 0 rfl (Nat.le_of_ble_eq_true rfl) #[iv p0, iv p1, iv p2, iv p3, iv p4, iv x1, iv x2, iv x3, rv b4, rv b30, .unset, .unset, .unset, .unset] [] 101 rfl
  have G34 := gd X34 hx hby
  have N34 := Fr.snoc X34 N26 g_b30
  have f36 := f31.wr W34
  have f37 := f32.other W34 ne_b4_b30
  have f40 := Xa30.wr W34
  have Z34 := Nat.le_trans Z30 (Keep.of_wr W34).1
  have V34 : Arv Z h34 b30 k30 .double (4 : Int32) [(.double x33), (.double (0 : UInt64)), (.double (0 : UInt64)), (.double (0 : UInt64))] (.double (0 : UInt64)) := Vs34
  obtain ⟨x42, hx42⟩ : ∃ z : UInt64, z = (FP.i2d (p2 &&& (1048575 : Int32))) := ⟨_, rfl⟩
  obtain ⟨T43, h43, X43, e43, W43, Vs43, st43⟩ := own_stD X34 hx hby hZ e34 V34 (j := (1 : Int32)) (v := x42) at_109 ⟨by decide, by decide⟩ 1 rfl (Nat.le_of_ble_eq_true rfl) #[iv p0, iv p1, iv p2, iv p3, iv p4, iv x1, iv x2, iv x3, rv b4, rv b30, .unset, .unset, .unset, .unset] [] 110 rfl
  have G43 := gd X43 hx hby
  have N43 := Fr.snoc X43 N34 g_b30
  have f45 := f36.wr W43
  have f46 := f37.other W43 ne_b4_b30
  have f49 := f40.wr W43
  have Z43 := Nat.le_trans Z34 (Keep.of_wr W43).1
  have V43 : Arv Z h43 b30 k30 .double (4 : Int32) [(.double x33), (.double x42), (.double (0 : UInt64)), (.double (0 : UInt64))] (.double (0 : UInt64)) := Vs43
  obtain ⟨x51, hx51⟩ : ∃ z : UInt64, z = (FP.i2d (p3 &&& (1048575 : Int32))) := ⟨_, rfl⟩
  obtain ⟨T52, h52, X52, e52, W52, Vs52, st52⟩ := own_stD X43 hx hby hZ e43 V43 (j := (2 : Int32)) (v := x51) at_118 ⟨by decide, by decide⟩ 2 rfl (Nat.le_of_ble_eq_true rfl) #[iv p0, iv p1, iv p2, iv p3, iv p4, iv x1, iv x2, iv x3, rv b4, rv b30, .unset, .unset, .unset, .unset] [] 119 rfl
  have G52 := gd X52 hx hby
  have N52 := Fr.snoc X52 N43 g_b30
  have f54 := f45.wr W52
  have f55 := f46.other W52 ne_b4_b30
  have f58 := f49.wr W52
  have Z52 := Nat.le_trans Z43 (Keep.of_wr W52).1
  have V52 : Arv Z h52 b30 k30 .double (4 : Int32) [(.double x33), (.double x42), (.double x51), (.double (0 : UInt64))] (.double (0 : UInt64)) := Vs52
  obtain ⟨x60, hx60⟩ : ∃ z : UInt64, z = (FP.i2d (p4 &&& (1048575 : Int32))) := ⟨_, rfl⟩
  obtain ⟨T61, h61, X61, e61, W61, Vs61, st61⟩ := own_stD X52 hx hby hZ e52 V52 (j := (3 : Int32)) (v := x60) at_128 ⟨by decide, by decide⟩ 3 rfl (Nat.le_of_ble_eq_true rfl) #[iv p0, iv p1, iv p2, iv p3, iv p4, iv x1, iv x2, iv x3, rv b4, rv b30, .unset, .unset, .unset, .unset] [] 129 rfl
  have G61 := gd X61 hx hby
  have N61 := Fr.snoc X61 N52 g_b30
  have f63 := f54.wr W61
  have f64 := f55.other W61 ne_b4_b30
  have f67 := f58.wr W61
  have Z61 := Nat.le_trans Z52 (Keep.of_wr W61).1
  have V61 : Arv Z h61 b30 k30 .double (4 : Int32) [(.double x33), (.double x42), (.double x51), (.double x60)] (.double (0 : UInt64)) := Vs61
  obtain ⟨T69, h69, k69, X69, e69, E69, A69, Xa69, st69⟩ := newPE X61 hx hZ (wd hw 1 rfl) e61 (g := (mkF m 130 #[iv p0, iv p1, iv p2, iv p3, iv p4, iv x1, iv x2, iv x3, rv b4, rv b30, .unset, .unset, .unset, .unset] [(.int (4 : Int32))])) rfl (hb hby at_130) rfl (by decide) (cap := 4) (by decide) (by decide) (by decide) (by decide) (ad := "[D") (by decide)
  have G69 := gd X69 hx hby
  obtain ⟨b69, g69⟩ : ∃ z, z = h61.size := ⟨_, rfl⟩
  rw [← g69] at A69 Xa69 st69
  have ne_b4_b69 : b4 ≠ b69 := Nat.ne_of_lt (Nat.lt_of_lt_of_le f63.lt (Nat.le_of_eq g69.symm))
  have ne_b30_b69 : b30 ≠ b69 := Nat.ne_of_lt (Nat.lt_of_lt_of_le f67.lt (Nat.le_of_eq g69.symm))
  have g_b69 : n0 ≤ b69 := Nat.le_trans Z61 (Nat.le_of_eq g69.symm)
  have f70 := f63.ext E69
  have f71 := f64.ext E69
  have f72 := f67.ext E69
  have f73 := V61.ext E69
  have Z69 := Nat.le_trans Z61 E69.1
  have V_b69 : Arv Z h69 b69 k69 .double (4 : Int32) [(.double (0 : UInt64)), (.double (0 : UInt64)), (.double (0 : UInt64)), (.double (0 : UInt64))] (.double (0 : UInt64)) := (Arv.new A69 (by decide)).pad (pad_rep [] (.double (0 : UInt64)) 4)
  obtain ⟨T74, h74, X74, e74, W74, Vs74, st74⟩ := own_stD X69 hx hby hZ e69 V_b69 (j := (0 : Int32)) (v := x33) at_141 ⟨by decide, by decide⟩ 0 rfl (Nat.le_of_ble_eq_true rfl) #[iv p0, iv p1, iv p2, iv p3, iv p4, iv x1, iv x2, iv x3, rv b4, rv b30, rv b69, .unset, .unset, .unset] [] 142 rfl
  have G74 := gd X74 hx hby
  have N74 := Fr.snoc X74 N61 g_b69
  have f76 := f70.wr W74
  have f77 := f71.other W74 ne_b4_b69
  have f80 := f72.wr W74
  have f81 := f73.other W74 ne_b30_b69
  have f85 := Xa69.wr W74
  have Z74 := Nat.le_trans Z69 (Keep.of_wr W74).1
  have V74 : Arv Z h74 b69 k69 .double (4 : Int32) [(.double x33), (.double (0 : UInt64)), (.double (0 : UInt64)), (.double (0 : UInt64))] (.double (0 : UInt64)) := Vs74
  obtain ⟨T87, h87, X87, e87, W87, Vs87, st87⟩ := own_stD X74 hx hby hZ e74 V74 (j := (1 : Int32)) (v := x42) at_149 ⟨by decide, by decide⟩ 1 rfl (Nat.le_of_ble_eq_true rfl) #[iv p0, iv p1, iv p2, iv p3, iv p4, iv x1, iv x2, iv x3, rv b4, rv b30, rv b69, .unset, .unset, .unset] [] 150 rfl
  have G87 := gd X87 hx hby
  have N87 := Fr.snoc X87 N74 g_b69
  have f89 := f76.wr W87
  have f90 := f77.other W87 ne_b4_b69
  have f93 := f80.wr W87
  have f94 := f81.other W87 ne_b30_b69
  have f98 := f85.wr W87
  have Z87 := Nat.le_trans Z74 (Keep.of_wr W87).1
  have V87 : Arv Z h87 b69 k69 .double (4 : Int32) [(.double x33), (.double x42), (.double (0 : UInt64)), (.double (0 : UInt64))] (.double (0 : UInt64)) := Vs87
  obtain ⟨T100, h100, X100, e100, W100, Vs100, st100⟩ := own_stD X87 hx hby hZ e87 V87 (j := (2 : Int32)) (v := x51) at_157 ⟨by decide, by decide⟩ 2 rfl (Nat.le_of_ble_eq_true rfl) #[iv p0, iv p1, iv p2, iv p3, iv p4, iv x1, iv x2, iv x3, rv b4, rv b30, rv b69, .unset, .unset, .unset] [] 158 rfl
  have G100 := gd X100 hx hby
  have N100 := Fr.snoc X100 N87 g_b69
  have f102 := f89.wr W100
  have f103 := f90.other W100 ne_b4_b69
  have f106 := f93.wr W100
  have f107 := f94.other W100 ne_b30_b69
  have f111 := f98.wr W100
  have Z100 := Nat.le_trans Z87 (Keep.of_wr W100).1
  have V100 : Arv Z h100 b69 k69 .double (4 : Int32) [(.double x33), (.double x42), (.double x51), (.double (0 : UInt64))] (.double (0 : UInt64)) := Vs100
  obtain ⟨T113, h113, X113, e113, W113, Vs113, st113⟩ := own_stD X100 hx hby hZ e100 V100 (j := (3 : Int32)) (v := x60) at_165 ⟨by decide, by decide⟩ 3 rfl (Nat.le_of_ble_eq_true rfl) #[iv p0, iv p1, iv p2, iv p3, iv p4, iv x1, iv x2, iv x3, rv b4, rv b30, rv b69, .unset, .unset, .unset] [] 166 rfl
  have G113 := gd X113 hx hby
  have N113 := Fr.snoc X113 N100 g_b69
  have f115 := f102.wr W113
  have f116 := f103.other W113 ne_b4_b69
  have f119 := f106.wr W113
  have f120 := f107.other W113 ne_b30_b69
  have f124 := f111.wr W113
  have Z113 := Nat.le_trans Z100 (Keep.of_wr W113).1
  have V113 : Arv Z h113 b69 k69 .double (4 : Int32) [(.double x33), (.double x42), (.double x51), (.double x60)] (.double (0 : UInt64)) := Vs113
  obtain ⟨T126, h126, k126, X126, e126, E126, A126, Xa126, st126⟩ := newPE X113 hx hZ (wd hw 1 rfl) e113 (g := (mkF m 167 #[iv p0, iv p1, iv p2, iv p3, iv p4, iv x1, iv x2, iv x3, rv b4, rv b30, rv b69, .unset, .unset, .unset] [(.int (4 : Int32))])) rfl (hb hby at_167) rfl (by decide) (cap := 4) (by decide) (by decide) (by decide) (by decide) (ad := "[D") (by decide)
  have G126 := gd X126 hx hby
  obtain ⟨b126, g126⟩ : ∃ z, z = h113.size := ⟨_, rfl⟩
  rw [← g126] at A126 Xa126 st126
  have ne_b4_b126 : b4 ≠ b126 := Nat.ne_of_lt (Nat.lt_of_lt_of_le f115.lt (Nat.le_of_eq g126.symm))
  have ne_b30_b126 : b30 ≠ b126 := Nat.ne_of_lt (Nat.lt_of_lt_of_le f119.lt (Nat.le_of_eq g126.symm))
  have ne_b69_b126 : b69 ≠ b126 := Nat.ne_of_lt (Nat.lt_of_lt_of_le f124.lt (Nat.le_of_eq g126.symm))
  have g_b126 : n0 ≤ b126 := Nat.le_trans Z113 (Nat.le_of_eq g126.symm)
  have f127 := f115.ext E126
  have f128 := f116.ext E126
  have f129 := f119.ext E126
  have f130 := f120.ext E126
  have f131 := f124.ext E126
  have f132 := V113.ext E126
  have Z126 := Nat.le_trans Z113 E126.1
  have V_b126 : Arv Z h126 b126 k126 .double (4 : Int32) [(.double (0 : UInt64)), (.double (0 : UInt64)), (.double (0 : UInt64)), (.double (0 : UInt64))] (.double (0 : UInt64)) := (Arv.new A126 (by decide)).pad (pad_rep [] (.double (0 : UInt64)) 4)
  obtain ⟨T133, h133, X133, e133, W133, Vs133, st133⟩ := own_stD X126 hx hby hZ e126 V_b126 (j := (0 : Int32)) (v := (4607182418800017408 : UInt64)) at_172 ⟨by decide, by decide⟩ 0 rfl (Nat.le_of_ble_eq_true rfl) #[iv p0, iv p1, iv p2, iv p3, iv p4, iv x1, iv x2, iv x3, rv b4, rv b30, rv b69, .unset, .unset, .unset] [(.ref b126)] 173 rfl
  have G133 := gd X133 hx hby
  have N133 := Fr.snoc X133 N113 g_b126
  have f135 := f127.wr W133
  have f136 := f128.other W133 ne_b4_b126
  have f139 := f129.wr W133
  have f140 := f130.other W133 ne_b30_b126
  have f144 := f131.wr W133
  have f145 := f132.other W133 ne_b69_b126
  have f150 := Xa126.wr W133
  have Z133 := Nat.le_trans Z126 (Keep.of_wr W133).1
  have V133 : Arv Z h133 b126 k126 .double (4 : Int32) [(.double (4607182418800017408 : UInt64)), (.double (0 : UInt64)), (.double (0 : UInt64)), (.double (0 : UInt64))] (.double (0 : UInt64)) := Vs133
  obtain ⟨T152, h152, X152, e152, W152, Vs152, st152⟩ := own_stD X133 hx hby hZ e133 V133 (j := (1 : Int32)) (v := (4607182418800017408 : UInt64)) at_176 ⟨by decide, by decide⟩ 1 rfl (Nat.le_of_ble_eq_true rfl) #[iv p0, iv p1, iv p2, iv p3, iv p4, iv x1, iv x2, iv x3, rv b4, rv b30, rv b69, .unset, .unset, .unset] [(.ref b126)] 177 rfl
  have G152 := gd X152 hx hby
  have N152 := Fr.snoc X152 N133 g_b126
  have f154 := f135.wr W152
  have f155 := f136.other W152 ne_b4_b126
  have f158 := f139.wr W152
  have f159 := f140.other W152 ne_b30_b126
  have f163 := f144.wr W152
  have f164 := f145.other W152 ne_b69_b126
  have f169 := f150.wr W152
  have Z152 := Nat.le_trans Z133 (Keep.of_wr W152).1
  have V152 : Arv Z h152 b126 k126 .double (4 : Int32) [(.double (4607182418800017408 : UInt64)), (.double (4607182418800017408 : UInt64)), (.double (0 : UInt64)), (.double (0 : UInt64))] (.double (0 : UInt64)) := Vs152
  obtain ⟨T171, h171, X171, e171, W171, Vs171, st171⟩ := own_stD X152 hx hby hZ e152 V152 (j := (2 : Int32)) (v := (4607182418800017408 : UInt64)) at_180 ⟨by decide, by decide⟩ 2 rfl (Nat.le_of_ble_eq_true rfl) #[iv p0, iv p1, iv p2, iv p3, iv p4, iv x1, iv x2, iv x3, rv b4, rv b30, rv b69, .unset, .unset, .unset] [(.ref b126)] 181 rfl
  have G171 := gd X171 hx hby
  have N171 := Fr.snoc X171 N152 g_b126
  have f173 := f154.wr W171
  have f174 := f155.other W171 ne_b4_b126
  have f177 := f158.wr W171
  have f178 := f159.other W171 ne_b30_b126
  have f182 := f163.wr W171
  have f183 := f164.other W171 ne_b69_b126
  have f188 := f169.wr W171
  have Z171 := Nat.le_trans Z152 (Keep.of_wr W171).1
  have V171 : Arv Z h171 b126 k126 .double (4 : Int32) [(.double (4607182418800017408 : UInt64)), (.double (4607182418800017408 : UInt64)), (.double (4607182418800017408 : UInt64)), (.double (0 : UInt64))] (.double (0 : UInt64)) := Vs171
  obtain ⟨T190, h190, X190, e190, W190, Vs190, st190⟩ := own_stD X171 hx hby hZ e171 V171 (j := (3 : Int32)) (v := (4607182418800017408 : UInt64)) at_184 ⟨by decide, by decide⟩ 3 rfl (Nat.le_of_ble_eq_true rfl) #[iv p0, iv p1, iv p2, iv p3, iv p4, iv x1, iv x2, iv x3, rv b4, rv b30, rv b69, .unset, .unset, .unset] [(.ref b126)] 185 rfl
  have G190 := gd X190 hx hby
  have N190 := Fr.snoc X190 N171 g_b126
  have f192 := f173.wr W190
  have f193 := f174.other W190 ne_b4_b126
  have f196 := f177.wr W190
  have f197 := f178.other W190 ne_b30_b126
  have f201 := f182.wr W190
  have f202 := f183.other W190 ne_b69_b126
  have f207 := f188.wr W190
  have Z190 := Nat.le_trans Z171 (Keep.of_wr W190).1
  have V190 : Arv Z h190 b126 k126 .double (4 : Int32) [(.double (4607182418800017408 : UInt64)), (.double (4607182418800017408 : UInt64)), (.double (4607182418800017408 : UInt64)), (.double (4607182418800017408 : UInt64))] (.double (0 : UInt64)) := Vs190
  obtain ⟨T209, h209, k209, X209, e209, E209, A209, Xa209, st209⟩ := newPE X190 hx hZ (wd hw 1 rfl) e190 (g := (mkF m 188 #[iv p0, iv p1, iv p2, iv p3, iv p4, iv x1, iv x2, iv x3, rv b4, rv b30, rv b69, rv b126, .unset, .unset] [(.int (4 : Int32))])) rfl (hb hby at_188) rfl (by decide) (cap := 4) (by decide) (by decide) (by decide) (by decide) (ad := "[D") (by decide)
  have G209 := gd X209 hx hby
  obtain ⟨b209, g209⟩ : ∃ z, z = h190.size := ⟨_, rfl⟩
  rw [← g209] at A209 Xa209 st209
  have ne_b4_b209 : b4 ≠ b209 := Nat.ne_of_lt (Nat.lt_of_lt_of_le f192.lt (Nat.le_of_eq g209.symm))
  have ne_b30_b209 : b30 ≠ b209 := Nat.ne_of_lt (Nat.lt_of_lt_of_le f196.lt (Nat.le_of_eq g209.symm))
  have ne_b69_b209 : b69 ≠ b209 := Nat.ne_of_lt (Nat.lt_of_lt_of_le f201.lt (Nat.le_of_eq g209.symm))
  have ne_b126_b209 : b126 ≠ b209 := Nat.ne_of_lt (Nat.lt_of_lt_of_le f207.lt (Nat.le_of_eq g209.symm))
  have g_b209 : n0 ≤ b209 := Nat.le_trans Z190 (Nat.le_of_eq g209.symm)
  have f210 := f192.ext E209
  have f211 := f193.ext E209
  have f212 := f196.ext E209
  have f213 := f197.ext E209
  have f214 := f201.ext E209
  have f215 := f202.ext E209
  have f216 := f207.ext E209
  have f217 := V190.ext E209
  have Z209 := Nat.le_trans Z190 E209.1
  have V_b209 : Arv Z h209 b209 k209 .double (4 : Int32) [(.double (0 : UInt64)), (.double (0 : UInt64)), (.double (0 : UInt64)), (.double (0 : UInt64))] (.double (0 : UInt64)) := (Arv.new A209 (by decide)).pad (pad_rep [] (.double (0 : UInt64)) 4)
  obtain ⟨T218, h218, X218, e218, W218, Vs218, st218⟩ := own_stD X209 hx hby hZ e209 V_b209 (j := (0 : Int32)) (v := (4607182418800017408 : UInt64)) at_193 ⟨by decide, by decide⟩ 0 rfl (Nat.le_of_ble_eq_true rfl) #[iv p0, iv p1, iv p2, iv p3, iv p4, iv x1, iv x2, iv x3, rv b4, rv b30, rv b69, rv b126, .unset, .unset] [(.ref b209)] 194 rfl
  have G218 := gd X218 hx hby
  have N218 := Fr.snoc X218 N190 g_b209
  have f220 := f210.wr W218
  have f221 := f211.other W218 ne_b4_b209
  have f224 := f212.wr W218
  have f225 := f213.other W218 ne_b30_b209
  have f229 := f214.wr W218
  have f230 := f215.other W218 ne_b69_b209
  have f235 := f216.wr W218
  have f236 := f217.other W218 ne_b126_b209
  have f242 := Xa209.wr W218
  have Z218 := Nat.le_trans Z209 (Keep.of_wr W218).1
  have V218 : Arv Z h218 b209 k209 .double (4 : Int32) [(.double (4607182418800017408 : UInt64)), (.double (0 : UInt64)), (.double (0 : UInt64)), (.double (0 : UInt64))] (.double (0 : UInt64)) := Vs218
  obtain ⟨T244, h244, X244, e244, W244, Vs244, st244⟩ := own_stD X218 hx hby hZ e218 V218 (j := (1 : Int32)) (v := (4607182418800017408 : UInt64)) at_197 ⟨by decide, by decide⟩ 1 rfl (Nat.le_of_ble_eq_true rfl) #[iv p0, iv p1, iv p2, iv p3, iv p4, iv x1, iv x2, iv x3, rv b4, rv b30, rv b69, rv b126, .unset, .unset] [(.ref b209)] 198 rfl
  have G244 := gd X244 hx hby
  have N244 := Fr.snoc X244 N218 g_b209
  have f246 := f220.wr W244
  have f247 := f221.other W244 ne_b4_b209
  have f250 := f224.wr W244
  have f251 := f225.other W244 ne_b30_b209
  have f255 := f229.wr W244
  have f256 := f230.other W244 ne_b69_b209
  have f261 := f235.wr W244
  have f262 := f236.other W244 ne_b126_b209
  have f268 := f242.wr W244
  have Z244 := Nat.le_trans Z218 (Keep.of_wr W244).1
  have V244 : Arv Z h244 b209 k209 .double (4 : Int32) [(.double (4607182418800017408 : UInt64)), (.double (4607182418800017408 : UInt64)), (.double (0 : UInt64)), (.double (0 : UInt64))] (.double (0 : UInt64)) := Vs244
  obtain ⟨T270, h270, X270, e270, W270, Vs270, st270⟩ := own_stD X244 hx hby hZ e244 V244 (j := (2 : Int32)) (v := (4607182418800017408 : UInt64)) at_201 ⟨by decide, by decide⟩ 2 rfl (Nat.le_of_ble_eq_true rfl) #[iv p0, iv p1, iv p2, iv p3, iv p4, iv x1, iv x2, iv x3, rv b4, rv b30, rv b69, rv b126, .unset, .unset] [(.ref b209)] 202 rfl
  have G270 := gd X270 hx hby
  have N270 := Fr.snoc X270 N244 g_b209
  have f272 := f246.wr W270
  have f273 := f247.other W270 ne_b4_b209
  have f276 := f250.wr W270
  have f277 := f251.other W270 ne_b30_b209
  have f281 := f255.wr W270
  have f282 := f256.other W270 ne_b69_b209
  have f287 := f261.wr W270
  have f288 := f262.other W270 ne_b126_b209
  have f294 := f268.wr W270
  have Z270 := Nat.le_trans Z244 (Keep.of_wr W270).1
  have V270 : Arv Z h270 b209 k209 .double (4 : Int32) [(.double (4607182418800017408 : UInt64)), (.double (4607182418800017408 : UInt64)), (.double (4607182418800017408 : UInt64)), (.double (0 : UInt64))] (.double (0 : UInt64)) := Vs270
  obtain ⟨T296, h296, X296, e296, W296, Vs296, st296⟩ := own_stD X270 hx hby hZ e270 V270 (j := (3 : Int32)) (v := (4607182418800017408 : UInt64)) at_205 ⟨by decide, by decide⟩ 3 rfl (Nat.le_of_ble_eq_true rfl) #[iv p0, iv p1, iv p2, iv p3, iv p4, iv x1, iv x2, iv x3, rv b4, rv b30, rv b69, rv b126, .unset, .unset] [(.ref b209)] 206 rfl
  have G296 := gd X296 hx hby
  have N296 := Fr.snoc X296 N270 g_b209
  have f298 := f272.wr W296
  have f299 := f273.other W296 ne_b4_b209
  have f302 := f276.wr W296
  have f303 := f277.other W296 ne_b30_b209
  have f307 := f281.wr W296
  have f308 := f282.other W296 ne_b69_b209
  have f313 := f287.wr W296
  have f314 := f288.other W296 ne_b126_b209
  have f320 := f294.wr W296
  have Z296 := Nat.le_trans Z270 (Keep.of_wr W296).1
  have V296 : Arv Z h296 b209 k209 .double (4 : Int32) [(.double (4607182418800017408 : UInt64)), (.double (4607182418800017408 : UInt64)), (.double (4607182418800017408 : UInt64)), (.double (4607182418800017408 : UInt64))] (.double (0 : UInt64)) := Vs296
  obtain ⟨T322, h322, X322, e322, E322, A322, D322, -, st322⟩ := newO X296 hx hZ hown (wd hw 3 rfl) (wd hw 4 rfl) (wd hw 5 rfl) e296 (g := (mkF m 208 #[iv p0, iv p1, iv p2, iv p3, iv p4, iv x1, iv x2, iv x3, rv b4, rv b30, rv b69, rv b126, rv b209, .unset] [])) rfl (hb hby at_208) (by decide) (by decide)
  have G322 := gd X322 hx hby
  obtain ⟨b322, g322⟩ : ∃ z, z = h296.size := ⟨_, rfl⟩
  rw [← g322] at A322 D322 st322
  have ne_b4_b322 : b4 ≠ b322 := Nat.ne_of_lt (Nat.lt_of_lt_of_le f298.lt (Nat.le_of_eq g322.symm))
  have ne_b30_b322 : b30 ≠ b322 := Nat.ne_of_lt (Nat.lt_of_lt_of_le f302.lt (Nat.le_of_eq g322.symm))
  have ne_b69_b322 : b69 ≠ b322 := Nat.ne_of_lt (Nat.lt_of_lt_of_le f307.lt (Nat.le_of_eq g322.symm))
  have ne_b126_b322 : b126 ≠ b322 := Nat.ne_of_lt (Nat.lt_of_lt_of_le f313.lt (Nat.le_of_eq g322.symm))
  have ne_b209_b322 : b209 ≠ b322 := Nat.ne_of_lt (Nat.lt_of_lt_of_le f320.lt (Nat.le_of_eq g322.symm))
  have g_b322 : n0 ≤ b322 := Nat.le_trans Z296 (Nat.le_of_eq g322.symm)
  have f323 := f298.ext E322
  have f324 := f299.ext E322
  have f325 := f302.ext E322
  have f326 := f303.ext E322
  have f327 := f307.ext E322
  have f328 := f308.ext E322
  have f329 := f313.ext E322
  have f330 := f314.ext E322
  have f331 := f320.ext E322
  have f332 := V296.ext E322
  have Z322 := Nat.le_trans Z296 E322.1
  have F_absolute_b322 : Fld Z h322 b322 "com/example/oceanus/oceanus/numerics/Tolerances" "absolute" "[D" .null := D322 (Or.inr (wd hw 31 rfl)) (ty := (.array .double)) (by decide)
  have F_relative_b322 : Fld Z h322 b322 "com/example/oceanus/oceanus/numerics/Tolerances" "relative" "[D" .null := D322 (Or.inr (wd hw 33 rfl)) (ty := (.array .double)) (by decide)
  have F_groups_b322 : Fld Z h322 b322 "com/example/oceanus/oceanus/numerics/Tolerances" "groups" "[I" .null := D322 (Or.inr (wd hw 41 rfl)) (ty := (.array .int)) (by decide)
  obtain ⟨_, _, ⟨T333, L333, k333, n333⟩, -, X333, ⟨Lc333, hQ333, l333, y333, z333⟩, st333⟩ := X322.specialBack hx (y := (⟨"com/example/oceanus/oceanus/numerics/Tolerances", "<init>", "([D[D[I)V"⟩ : MethodName)) rfl hown (mvT hZ (wd hw 6 rfl)) (mvT hZ (wd hw 7 rfl)) (mvT hZ (wd hw 8 rfl)) (by decide) (backOf (W := 1) (rm1_not l Z a0 hw [] b322 b126 b209 b4 h322 n0 Z322 (own_rm0_not_hp_hok_218 p0 p1 p2 p3 p4 x1 hx1 x2 hx2 x3 hx3 x11 hx11 x18 hx18 x25 hx25 x33 hx33 x42 hx42 x51 hx51 x60 hx60 hal) (own_rm0_not_hp_hal_218 p0 p1 p2 p3 p4 x1 hx1 x2 hx2 x3 hx3 x11 hx11 x18 hx18 x25 hx25 x33 hx33 x42 hx42 x51 hx51 x60 hx60 hal) A322 g_b322 F_absolute_b322 F_relative_b322 F_groups_b322 (Ne.symm ne_b126_b322) (Ne.symm ne_b209_b322) (Ne.symm ne_b4_b322) f329 f331 f323 f330 f332 f324) hZ (wd hw 8 rfl) (wd hw 5 rfl) (by decide) (by decide)) (g := (mkF m 218 #[iv p0, iv p1, iv p2, iv p3, iv p4, iv x1, iv x2, iv x3, rv b4, rv b30, rv b69, rv b126, rv b209, .unset] [(.ref b4), (.ref b209), (.ref b126), (.ref b322), (.ref b322)])) rfl (by rw [hml]; rfl) (Steps.refl _) (a := b322) (argsL := [(.ref b126), (.ref b209), (.ref b4)]) (rest := [(.ref b322)]) (lenOf pd_2 rfl) rfl (by show 2 * 0 + _ ≤ _; exact Nat.le_of_eq rfl) (hb hby at_218) (fun _ _ => ⟨rfl, e322, (by decide : 6 + 3 ≤ _), (by decide : 23 + 12 ≤ _)⟩)
  dsimp only [Pt.U, Pt.locs, Pt.cells, Pt.slots] at X333 l333 y333 z333 st333 hQ333
  replace l333 : ((((((((((((((((((((([] ++ [⟨b4, ((0 : Int32)).toNatClampNeg⟩]) ++ [⟨b4, ((1 : Int32)).toNatClampNeg⟩]) ++ [⟨b4, ((2 : Int32)).toNatClampNeg⟩]) ++ [⟨b4, ((3 : Int32)).toNatClampNeg⟩]) ++ [⟨b30, ((0 : Int32)).toNatClampNeg⟩]) ++ [⟨b30, ((1 : Int32)).toNatClampNeg⟩]) ++ [⟨b30, ((2 : Int32)).toNatClampNeg⟩]) ++ [⟨b30, ((3 : Int32)).toNatClampNeg⟩]) ++ [⟨b69, ((0 : Int32)).toNatClampNeg⟩]) ++ [⟨b69, ((1 : Int32)).toNatClampNeg⟩]) ++ [⟨b69, ((2 : Int32)).toNatClampNeg⟩]) ++ [⟨b69, ((3 : Int32)).toNatClampNeg⟩]) ++ [⟨b126, ((0 : Int32)).toNatClampNeg⟩]) ++ [⟨b126, ((1 : Int32)).toNatClampNeg⟩]) ++ [⟨b126, ((2 : Int32)).toNatClampNeg⟩]) ++ [⟨b126, ((3 : Int32)).toNatClampNeg⟩]) ++ [⟨b209, ((0 : Int32)).toNatClampNeg⟩]) ++ [⟨b209, ((1 : Int32)).toNatClampNeg⟩]) ++ [⟨b209, ((2 : Int32)).toNatClampNeg⟩]) ++ [⟨b209, ((3 : Int32)).toNatClampNeg⟩]) ++ Lc333) = L333 := l333.symm
  subst l333 y333 z333
  obtain ⟨b333_0, kb333_0, rfl, Nq333, K333, Eq333, Fq333_0, g_b333_0, sq_b333_0, Vq_b333_0⟩ := hQ333
  have N333 := Fr.app N296 Nq333
  have ne_b4_b333_0 : b4 ≠ b333_0 := Nat.ne_of_lt (Nat.lt_of_lt_of_le f323.lt sq_b333_0)
  have ne_b30_b333_0 : b30 ≠ b333_0 := Nat.ne_of_lt (Nat.lt_of_lt_of_le f325.lt sq_b333_0)
  have ne_b69_b333_0 : b69 ≠ b333_0 := Nat.ne_of_lt (Nat.lt_of_lt_of_le f327.lt sq_b333_0)
  have ne_b126_b333_0 : b126 ≠ b333_0 := Nat.ne_of_lt (Nat.lt_of_lt_of_le f329.lt sq_b333_0)
  have ne_b209_b333_0 : b209 ≠ b333_0 := Nat.ne_of_lt (Nat.lt_of_lt_of_le f331.lt sq_b333_0)
  have ne_b322_b333_0 : b322 ≠ b333_0 := Nat.ne_of_lt (Nat.lt_of_lt_of_le F_absolute_b322.lt sq_b333_0)
  have f335 := f323.keep K333
  have f336 := f324.keep K333 (ninS ne_b4_b322 nin0)
  have f339 := f325.keep K333
  have f340 := f326.keep K333 (ninS ne_b30_b322 nin0)
  have f344 := f327.keep K333
  have f345 := f328.keep K333 (ninS ne_b69_b322 nin0)
  have f350 := f329.keep K333
  have f351 := f330.keep K333 (ninS ne_b126_b322 nin0)
  have f357 := f331.keep K333
  have f358 := f332.keep K333 (ninS ne_b209_b322 nin0)
  have f368 := A322.keep K333
  have Z333k := Nat.le_trans Z322 K333.1
  have G333 := gd X333 hx hby
  obtain ⟨cq376, kq376, q376a, q376b, q376c⟩ := isOf hZ rfl Eq333
  obtain ⟨_, _, ⟨T376, L376, k376, n376⟩, -, X376, ⟨Lc376, hQ376, l376, y376, z376⟩, st376⟩ := X333.virtualBack hx (y := (⟨"com/example/oceanus/oceanus/numerics/Tolerances", "group", "([D)V"⟩ : MethodName)) (z := (⟨"com/example/oceanus/oceanus/numerics/Tolerances", "group", "([D)V"⟩ : MethodName)) hown (mvT hZ (wd hw 42 rfl)) (mvT hZ (wd hw 43 rfl)) (notFace_of_selects (args := #[]) (mvT hZ (wd hw 45 rfl))) (mvT hZ (wd hw 45 rfl)) (mvT hZ (wd hw 44 rfl)) (by decide) (backOf (W := 0) (rm5_all l Z a0 hw [] b322 b69 T333.heap n0 Z333k (own_rm0_not_hp_hm_227 p0 p1 p2 p3 p4 x1 hx1 x2 hx2 x3 hx3 x11 hx11 x18 hx18 x25 hx25 x33 hx33 x42 hx42 x51 hx51 x60 hx60 hal) (own_rm0_not_hp_hpat_227 p0 p1 p2 p3 p4 x1 hx1 x2 hx2 x3 hx3 x11 hx11 x18 hx18 x25 hx25 x33 hx33 x42 hx42 x51 hx51 x60 hx60 hal) Fq333_0 (Ne.symm ne_b69_b322) (Ne.symm ne_b69_b333_0) g_b69 Vq_b333_0 f345) hZ (wd hw 46 rfl) (wd hw 5 rfl) (by decide) (by decide)) q376a q376c (g := (mkF m 227 #[iv p0, iv p1, iv p2, iv p3, iv p4, iv x1, iv x2, iv x3, rv b4, rv b30, rv b69, rv b126, rv b209, rv b322] [(.ref b69), (.ref b322)])) rfl (by rw [hml]; rfl) (Steps.refl _) (argsL := [(.ref b69)]) (rest := []) (lenOf pd_3 rfl) rfl (by show 2 * 0 + _ ≤ _; exact Nat.le_of_eq rfl) (hb hby at_227) (fun _ _ => ⟨rfl, rfl, (by decide : 9 + 0 ≤ _), (by decide : 35 + 0 ≤ _)⟩)
  dsimp only [Pt.U, Pt.locs, Pt.cells, Pt.slots] at X376 l376 y376 z376 st376 hQ376
  replace l376 : (((((((((((((((((((((([] ++ [⟨b4, ((0 : Int32)).toNatClampNeg⟩]) ++ [⟨b4, ((1 : Int32)).toNatClampNeg⟩]) ++ [⟨b4, ((2 : Int32)).toNatClampNeg⟩]) ++ [⟨b4, ((3 : Int32)).toNatClampNeg⟩]) ++ [⟨b30, ((0 : Int32)).toNatClampNeg⟩]) ++ [⟨b30, ((1 : Int32)).toNatClampNeg⟩]) ++ [⟨b30, ((2 : Int32)).toNatClampNeg⟩]) ++ [⟨b30, ((3 : Int32)).toNatClampNeg⟩]) ++ [⟨b69, ((0 : Int32)).toNatClampNeg⟩]) ++ [⟨b69, ((1 : Int32)).toNatClampNeg⟩]) ++ [⟨b69, ((2 : Int32)).toNatClampNeg⟩]) ++ [⟨b69, ((3 : Int32)).toNatClampNeg⟩]) ++ [⟨b126, ((0 : Int32)).toNatClampNeg⟩]) ++ [⟨b126, ((1 : Int32)).toNatClampNeg⟩]) ++ [⟨b126, ((2 : Int32)).toNatClampNeg⟩]) ++ [⟨b126, ((3 : Int32)).toNatClampNeg⟩]) ++ [⟨b209, ((0 : Int32)).toNatClampNeg⟩]) ++ [⟨b209, ((1 : Int32)).toNatClampNeg⟩]) ++ [⟨b209, ((2 : Int32)).toNatClampNeg⟩]) ++ [⟨b209, ((3 : Int32)).toNatClampNeg⟩]) ++ Lc333) ++ Lc376) = L376 := l376.symm
  subst l376 y376 z376
  obtain ⟨rfl, Nq376, K376, Vq376⟩ := hQ376
  have N376 := Fr.app N333 Nq376
  have f378 := f335.keep K376
  have f379 := f336.keep K376 (ninS ne_b4_b69 nin0)
  have f382 := f339.keep K376
  have f383 := f340.keep K376 (ninS ne_b30_b69 nin0)
  have f387 := f344.keep K376
  have f393 := f350.keep K376
  have f394 := f351.keep K376 (ninS (Ne.symm ne_b69_b126) nin0)
  have f400 := f357.keep K376
  have f401 := f358.keep K376 (ninS (Ne.symm ne_b69_b209) nin0)
  have f408 := Eq333.keep K376
  have f416 := Vq_b333_0.keep K376 (ninS (Ne.symm ne_b69_b333_0) nin0)
  have f417 := Fq333_0.keep K376 (ninS (Ne.symm ne_b69_b322) nin0)
  have Z376k := Nat.le_trans Z333k K376.1
  have G376 := gd X376 hx hby
  obtain ⟨_, _, ⟨T418, L418, k418, n418⟩, -, X418, ⟨Lc418, hQ418, l418, y418, z418⟩, st418⟩ := Jvm.LawKit.callS X376 hx (y := (⟨"com/example/oceanus/oceanus/numerics/TolerancesGroupPinLaw", "groupSum", "([I[DI)D"⟩ : MethodName)) hown (mvT hZ (wd hw 47 rfl)) (mvT hZ (wd hw 48 rfl)) (mvT hZ (wd hw 49 rfl)) (mvT hZ (wd hw 50 rfl)) (by decide) (backOf (W := 2) (rm6 l Z a0 hw [] b4 b30 (0 : Int32) T376.heap n0 Z376k (own_rm0_not_hp_hm_242 p0 p1 p2 p3 p4 x1 hx1 x2 hx2 x3 hx3 x11 hx11 x18 hx18 x25 hx25 x33 hx33 x42 hx42 x51 hx51 x60 hx60 hal) f379 f383) hZ (wd hw 50 rfl) (wd hw 49 rfl) (by decide) (by decide)) (g := (mkF m 242 #[iv p0, iv p1, iv p2, iv p3, iv p4, iv x1, iv x2, iv x3, rv b4, rv b30, rv b69, rv b126, rv b209, rv b322] [(.int (0 : Int32)), (.ref b30), (.ref b4), (.double (own_x0 x11 x18 x25 x33 x42 x51 x60))])) rfl (by rw [hml]; rfl) (argsL := [(.ref b4), (.ref b30), (.int (0 : Int32))]) (rest := [(.double (own_x0 x11 x18 x25 x33 x42 x51 x60))]) (lenOf pd_4 rfl) rfl (by show 2 * 0 + _ ≤ _; exact Nat.le_of_eq rfl) (hb hby at_242) (fun _ _ => ⟨rfl, rfl, (by decide : 9 + 0 ≤ _), (by decide : 35 + 0 ≤ _)⟩)
  dsimp only [Pt.U, Pt.locs, Pt.cells, Pt.slots] at X418 l418 y418 z418 st418 hQ418
  replace l418 : ((((((((((((((((((((((([] ++ [⟨b4, ((0 : Int32)).toNatClampNeg⟩]) ++ [⟨b4, ((1 : Int32)).toNatClampNeg⟩]) ++ [⟨b4, ((2 : Int32)).toNatClampNeg⟩]) ++ [⟨b4, ((3 : Int32)).toNatClampNeg⟩]) ++ [⟨b30, ((0 : Int32)).toNatClampNeg⟩]) ++ [⟨b30, ((1 : Int32)).toNatClampNeg⟩]) ++ [⟨b30, ((2 : Int32)).toNatClampNeg⟩]) ++ [⟨b30, ((3 : Int32)).toNatClampNeg⟩]) ++ [⟨b69, ((0 : Int32)).toNatClampNeg⟩]) ++ [⟨b69, ((1 : Int32)).toNatClampNeg⟩]) ++ [⟨b69, ((2 : Int32)).toNatClampNeg⟩]) ++ [⟨b69, ((3 : Int32)).toNatClampNeg⟩]) ++ [⟨b126, ((0 : Int32)).toNatClampNeg⟩]) ++ [⟨b126, ((1 : Int32)).toNatClampNeg⟩]) ++ [⟨b126, ((2 : Int32)).toNatClampNeg⟩]) ++ [⟨b126, ((3 : Int32)).toNatClampNeg⟩]) ++ [⟨b209, ((0 : Int32)).toNatClampNeg⟩]) ++ [⟨b209, ((1 : Int32)).toNatClampNeg⟩]) ++ [⟨b209, ((2 : Int32)).toNatClampNeg⟩]) ++ [⟨b209, ((3 : Int32)).toNatClampNeg⟩]) ++ Lc333) ++ Lc376) ++ Lc418) = L418 := l418.symm
  subst l418 y418 z418
  obtain ⟨rfl, rfl, e418⟩ := hQ418
  simp only [List.append_nil, Nat.add_zero] at X418
  have G418 := gd X418 hx hby
  obtain ⟨_, _, ⟨T419, L419, k419, n419⟩, -, X419, ⟨Lc419, hQ419, l419, y419, z419⟩, st419⟩ := Jvm.LawKit.callS X418 hx (y := (⟨"com/example/oceanus/oceanus/numerics/TolerancesGroupPinLaw", "groupSum", "([I[DI)D"⟩ : MethodName)) hown (mvT hZ (wd hw 47 rfl)) (mvT hZ (wd hw 48 rfl)) (mvT hZ (wd hw 49 rfl)) (mvT hZ (wd hw 50 rfl)) (by decide) (backOf (W := 2) (rm6 l Z a0 hw [] b4 b30 x11 T376.heap n0 Z376k (own_rm0_not_hp_hm_261 p0 p1 p2 p3 p4 x1 hx1 x2 hx2 x3 hx3 x11 hx11 x18 hx18 x25 hx25 x33 hx33 x42 hx42 x51 hx51 x60 hx60 hal) f379 f383) hZ (wd hw 50 rfl) (wd hw 49 rfl) (by decide) (by decide)) (g := (mkF m 261 #[iv p0, iv p1, iv p2, iv p3, iv p4, iv x1, iv x2, iv x3, rv b4, rv b30, rv b69, rv b126, rv b209, rv b322] [(.int x11), (.ref b30), (.ref b4), (.double (own_x1 x11 x18 x25 x33 x42 x51 x60))])) rfl (by rw [hml]; rfl) (argsL := [(.ref b4), (.ref b30), (.int x11)]) (rest := [(.double (own_x1 x11 x18 x25 x33 x42 x51 x60))]) (lenOf pd_4 rfl) rfl (by show 2 * 0 + _ ≤ _; exact Nat.le_of_eq rfl) (hb hby at_261) (fun _ _ => ⟨rfl, e418, (by decide : 9 + 0 ≤ _), (by decide : 35 + 0 ≤ _)⟩)
  dsimp only [Pt.U, Pt.locs, Pt.cells, Pt.slots] at X419 l419 y419 z419 st419 hQ419
  replace l419 : ((((((((((((((((((((((([] ++ [⟨b4, ((0 : Int32)).toNatClampNeg⟩]) ++ [⟨b4, ((1 : Int32)).toNatClampNeg⟩]) ++ [⟨b4, ((2 : Int32)).toNatClampNeg⟩]) ++ [⟨b4, ((3 : Int32)).toNatClampNeg⟩]) ++ [⟨b30, ((0 : Int32)).toNatClampNeg⟩]) ++ [⟨b30, ((1 : Int32)).toNatClampNeg⟩]) ++ [⟨b30, ((2 : Int32)).toNatClampNeg⟩]) ++ [⟨b30, ((3 : Int32)).toNatClampNeg⟩]) ++ [⟨b69, ((0 : Int32)).toNatClampNeg⟩]) ++ [⟨b69, ((1 : Int32)).toNatClampNeg⟩]) ++ [⟨b69, ((2 : Int32)).toNatClampNeg⟩]) ++ [⟨b69, ((3 : Int32)).toNatClampNeg⟩]) ++ [⟨b126, ((0 : Int32)).toNatClampNeg⟩]) ++ [⟨b126, ((1 : Int32)).toNatClampNeg⟩]) ++ [⟨b126, ((2 : Int32)).toNatClampNeg⟩]) ++ [⟨b126, ((3 : Int32)).toNatClampNeg⟩]) ++ [⟨b209, ((0 : Int32)).toNatClampNeg⟩]) ++ [⟨b209, ((1 : Int32)).toNatClampNeg⟩]) ++ [⟨b209, ((2 : Int32)).toNatClampNeg⟩]) ++ [⟨b209, ((3 : Int32)).toNatClampNeg⟩]) ++ Lc333) ++ Lc376) ++ Lc419) = L419 := l419.symm
  subst l419 y419 z419
  obtain ⟨rfl, rfl, e419⟩ := hQ419
  simp only [List.append_nil, Nat.add_zero] at X419
  have G419 := gd X419 hx hby
  obtain ⟨_, _, ⟨T420, L420, k420, n420⟩, -, X420, ⟨Lc420, hQ420, l420, y420, z420⟩, st420⟩ := Jvm.LawKit.callS X419 hx (y := (⟨"com/example/oceanus/oceanus/numerics/TolerancesGroupPinLaw", "groupSum", "([I[DI)D"⟩ : MethodName)) hown (mvT hZ (wd hw 47 rfl)) (mvT hZ (wd hw 48 rfl)) (mvT hZ (wd hw 49 rfl)) (mvT hZ (wd hw 50 rfl)) (by decide) (backOf (W := 2) (rm6 l Z a0 hw [] b4 b30 x18 T376.heap n0 Z376k (own_rm0_not_hp_hm_280 p0 p1 p2 p3 p4 x1 hx1 x2 hx2 x3 hx3 x11 hx11 x18 hx18 x25 hx25 x33 hx33 x42 hx42 x51 hx51 x60 hx60 hal) f379 f383) hZ (wd hw 50 rfl) (wd hw 49 rfl) (by decide) (by decide)) (g := (mkF m 280 #[iv p0, iv p1, iv p2, iv p3, iv p4, iv x1, iv x2, iv x3, rv b4, rv b30, rv b69, rv b126, rv b209, rv b322] [(.int x18), (.ref b30), (.ref b4), (.double (own_x2 x11 x18 x25 x33 x42 x51 x60))])) rfl (by rw [hml]; rfl) (argsL := [(.ref b4), (.ref b30), (.int x18)]) (rest := [(.double (own_x2 x11 x18 x25 x33 x42 x51 x60))]) (lenOf pd_4 rfl) rfl (by show 2 * 0 + _ ≤ _; exact Nat.le_of_eq rfl) (hb hby at_280) (fun _ _ => ⟨rfl, e419, (by decide : 9 + 0 ≤ _), (by decide : 35 + 0 ≤ _)⟩)
  dsimp only [Pt.U, Pt.locs, Pt.cells, Pt.slots] at X420 l420 y420 z420 st420 hQ420
  replace l420 : ((((((((((((((((((((((([] ++ [⟨b4, ((0 : Int32)).toNatClampNeg⟩]) ++ [⟨b4, ((1 : Int32)).toNatClampNeg⟩]) ++ [⟨b4, ((2 : Int32)).toNatClampNeg⟩]) ++ [⟨b4, ((3 : Int32)).toNatClampNeg⟩]) ++ [⟨b30, ((0 : Int32)).toNatClampNeg⟩]) ++ [⟨b30, ((1 : Int32)).toNatClampNeg⟩]) ++ [⟨b30, ((2 : Int32)).toNatClampNeg⟩]) ++ [⟨b30, ((3 : Int32)).toNatClampNeg⟩]) ++ [⟨b69, ((0 : Int32)).toNatClampNeg⟩]) ++ [⟨b69, ((1 : Int32)).toNatClampNeg⟩]) ++ [⟨b69, ((2 : Int32)).toNatClampNeg⟩]) ++ [⟨b69, ((3 : Int32)).toNatClampNeg⟩]) ++ [⟨b126, ((0 : Int32)).toNatClampNeg⟩]) ++ [⟨b126, ((1 : Int32)).toNatClampNeg⟩]) ++ [⟨b126, ((2 : Int32)).toNatClampNeg⟩]) ++ [⟨b126, ((3 : Int32)).toNatClampNeg⟩]) ++ [⟨b209, ((0 : Int32)).toNatClampNeg⟩]) ++ [⟨b209, ((1 : Int32)).toNatClampNeg⟩]) ++ [⟨b209, ((2 : Int32)).toNatClampNeg⟩]) ++ [⟨b209, ((3 : Int32)).toNatClampNeg⟩]) ++ Lc333) ++ Lc376) ++ Lc420) = L420 := l420.symm
  subst l420 y420 z420
  obtain ⟨rfl, rfl, e420⟩ := hQ420
  simp only [List.append_nil, Nat.add_zero] at X420
  have G420 := gd X420 hx hby
  obtain ⟨_, _, ⟨T421, L421, k421, n421⟩, -, X421, ⟨Lc421, hQ421, l421, y421, z421⟩, st421⟩ := Jvm.LawKit.callS X420 hx (y := (⟨"com/example/oceanus/oceanus/numerics/TolerancesGroupPinLaw", "groupSum", "([I[DI)D"⟩ : MethodName)) hown (mvT hZ (wd hw 47 rfl)) (mvT hZ (wd hw 48 rfl)) (mvT hZ (wd hw 49 rfl)) (mvT hZ (wd hw 50 rfl)) (by decide) (backOf (W := 2) (rm6 l Z a0 hw [] b4 b30 x25 T376.heap n0 Z376k (own_rm0_not_hp_hm_299 p0 p1 p2 p3 p4 x1 hx1 x2 hx2 x3 hx3 x11 hx11 x18 hx18 x25 hx25 x33 hx33 x42 hx42 x51 hx51 x60 hx60 hal) f379 f383) hZ (wd hw 50 rfl) (wd hw 49 rfl) (by decide) (by decide)) (g := (mkF m 299 #[iv p0, iv p1, iv p2, iv p3, iv p4, iv x1, iv x2, iv x3, rv b4, rv b30, rv b69, rv b126, rv b209, rv b322] [(.int x25), (.ref b30), (.ref b4), (.double (own_x3 x11 x18 x25 x33 x42 x51 x60))])) rfl (by rw [hml]; rfl) (argsL := [(.ref b4), (.ref b30), (.int x25)]) (rest := [(.double (own_x3 x11 x18 x25 x33 x42 x51 x60))]) (lenOf pd_4 rfl) rfl (by show 2 * 0 + _ ≤ _; exact Nat.le_of_eq rfl) (hb hby at_299) (fun _ _ => ⟨rfl, e420, (by decide : 9 + 0 ≤ _), (by decide : 35 + 0 ≤ _)⟩)
  dsimp only [Pt.U, Pt.locs, Pt.cells, Pt.slots] at X421 l421 y421 z421 st421 hQ421
  replace l421 : ((((((((((((((((((((((([] ++ [⟨b4, ((0 : Int32)).toNatClampNeg⟩]) ++ [⟨b4, ((1 : Int32)).toNatClampNeg⟩]) ++ [⟨b4, ((2 : Int32)).toNatClampNeg⟩]) ++ [⟨b4, ((3 : Int32)).toNatClampNeg⟩]) ++ [⟨b30, ((0 : Int32)).toNatClampNeg⟩]) ++ [⟨b30, ((1 : Int32)).toNatClampNeg⟩]) ++ [⟨b30, ((2 : Int32)).toNatClampNeg⟩]) ++ [⟨b30, ((3 : Int32)).toNatClampNeg⟩]) ++ [⟨b69, ((0 : Int32)).toNatClampNeg⟩]) ++ [⟨b69, ((1 : Int32)).toNatClampNeg⟩]) ++ [⟨b69, ((2 : Int32)).toNatClampNeg⟩]) ++ [⟨b69, ((3 : Int32)).toNatClampNeg⟩]) ++ [⟨b126, ((0 : Int32)).toNatClampNeg⟩]) ++ [⟨b126, ((1 : Int32)).toNatClampNeg⟩]) ++ [⟨b126, ((2 : Int32)).toNatClampNeg⟩]) ++ [⟨b126, ((3 : Int32)).toNatClampNeg⟩]) ++ [⟨b209, ((0 : Int32)).toNatClampNeg⟩]) ++ [⟨b209, ((1 : Int32)).toNatClampNeg⟩]) ++ [⟨b209, ((2 : Int32)).toNatClampNeg⟩]) ++ [⟨b209, ((3 : Int32)).toNatClampNeg⟩]) ++ Lc333) ++ Lc376) ++ Lc421) = L421 := l421.symm
  subst l421 y421 z421
  obtain ⟨rfl, rfl, e421⟩ := hQ421
  simp only [List.append_nil, Nat.add_zero] at X421
  have G421 := gd X421 hx hby
  obtain ⟨fs, hr, hrun, hended, hW, hsame⟩ := X421.leave (v := some (.int (1 : Int32))) (fun h => by rw [Bd.returns] at h; cases h)
  refine ⟨_, _, pre0 _ ?_, hrun, hended, _, _, rfl, ?_, ⟨_, rfl⟩, hW, hsame.mono (by decide) (by decide)⟩
  · show Steps p.tables e below (s₁.setTop (mkF m 0 #[iv p0, iv p1, iv p2, iv p3, iv p4, .unset, .unset, .unset, .unset, .unset, .unset, .unset, .unset, .unset] [])) _
    refine miloadN 1 G0 at_0 rfl rfl ?_
    refine miconst 2 G0 at_1 (v := (1 : Int32)) rfl rfl ?_
    refine miand 3 G0 at_2 rfl rfl ?_
    refine castTop (g' := (mkF m 3 #[iv p0, iv p1, iv p2, iv p3, iv p4, .unset, .unset, .unset, .unset, .unset, .unset, .unset, .unset, .unset] [(.int x1)])) (by rw [hx1]) ?_
    refine mistore 5 G0 at_3 #[iv p0, iv p1, iv p2, iv p3, iv p4, iv x1, .unset, .unset, .unset, .unset, .unset, .unset, .unset, .unset] rfl rfl ?_
    refine miloadN 6 G0 at_5 rfl rfl ?_
    refine miconst 7 G0 at_6 (v := (1 : Int32)) rfl rfl ?_
    refine miushr 8 G0 at_7 rfl rfl ?_
    refine miconst 9 G0 at_8 (v := (3 : Int32)) rfl rfl ?_
    refine miand 10 G0 at_9 rfl rfl ?_
    refine miconst 11 G0 at_10 (v := (3 : Int32)) rfl rfl ?_
    refine mirem 12 G0 at_11 (by decide) (irem_eq_mod _ _) rfl ?_
    refine castTop (g' := (mkF m 12 #[iv p0, iv p1, iv p2, iv p3, iv p4, iv x1, .unset, .unset, .unset, .unset, .unset, .unset, .unset, .unset] [(.int x2)])) (by rw [hx2]) ?_
    refine mistore 14 G0 at_12 #[iv p0, iv p1, iv p2, iv p3, iv p4, iv x1, iv x2, .unset, .unset, .unset, .unset, .unset, .unset, .unset] rfl rfl ?_
    refine miloadN 15 G0 at_14 rfl rfl ?_
    refine miconst 16 G0 at_15 (v := (3 : Int32)) rfl rfl ?_
    refine miushr 17 G0 at_16 rfl rfl ?_
    refine miconst 18 G0 at_17 (v := (3 : Int32)) rfl rfl ?_
    refine miand 19 G0 at_18 rfl rfl ?_
    refine castTop (g' := (mkF m 19 #[iv p0, iv p1, iv p2, iv p3, iv p4, iv x1, iv x2, .unset, .unset, .unset, .unset, .unset, .unset, .unset] [(.int x3)])) (by rw [hx3]) ?_
    refine mistore 21 G0 at_19 #[iv p0, iv p1, iv p2, iv p3, iv p4, iv x1, iv x2, iv x3, .unset, .unset, .unset, .unset, .unset, .unset] rfl rfl ?_
    refine miconst 22 G0 at_21 (v := (4 : Int32)) rfl rfl ?_
    refine st4 _ ?_
    show Steps p.tables e below (T4.setTop (mkF m 24 #[iv p0, iv p1, iv p2, iv p3, iv p4, iv x1, iv x2, iv x3, .unset, .unset, .unset, .unset, .unset, .unset] [(.ref b4)])) _
    refine mastore 26 G4 at_24 rfl #[iv p0, iv p1, iv p2, iv p3, iv p4, iv x1, iv x2, iv x3, rv b4, .unset, .unset, .unset, .unset, .unset] rfl rfl ?_
    refine maload 28 G4 at_26 rfl rfl rfl ?_
    refine miconst 29 G4 at_28 (v := (0 : Int32)) rfl rfl ?_
    refine miconst 30 G4 at_29 (v := (0 : Int32)) rfl rfl ?_
    refine st5 _ ?_
    refine maload 33 G5 at_31 rfl rfl rfl ?_
    refine miconst 34 G5 at_33 (v := (1 : Int32)) rfl rfl ?_
    refine miload 36 G5 at_34 rfl rfl ?_
    refine miconst 37 G5 at_36 (v := (1 : Int32)) rfl rfl ?_
    refine st10 _ ?_
    refine st12 _ ?_
    refine maload 51 G12 at_49 rfl rfl rfl ?_
    refine miconst 52 G12 at_51 (v := (2 : Int32)) rfl rfl ?_
    refine miload 54 G12 at_52 rfl rfl ?_
    refine miconst 55 G12 at_54 (v := (2 : Int32)) rfl rfl ?_
    refine st17 _ ?_
    refine st19 _ ?_
    refine maload 70 G19 at_68 rfl rfl rfl ?_
    refine miconst 71 G19 at_70 (v := (3 : Int32)) rfl rfl ?_
    refine miload 73 G19 at_71 rfl rfl ?_
    refine miconst 74 G19 at_73 (v := (3 : Int32)) rfl rfl ?_
    refine st24 _ ?_
    refine st26 _ ?_
    refine miconst 88 G26 at_87 (v := (4 : Int32)) rfl rfl ?_
    refine st30 _ ?_
    show Steps p.tables e below (T30.setTop (mkF m 90 #[iv p0, iv p1, iv p2, iv p3, iv p4, iv x1, iv x2, iv x3, rv b4, .unset, .unset, .unset, .unset, .unset] [(.ref b30)])) _
    refine mastore 92 G30 at_90 rfl #[iv p0, iv p1, iv p2, iv p3, iv p4, iv x1, iv x2, iv x3, rv b4, rv b30, .unset, .unset, .unset, .unset] rfl rfl ?_
    refine maload 94 G30 at_92 rfl rfl rfl ?_
    refine miconst 95 G30 at_94 (v := (0 : Int32)) rfl rfl ?_
    refine miloadN 96 G30 at_95 rfl rfl ?_
    refine X30.ldcInt hx hown (mvT hZ (wd hw 2 rfl)) (g := (mkF m 96 #[iv p0, iv p1, iv p2, iv p3, iv p4, iv x1, iv x2, iv x3, rv b4, rv b30, .unset, .unset, .unset, .unset] [(.int p1), (.int (0 : Int32)), (.ref b30)])) rfl (hb hby at_96) _ ?_
    show Steps p.tables e below (T30.setTop (mkF m 98 #[iv p0, iv p1, iv p2, iv p3, iv p4, iv x1, iv x2, iv x3, rv b4, rv b30, .unset, .unset, .unset, .unset] [(.int (1048575 : Int32)), (.int p1), (.int (0 : Int32)), (.ref b30)])) _
    refine miand 99 G30 at_98 rfl rfl ?_
    refine mi2d 100 G30 at_99 rfl ?_
    refine castTop (g' := (mkF m 100 #[iv p0, iv p1, iv p2, iv p3, iv p4, iv x1, iv x2, iv x3, rv b4, rv b30, .unset, .unset, .unset, .unset] [(.double x33), (.int (0 : Int32)), (.ref b30)])) (by rw [hx33]) ?_
    refine st34 _ ?_
    refine maload 103 G34 at_101 rfl rfl rfl ?_
    refine miconst 104 G34 at_103 (v := (1 : Int32)) rfl rfl ?_
    refine miloadN 105 G34 at_104 rfl rfl ?_
    refine X34.ldcInt hx hown (mvT hZ (wd hw 2 rfl)) (g := (mkF m 105 #[iv p0, iv p1, iv p2, iv p3, iv p4, iv x1, iv x2, iv x3, rv b4, rv b30, .unset, .unset, .unset, .unset] [(.int p2), (.int (1 : Int32)), (.ref b30)])) rfl (hb hby at_105) _ ?_
    show Steps p.tables e below (T34.setTop (mkF m 107 #[iv p0, iv p1, iv p2, iv p3, iv p4, iv x1, iv x2, iv x3, rv b4, rv b30, .unset, .unset, .unset, .unset] [(.int (1048575 : Int32)), (.int p2), (.int (1 : Int32)), (.ref b30)])) _
    refine miand 108 G34 at_107 rfl rfl ?_
    refine mi2d 109 G34 at_108 rfl ?_
    refine castTop (g' := (mkF m 109 #[iv p0, iv p1, iv p2, iv p3, iv p4, iv x1, iv x2, iv x3, rv b4, rv b30, .unset, .unset, .unset, .unset] [(.double x42), (.int (1 : Int32)), (.ref b30)])) (by rw [hx42]) ?_
    refine st43 _ ?_
    refine maload 112 G43 at_110 rfl rfl rfl ?_
    refine miconst 113 G43 at_112 (v := (2 : Int32)) rfl rfl ?_
    refine miloadN 114 G43 at_113 rfl rfl ?_
    refine X43.ldcInt hx hown (mvT hZ (wd hw 2 rfl)) (g := (mkF m 114 #[iv p0, iv p1, iv p2, iv p3, iv p4, iv x1, iv x2, iv x3, rv b4, rv b30, .unset, .unset, .unset, .unset] [(.int p3), (.int (2 : Int32)), (.ref b30)])) rfl (hb hby at_114) _ ?_
    show Steps p.tables e below (T43.setTop (mkF m 116 #[iv p0, iv p1, iv p2, iv p3, iv p4, iv x1, iv x2, iv x3, rv b4, rv b30, .unset, .unset, .unset, .unset] [(.int (1048575 : Int32)), (.int p3), (.int (2 : Int32)), (.ref b30)])) _
    refine miand 117 G43 at_116 rfl rfl ?_
    refine mi2d 118 G43 at_117 rfl ?_
    refine castTop (g' := (mkF m 118 #[iv p0, iv p1, iv p2, iv p3, iv p4, iv x1, iv x2, iv x3, rv b4, rv b30, .unset, .unset, .unset, .unset] [(.double x51), (.int (2 : Int32)), (.ref b30)])) (by rw [hx51]) ?_
    refine st52 _ ?_
    refine maload 121 G52 at_119 rfl rfl rfl ?_
    refine miconst 122 G52 at_121 (v := (3 : Int32)) rfl rfl ?_
    refine miload 124 G52 at_122 rfl rfl ?_
    refine X52.ldcInt hx hown (mvT hZ (wd hw 2 rfl)) (g := (mkF m 124 #[iv p0, iv p1, iv p2, iv p3, iv p4, iv x1, iv x2, iv x3, rv b4, rv b30, .unset, .unset, .unset, .unset] [(.int p4), (.int (3 : Int32)), (.ref b30)])) rfl (hb hby at_124) _ ?_
    show Steps p.tables e below (T52.setTop (mkF m 126 #[iv p0, iv p1, iv p2, iv p3, iv p4, iv x1, iv x2, iv x3, rv b4, rv b30, .unset, .unset, .unset, .unset] [(.int (1048575 : Int32)), (.int p4), (.int (3 : Int32)), (.ref b30)])) _
    refine miand 127 G52 at_126 rfl rfl ?_
    refine mi2d 128 G52 at_127 rfl ?_
    refine castTop (g' := (mkF m 128 #[iv p0, iv p1, iv p2, iv p3, iv p4, iv x1, iv x2, iv x3, rv b4, rv b30, .unset, .unset, .unset, .unset] [(.double x60), (.int (3 : Int32)), (.ref b30)])) (by rw [hx60]) ?_
    refine st61 _ ?_
    refine miconst 130 G61 at_129 (v := (4 : Int32)) rfl rfl ?_
    refine st69 _ ?_
    show Steps p.tables e below (T69.setTop (mkF m 132 #[iv p0, iv p1, iv p2, iv p3, iv p4, iv x1, iv x2, iv x3, rv b4, rv b30, .unset, .unset, .unset, .unset] [(.ref b69)])) _
    refine mastore 134 G69 at_132 rfl #[iv p0, iv p1, iv p2, iv p3, iv p4, iv x1, iv x2, iv x3, rv b4, rv b30, rv b69, .unset, .unset, .unset] rfl rfl ?_
    refine maload 136 G69 at_134 rfl rfl rfl ?_
    refine miconst 137 G69 at_136 (v := (0 : Int32)) rfl rfl ?_
    refine maload 139 G69 at_137 rfl rfl rfl ?_
    refine miconst 140 G69 at_139 (v := (0 : Int32)) rfl rfl ?_
    refine mdaload 141 X69 hx hby hZ e69 f73 (v := x33) at_140 ⟨by decide, by decide⟩ rfl rfl ?_
    refine st74 _ ?_
    refine maload 144 G74 at_142 rfl rfl rfl ?_
    refine miconst 145 G74 at_144 (v := (1 : Int32)) rfl rfl ?_
    refine maload 147 G74 at_145 rfl rfl rfl ?_
    refine miconst 148 G74 at_147 (v := (1 : Int32)) rfl rfl ?_
    refine mdaload 149 X74 hx hby hZ e74 f81 (v := x42) at_148 ⟨by decide, by decide⟩ rfl rfl ?_
    refine st87 _ ?_
    refine maload 152 G87 at_150 rfl rfl rfl ?_
    refine miconst 153 G87 at_152 (v := (2 : Int32)) rfl rfl ?_
    refine maload 155 G87 at_153 rfl rfl rfl ?_
    refine miconst 156 G87 at_155 (v := (2 : Int32)) rfl rfl ?_
    refine mdaload 157 X87 hx hby hZ e87 f94 (v := x51) at_156 ⟨by decide, by decide⟩ rfl rfl ?_
    refine st100 _ ?_
    refine maload 160 G100 at_158 rfl rfl rfl ?_
    refine miconst 161 G100 at_160 (v := (3 : Int32)) rfl rfl ?_
    refine maload 163 G100 at_161 rfl rfl rfl ?_
    refine miconst 164 G100 at_163 (v := (3 : Int32)) rfl rfl ?_
    refine mdaload 165 X100 hx hby hZ e100 f107 (v := x60) at_164 ⟨by decide, by decide⟩ rfl rfl ?_
    refine st113 _ ?_
    refine miconst 167 G113 at_166 (v := (4 : Int32)) rfl rfl ?_
    refine st126 _ ?_
    show Steps p.tables e below (T126.setTop (mkF m 169 #[iv p0, iv p1, iv p2, iv p3, iv p4, iv x1, iv x2, iv x3, rv b4, rv b30, rv b69, .unset, .unset, .unset] [(.ref b126)])) _
    refine mdup 170 G126 at_169 rfl rfl ?_
    refine miconst 171 G126 at_170 (v := (0 : Int32)) rfl rfl ?_
    refine mdconst1 172 G126 at_171 (v := (4607182418800017408 : UInt64)) rfl rfl ?_
    refine st133 _ ?_
    refine mdup 174 G133 at_173 rfl rfl ?_
    refine miconst 175 G133 at_174 (v := (1 : Int32)) rfl rfl ?_
    refine mdconst1 176 G133 at_175 (v := (4607182418800017408 : UInt64)) rfl rfl ?_
    refine st152 _ ?_
    refine mdup 178 G152 at_177 rfl rfl ?_
    refine miconst 179 G152 at_178 (v := (2 : Int32)) rfl rfl ?_
    refine mdconst1 180 G152 at_179 (v := (4607182418800017408 : UInt64)) rfl rfl ?_
    refine st171 _ ?_
    refine mdup 182 G171 at_181 rfl rfl ?_
    refine miconst 183 G171 at_182 (v := (3 : Int32)) rfl rfl ?_
    refine mdconst1 184 G171 at_183 (v := (4607182418800017408 : UInt64)) rfl rfl ?_
    refine st190 _ ?_
    refine mastore 187 G190 at_185 rfl #[iv p0, iv p1, iv p2, iv p3, iv p4, iv x1, iv x2, iv x3, rv b4, rv b30, rv b69, rv b126, .unset, .unset] rfl rfl ?_
    refine miconst 188 G190 at_187 (v := (4 : Int32)) rfl rfl ?_
    refine st209 _ ?_
    show Steps p.tables e below (T209.setTop (mkF m 190 #[iv p0, iv p1, iv p2, iv p3, iv p4, iv x1, iv x2, iv x3, rv b4, rv b30, rv b69, rv b126, .unset, .unset] [(.ref b209)])) _
    refine mdup 191 G209 at_190 rfl rfl ?_
    refine miconst 192 G209 at_191 (v := (0 : Int32)) rfl rfl ?_
    refine mdconst1 193 G209 at_192 (v := (4607182418800017408 : UInt64)) rfl rfl ?_
    refine st218 _ ?_
    refine mdup 195 G218 at_194 rfl rfl ?_
    refine miconst 196 G218 at_195 (v := (1 : Int32)) rfl rfl ?_
    refine mdconst1 197 G218 at_196 (v := (4607182418800017408 : UInt64)) rfl rfl ?_
    refine st244 _ ?_
    refine mdup 199 G244 at_198 rfl rfl ?_
    refine miconst 200 G244 at_199 (v := (2 : Int32)) rfl rfl ?_
    refine mdconst1 201 G244 at_200 (v := (4607182418800017408 : UInt64)) rfl rfl ?_
    refine st270 _ ?_
    refine mdup 203 G270 at_202 rfl rfl ?_
    refine miconst 204 G270 at_203 (v := (3 : Int32)) rfl rfl ?_
    refine mdconst1 205 G270 at_204 (v := (4607182418800017408 : UInt64)) rfl rfl ?_
    refine st296 _ ?_
    refine mastore 208 G296 at_206 rfl #[iv p0, iv p1, iv p2, iv p3, iv p4, iv x1, iv x2, iv x3, rv b4, rv b30, rv b69, rv b126, rv b209, .unset] rfl rfl ?_
    refine st322 _ ?_
    show Steps p.tables e below (T322.setTop (mkF m 211 #[iv p0, iv p1, iv p2, iv p3, iv p4, iv x1, iv x2, iv x3, rv b4, rv b30, rv b69, rv b126, rv b209, .unset] [(.ref b322)])) _
    refine mdup 212 G322 at_211 rfl rfl ?_
    refine maload 214 G322 at_212 rfl rfl rfl ?_
    refine maload 216 G322 at_214 rfl rfl rfl ?_
    refine maload 218 G322 at_216 rfl rfl rfl ?_
    refine st333.trans ?_
    show Steps p.tables e below (T333.setTop (mkF m 221 #[iv p0, iv p1, iv p2, iv p3, iv p4, iv x1, iv x2, iv x3, rv b4, rv b30, rv b69, rv b126, rv b209, .unset] [(.ref b322)])) _
    refine mastore 223 G333 at_221 rfl #[iv p0, iv p1, iv p2, iv p3, iv p4, iv x1, iv x2, iv x3, rv b4, rv b30, rv b69, rv b126, rv b209, rv b322] rfl rfl ?_
    refine maload 225 G333 at_223 rfl rfl rfl ?_
    refine maload 227 G333 at_225 rfl rfl rfl ?_
    refine st376.trans ?_
    show Steps p.tables e below (T376.setTop (mkF m 230 #[iv p0, iv p1, iv p2, iv p3, iv p4, iv x1, iv x2, iv x3, rv b4, rv b30, rv b69, rv b126, rv b209, rv b322] [])) _
    refine maload 232 G376 at_230 rfl rfl rfl ?_
    refine miconst 233 G376 at_232 (v := (0 : Int32)) rfl rfl ?_
    refine mdaload 234 X376 hx hby hZ rfl Vq376 (v := (own_x0 x11 x18 x25 x33 x42 x51 x60)) at_233 ⟨by decide, by decide⟩ rfl rfl ?_
    refine maload 236 G376 at_234 rfl rfl rfl ?_
    refine maload 238 G376 at_236 rfl rfl rfl ?_
    refine maload 240 G376 at_238 rfl rfl rfl ?_
    refine miconst 241 G376 at_240 (v := (0 : Int32)) rfl rfl ?_
    refine miaload 242 X376 hx hby hZ rfl f379 (v := (0 : Int32)) at_241 ⟨by decide, by decide⟩ rfl rfl ?_
    refine st418 _ ?_
    show Steps p.tables e below (T418.setTop (mkF m 245 #[iv p0, iv p1, iv p2, iv p3, iv p4, iv x1, iv x2, iv x3, rv b4, rv b30, rv b69, rv b126, rv b209, rv b322] [(.double (rv6 (0 : Int32) x33 x42 x51 x60 (0 : Int32) x11 x18 x25)), (.double (own_x0 x11 x18 x25 x33 x42 x51 x60))])) _
    refine mdcmp 246 G418 at_245 rfl ?_
    refine mifNo 249 G418 at_246 ((if0 _ _).trans (teq (own_rm0_not_fc246 p0 p1 p2 p3 p4 x1 hx1 x2 hx2 x3 hx3 x11 hx11 x18 hx18 x25 hx25 x33 hx33 x42 hx42 x51 hx51 x60 hx60 hal)).2) rfl ?_
    refine maload 251 G418 at_249 rfl rfl rfl ?_
    refine miconst 252 G418 at_251 (v := (1 : Int32)) rfl rfl ?_
    refine mdaload 253 X418 hx hby hZ e418 Vq376 (v := (own_x1 x11 x18 x25 x33 x42 x51 x60)) at_252 ⟨by decide, by decide⟩ rfl rfl ?_
    refine maload 255 G418 at_253 rfl rfl rfl ?_
    refine maload 257 G418 at_255 rfl rfl rfl ?_
    refine maload 259 G418 at_257 rfl rfl rfl ?_
    refine miconst 260 G418 at_259 (v := (1 : Int32)) rfl rfl ?_
    refine miaload 261 X418 hx hby hZ e418 f379 (v := x11) at_260 ⟨by decide, by decide⟩ rfl rfl ?_
    refine st419 _ ?_
    show Steps p.tables e below (T419.setTop (mkF m 264 #[iv p0, iv p1, iv p2, iv p3, iv p4, iv x1, iv x2, iv x3, rv b4, rv b30, rv b69, rv b126, rv b209, rv b322] [(.double (rv6 x11 x33 x42 x51 x60 (0 : Int32) x11 x18 x25)), (.double (own_x1 x11 x18 x25 x33 x42 x51 x60))])) _
    refine mdcmp 265 G419 at_264 rfl ?_
    refine mifNo 268 G419 at_265 ((if0 _ _).trans (teq (own_rm0_not_fc265 p0 p1 p2 p3 p4 x1 hx1 x2 hx2 x3 hx3 x11 hx11 x18 hx18 x25 hx25 x33 hx33 x42 hx42 x51 hx51 x60 hx60 hal)).2) rfl ?_
    refine maload 270 G419 at_268 rfl rfl rfl ?_
    refine miconst 271 G419 at_270 (v := (2 : Int32)) rfl rfl ?_
    refine mdaload 272 X419 hx hby hZ e419 Vq376 (v := (own_x2 x11 x18 x25 x33 x42 x51 x60)) at_271 ⟨by decide, by decide⟩ rfl rfl ?_
    refine maload 274 G419 at_272 rfl rfl rfl ?_
    refine maload 276 G419 at_274 rfl rfl rfl ?_
    refine maload 278 G419 at_276 rfl rfl rfl ?_
    refine miconst 279 G419 at_278 (v := (2 : Int32)) rfl rfl ?_
    refine miaload 280 X419 hx hby hZ e419 f379 (v := x18) at_279 ⟨by decide, by decide⟩ rfl rfl ?_
    refine st420 _ ?_
    show Steps p.tables e below (T420.setTop (mkF m 283 #[iv p0, iv p1, iv p2, iv p3, iv p4, iv x1, iv x2, iv x3, rv b4, rv b30, rv b69, rv b126, rv b209, rv b322] [(.double (rv6 x18 x33 x42 x51 x60 (0 : Int32) x11 x18 x25)), (.double (own_x2 x11 x18 x25 x33 x42 x51 x60))])) _
    refine mdcmp 284 G420 at_283 rfl ?_
    refine mifNo 287 G420 at_284 ((if0 _ _).trans (teq (own_rm0_not_fc284 p0 p1 p2 p3 p4 x1 hx1 x2 hx2 x3 hx3 x11 hx11 x18 hx18 x25 hx25 x33 hx33 x42 hx42 x51 hx51 x60 hx60 hal)).2) rfl ?_
    refine maload 289 G420 at_287 rfl rfl rfl ?_
    refine miconst 290 G420 at_289 (v := (3 : Int32)) rfl rfl ?_
    refine mdaload 291 X420 hx hby hZ e420 Vq376 (v := (own_x3 x11 x18 x25 x33 x42 x51 x60)) at_290 ⟨by decide, by decide⟩ rfl rfl ?_
    refine maload 293 G420 at_291 rfl rfl rfl ?_
    refine maload 295 G420 at_293 rfl rfl rfl ?_
    refine maload 297 G420 at_295 rfl rfl rfl ?_
    refine miconst 298 G420 at_297 (v := (3 : Int32)) rfl rfl ?_
    refine miaload 299 X420 hx hby hZ e420 f379 (v := x25) at_298 ⟨by decide, by decide⟩ rfl rfl ?_
    refine st421 _ ?_
    show Steps p.tables e below (T421.setTop (mkF m 302 #[iv p0, iv p1, iv p2, iv p3, iv p4, iv x1, iv x2, iv x3, rv b4, rv b30, rv b69, rv b126, rv b209, rv b322] [(.double (rv6 x25 x33 x42 x51 x60 (0 : Int32) x11 x18 x25)), (.double (own_x3 x11 x18 x25 x33 x42 x51 x60))])) _
    refine mdcmp 303 G421 at_302 rfl ?_
    refine mifNo 306 G421 at_303 ((if0 _ _).trans (teq (own_rm0_not_fc303 p0 p1 p2 p3 p4 x1 hx1 x2 hx2 x3 hx3 x11 hx11 x18 hx18 x25 hx25 x33 hx33 x42 hx42 x51 hx51 x60 hx60 hal)).2) rfl ?_
    refine miconst 307 G421 at_306 (v := (1 : Int32)) rfl rfl ?_
    refine mgoto 311 G421 at_307 (by decide) rfl ?_
    exact retN X421 hx (t := .boolean) Bd.returns (by simp) (hb hby at_311) hr
  · show Q0 Z p0 p1 p2 p3 p4 h0 n0 _ T421.heap _
    rw [e421]
    exact ⟨rfl, N376⟩
theorem rm0 (l : Launch) (Z : State) (a0 : Array Value) (hw : ∀ d ∈ tables_1, d.before a0 Z = true) (ws : List Jvm.Cond) (p0 : Int32) (p1 : Int32) (p2 : Int32) (p3 : Int32) (p4 : Int32)  (h0 : Heap) (n0 : Nat) (Z0 : n0 ≤ h0.size) :
    MetFree l x (head1 (Jvm.Cond.code x code maxLocals ret :: ws) room_1) (fun a U => a = #[(.int p0), (.int p1), (.int p2), (.int p3), (.int p4)] ∧ Z.Warmed39 U.vm ∧ U.heap = h0) (fun _ _ _ _ _ => True) (fun _ U o U' => ∃ v L, o = .returned v ∧ Q0 Z p0 p1 p2 p3 p4 h0 n0 v U'.heap L ∧ FrameEnd U o U' L room_1.cells room_1.slots) := by
  by_cases h : own_alp p0
  · exact rm0_al l Z a0 hw ws p0 p1 p2 p3 p4 h0 n0 Z0 h
  · exact rm0_not l Z a0 hw ws p0 p1 p2 p3 p4 h0 n0 Z0 h
set_option maxRecDepth 65536 in
set_option maxHeartbeats 40000000 in
theorem comes_1 {Post : Tables → Env → Array Value → State → Outcome → State → Prop} (hpost : ∀ tb e args s v u, (limb_1_1.after args s (.returned v) u = true ∧ limb_1_2.after args s (.returned v) u = true ∧ True) → FrameEnd s (.returned v) u (Jvm.fieldLocs frame_1_writes args s ++ Jvm.arrayLocs frame_1_arrays args s ++ Jvm.staticLocs frame_1_statics s) 32 192 → Post tb e args s (.returned v) u) :
    ArmFor flags0 classFile x code maxLocals ret World_1 tables_1 room_1 Calls_1 rest_1 Pre_1 Post := by
  intro l hfl _ _ p e ha hc hk s m args below hf hA hF happ hP
  obtain ⟨hcalls, hrest, hpre⟩ := hP
  obtain ⟨-, -, -, hnamed, -, -, -, hat⟩ := (Spec.applies_iff hf).mp happ
  obtain ⟨hg, hn⟩ := and_e (Cond.before_iff.mp (show (Jvm.Cond.and given_1 narrow_1).before args s = true from hpre))
  obtain ⟨g1, g2⟩ := and_e hg
  obtain ⟨g3, g4⟩ := and_e g2
  obtain ⟨g5, g6⟩ := and_e g4
  obtain ⟨g7, g8⟩ := and_e g6
  obtain ⟨g9, g10⟩ := and_e g8
  obtain ⟨w0, w1, w2, w3, w4, rfl⟩ : ∃ w0 w1 w2 w3 w4 : Value, args = #[w0, w1, w2, w3, w4] := by
    have hs : args.size = 5 := by simpa [Cond.value, given_1] using g1
    obtain ⟨L⟩ := args
    match L, hs with
    | [w0, w1, w2, w3, w4], _ => exact ⟨w0, w1, w2, w3, w4, rfl⟩
  have hw := fun d (hd : d ∈ tables_1) => atoms_spec (ws := Jvm.Cond.code x code maxLocals ret :: tables_1) hat d (List.mem_cons_of_mem _ hd)
  have hfit : Fit s := fun {y c} hc i hi => by
    obtain ⟨ha, rfl⟩ := Array.getElem?_eq_some_iff.mp hc
    have q := List.all_eq_true.mp ((Array.all_eq_true_iff_forall_mem.mp hF) _ (Array.getElem_mem ha)) i (List.mem_range.mpr hi)
    simpa [Array.getElem?_eq_getElem hi] using q
  obtain ⟨i0, ei0⟩ := is_v g3
  obtain rfl : w0 = (.int i0) := Option.some.inj ei0
  obtain ⟨i1, ei1⟩ := is_v g5
  obtain rfl : w1 = (.int i1) := Option.some.inj ei1
  obtain ⟨i2, ei2⟩ := is_v g7
  obtain rfl : w2 = (.int i2) := Option.some.inj ei2
  obtain ⟨i3, ei3⟩ := is_v g9
  obtain rfl : w3 = (.int i3) := Option.some.inj ei3
  obtain ⟨i4, ei4⟩ := is_v g10
  obtain rfl : w4 = (.int i4) := Option.some.inj ei4
  obtain ⟨n, o, h1, h2, h3, _, L, rfl, ⟨rfl, N⟩, hq⟩ := rm0 l s _ hw tables_1 i0 i1 i2 i3 i4 s.heap s.heap.size (Nat.le_refl _)  p e ha hc hk s m _ below hf ((Spec.applies_iff_loose hf).mp happ).1 ⟨rfl, State.Warmed39.refl s, rfl⟩ trivial
  refine ⟨n, _, h1, h2, h3, hpost _ _ _ _ _ _ ⟨Cond.after_iff.mpr rfl, Cond.after_iff.mpr (eq_i res_at (Term.int_eval (1)) rfl), trivial⟩ ⟨hq.1, hq.2.1, (hq.2.2.sift fun y hy => Or.inr (N y hy)).mono (by decide) (by decide)⟩⟩
theorem main_1_1 : Claimed_1_1 := comes_1 fun _ _ _ _ _ _ h hF => ⟨h.1, hF⟩
theorem main_1_2 : Claimed_1_2 := comes_1 fun _ _ _ _ _ _ h hF => ⟨h.2.1, hF⟩
end Jvm.Pilot.@@N@@
namespace Jvm.Pilot.@@N@@
open Jvm Jvm.ClassFile Sem Op Lib Jvm.Free Jvm.Stand Jvm.Pilot.@@N@@.Jvm.D
/-! MADE BY PROGRAM (witnessworld.py) out of the Statement's table words and the real class files: 17 classes; the members and pool entries that the words name. The judged class is class 1, her method 2. -/
namespace start1
open Jvm.ClassFile
def u (s : String) : CpInfo := .utf8 (stringToUtf16 s)
/-- a pool by its gaps: so many unusable entries, then the entry; so many at the end -/
def gap : Nat → List CpInfo → List CpInfo
  | 0, r => r
  | n + 1, r => .unusable :: gap n r
def poolList (es : List (Nat × CpInfo)) (last : Nat) : List CpInfo := es.foldr (fun e r => gap e.1 (e.2 :: r)) (gap last [])
def pool (es : List (Nat × CpInfo)) (last : Nat) : Array CpInfo := ⟨poolList es last⟩
def fileOf (pool : Array CpInfo) (this : Nat) (attrs : Array Attribute := #[]) (ms : Array MethodInfo := #[]) (fl : Nat := 33) (sup : Nat := 0) (ifs : Array Nat := #[]) (fds : Array FieldInfo := #[]) : ClassFile where
  minorVersion := 0
  majorVersion := 65
  constantPool := pool
  accessFlags := fl
  thisClass := this
  superClass := sup
  interfaces := ifs
  fields := fds
  methods := ms
  attributes := attrs
def plain (name : String) (sup : Option ClassId) : Class where
  name := name
  kind := .ordinary
  loader := none
  accessFlags := 33
  super := sup
  interfaces := #[]
  cf := none
  fields := #[]
  methods := #[]
  instanceTypes := #[]
  staticTypes := #[]
  resolved := #[]
  callSites := []
  init := .initialized
  statics := none
  mirror := none

def pool0 : Array CpInfo := pool [(5, u "<init>"), (0, u "()V"), (1, .class_ 10), (1, u "java/lang/Object"), (85, u "clone"), (0, u "()Ljava/lang/Object;")] 26

def k0c0 : Code := { maxStack := 0, maxLocals := 1, code := object_method_1_code, exceptionTable := #[], attributes := #[] }
def k0m0 : Method := { name := "<init>", desc := "()V", sig := { parameters := [], returnType := none }, accessFlags := 1, code := some k0c0 }
def k0m1 : Method := { name := "clone", desc := "()Ljava/lang/Object;", sig := { parameters := [], returnType := some (.object "java/lang/Object") }, accessFlags := 260, code := none }
/-- java/lang/Object -/
def k0 : Class := { plain "java/lang/Object" none with
  accessFlags := 33
  interfaces := #[]
  cf := some (fileOf pool0 8 #[] #[{ accessFlags := 1, nameIndex := 5, descriptorIndex := 6, attributes := #[] }, { accessFlags := 260, nameIndex := 96, descriptorIndex := 97, attributes := #[] }] 33 0 #[] #[])
  fields := #[]
  methods := #[k0m0, k0m1]
  instanceTypes := #[]
  staticTypes := #[]
  resolved := Array.replicate 124 none
  statics := none }

def pool1 : Array CpInfo := pool [(2, .class_ 4), (1, u "java/lang/Object"), (0, u "<init>"), (0, u "()V"), (0, .integer 1048575), (0, .class_ 9), (0, u "com/example/oceanus/oceanus/numerics/Tolerances"), (0, .methodref 8 11), (0, .nameAndType 5 12), (0, u "([D[D[I)V"), (0, .methodref 8 14), (0, .nameAndType 15 16), (0, u "group"), (0, u "([D)V"), (0, .methodref 18 19), (0, .class_ 20), (0, .nameAndType 21 22), (0, u "com/example/oceanus/oceanus/numerics/TolerancesGroupPinLaw"), (0, u "groupSum"), (0, u "([I[DI)D"), (3, u "law"), (0, u "(IIIII)Z")] 6

def k1m0 : Method := { name := "<init>", desc := "()V", sig := { parameters := [], returnType := none }, accessFlags := 1, code := none }
def k1c1 : Code := { maxStack := 4, maxLocals := 5, code := method_2_code, exceptionTable := #[], attributes := #[] }
def k1m1 : Method := { name := "groupSum", desc := "([I[DI)D", sig := { parameters := [(.array .int), (.array .double), .int], returnType := some .double }, accessFlags := 10, code := some k1c1 }
def k1c2 : Code := { maxStack := 6, maxLocals := 14, code := code, exceptionTable := #[], attributes := #[] }
def k1m2 : Method := { name := "law", desc := "(IIIII)Z", sig := { parameters := [.int, .int, .int, .int, .int], returnType := some .boolean }, accessFlags := 9, code := some k1c2 }
/-- com/example/oceanus/oceanus/numerics/TolerancesGroupPinLaw -/
def k1 : Class := { plain "com/example/oceanus/oceanus/numerics/TolerancesGroupPinLaw" (some 0) with
  accessFlags := 49
  interfaces := #[]
  cf := some (fileOf pool1 18 #[] #[{ accessFlags := 1, nameIndex := 5, descriptorIndex := 6, attributes := #[] }, { accessFlags := 10, nameIndex := 21, descriptorIndex := 22, attributes := #[] }, { accessFlags := 9, nameIndex := 26, descriptorIndex := 27, attributes := #[] }] 49 2 #[] #[])
  fields := #[]
  methods := #[k1m0, k1m1, k1m2]
  instanceTypes := #[]
  staticTypes := #[]
  resolved := Array.replicate 34 none
  statics := none }

def pool2 : Array CpInfo := pool [(2, .class_ 4), (1, u "com/example/oceanus/oceanus/numerics/Tolerances"), (0, u "<init>"), (0, u "([D[D[I)V"), (0, .methodref 8 9), (0, .class_ 10), (0, .nameAndType 5 11), (0, u "java/lang/Object"), (0, u "()V"), (14, .methodref 27 28), (0, .class_ 29), (0, .nameAndType 30 31), (0, u "java/lang/Double"), (0, u "isFinite"), (0, u "(D)Z"), (6, .methodref 39 40), (0, .class_ 41), (0, .nameAndType 42 43), (0, u "[D"), (0, u "clone"), (0, u "()Ljava/lang/Object;"), (0, .fieldref 2 45), (0, .nameAndType 46 41), (0, u "absolute"), (0, .fieldref 2 48), (0, .nameAndType 49 41), (0, u "relative"), (0, .methodref 51 40), (0, .class_ 52), (0, u "[I"), (0, .fieldref 2 54), (0, .nameAndType 55 52), (0, u "groups"), (8, u "group"), (0, u "([D)V")] 25

def k2c0 : Code := { maxStack := 6, maxLocals := 6, code := prog_115_method_2_code, exceptionTable := #[], attributes := #[] }
def k2m0 : Method := { name := "<init>", desc := "([D[D[I)V", sig := { parameters := [(.array .double), (.array .double), (.array .int)], returnType := none }, accessFlags := 0, code := some k2c0 }
def k2c1 : Code := { maxStack := 6, maxLocals := 3, code := prog_115_method_4_code, exceptionTable := #[], attributes := #[] }
def k2m1 : Method := { name := "group", desc := "([D)V", sig := { parameters := [(.array .double)], returnType := none }, accessFlags := 0, code := some k2c1 }
/-- com/example/oceanus/oceanus/numerics/Tolerances -/
def k2 : Class := { plain "com/example/oceanus/oceanus/numerics/Tolerances" (some 0) with
  accessFlags := 48
  interfaces := #[]
  cf := some (fileOf pool2 2 #[] #[{ accessFlags := 0, nameIndex := 5, descriptorIndex := 6, attributes := #[] }, { accessFlags := 0, nameIndex := 64, descriptorIndex := 65, attributes := #[] }] 48 8 #[] #[{ accessFlags := 18, nameIndex := 46, descriptorIndex := 41, attributes := #[] }, { accessFlags := 18, nameIndex := 49, descriptorIndex := 41, attributes := #[] }, { accessFlags := 18, nameIndex := 55, descriptorIndex := 52, attributes := #[] }])
  fields := #[{ name := "absolute", type := (.array .double), accessFlags := 18, slot := 0, constantValue := 0 }, { name := "relative", type := (.array .double), accessFlags := 18, slot := 1, constantValue := 0 }, { name := "groups", type := (.array .int), accessFlags := 18, slot := 2, constantValue := 0 }]
  methods := #[k2m0, k2m1]
  instanceTypes := #[(.array .double), (.array .double), (.array .int)]
  staticTypes := #[]
  resolved := Array.replicate 91 none
  statics := none }

def pool3 : Array CpInfo := pool [(1, .class_ 2), (0, u "java/io/Serializable"), (0, .class_ 4), (0, u "java/lang/Object")] 2

/-- java/io/Serializable -/
def k3 : Class := { plain "java/io/Serializable" (some 0) with
  accessFlags := 1537
  interfaces := #[]
  cf := some (fileOf pool3 1 #[] #[] 1537 3 #[] #[])
  fields := #[]
  methods := #[]
  instanceTypes := #[]
  staticTypes := #[]
  resolved := Array.replicate 7 none
  statics := none }

def pool4 : Array CpInfo := pool [(2, .class_ 4), (1, u "java/lang/Object"), (0, u "<init>"), (0, u "()V"), (1, .class_ 10), (1, u "java/lang/Number"), (2, .class_ 14), (0, u "java/io/Serializable"), (0, u "serialVersionUID"), (0, u "J")] 20

def k4m0 : Method := { name := "<init>", desc := "()V", sig := { parameters := [], returnType := none }, accessFlags := 1, code := none }
/-- java/lang/Number -/
def k4 : Class := { plain "java/lang/Number" (some 0) with
  accessFlags := 1057
  interfaces := #[3]
  cf := some (fileOf pool4 8 #[] #[{ accessFlags := 1, nameIndex := 5, descriptorIndex := 6, attributes := #[] }] 1057 2 #[13] #[{ accessFlags := 26, nameIndex := 15, descriptorIndex := 16, attributes := #[] }])
  fields := #[{ name := "serialVersionUID", type := .long, accessFlags := 26, slot := 0, constantValue := 0 }]
  methods := #[k4m0]
  instanceTypes := #[]
  staticTypes := #[.long]
  resolved := Array.replicate 37 none
  statics := none }

def pool5 : Array CpInfo := pool [(1, .class_ 2), (0, u "java/lang/Comparable"), (0, .class_ 4), (0, u "java/lang/Object")] 7

/-- java/lang/Comparable -/
def k5 : Class := { plain "java/lang/Comparable" (some 0) with
  accessFlags := 1537
  interfaces := #[]
  cf := some (fileOf pool5 1 #[] #[] 1537 3 #[] #[])
  fields := #[]
  methods := #[]
  instanceTypes := #[]
  staticTypes := #[]
  resolved := Array.replicate 12 none
  statics := none }

def pool6 : Array CpInfo := pool [(1, .class_ 2), (0, u "java/lang/constant/Constable"), (0, .class_ 4), (0, u "java/lang/Object")] 6

/-- java/lang/constant/Constable -/
def k6 : Class := { plain "java/lang/constant/Constable" (some 0) with
  accessFlags := 1537
  interfaces := #[]
  cf := some (fileOf pool6 1 #[] #[] 1537 3 #[] #[])
  fields := #[]
  methods := #[]
  instanceTypes := #[]
  staticTypes := #[]
  resolved := Array.replicate 11 none
  statics := none }

def pool7 : Array CpInfo := pool [(1, .class_ 2), (0, u "java/lang/constant/ConstantDesc"), (0, .class_ 4), (0, u "java/lang/Object")] 32

/-- java/lang/constant/ConstantDesc -/
def k7 : Class := { plain "java/lang/constant/ConstantDesc" (some 0) with
  accessFlags := 1537
  interfaces := #[]
  cf := some (fileOf pool7 1 #[] #[] 1537 3 #[] #[])
  fields := #[]
  methods := #[]
  instanceTypes := #[]
  staticTypes := #[]
  resolved := Array.replicate 37 none
  statics := none }

def pool8 : Array CpInfo := pool [(1, .class_ 2), (0, u "java/lang/Double"), (10, u "isFinite"), (0, u "(D)Z"), (8, .class_ 25), (1, u "java/lang/Math"), (12, .methodref 23 39), (0, .nameAndType 40 41), (0, u "abs"), (0, u "(D)D"), (69, .double 9218868437227405311), (2, .class_ 116), (1, u "java/lang/Number"), (3, u "value"), (0, u "D"), (51, u "TYPE"), (0, u "Ljava/lang/Class;"), (0, .class_ 176), (0, u "java/lang/Comparable"), (0, .class_ 178), (0, u "java/lang/constant/Constable"), (0, .class_ 180), (0, u "java/lang/constant/ConstantDesc"), (0, u "POSITIVE_INFINITY"), (3, u "NEGATIVE_INFINITY"), (2, u "NaN"), (2, u "MAX_VALUE"), (0, u "MIN_NORMAL"), (0, u "MIN_VALUE"), (2, u "SIZE"), (0, u "I"), (1, u "PRECISION"), (1, u "MAX_EXPONENT"), (1, u "MIN_EXPONENT"), (1, u "BYTES"), (3, u "serialVersionUID"), (0, u "J")] 79

def k8c0 : Code := { maxStack := 4, maxLocals := 2, code := jdk_117_method_8_code, exceptionTable := #[], attributes := #[] }
def k8m0 : Method := { name := "isFinite", desc := "(D)Z", sig := { parameters := [.double], returnType := some .boolean }, accessFlags := 9, code := some k8c0 }
/-- java/lang/Double -/
def k8 : Class := { plain "java/lang/Double" (some 4) with
  accessFlags := 49
  interfaces := #[5, 6, 7]
  cf := some (fileOf pool8 1 #[] #[{ accessFlags := 9, nameIndex := 13, descriptorIndex := 14, attributes := #[] }] 49 114 #[175, 177, 179] #[{ accessFlags := 25, nameIndex := 181, descriptorIndex := 121, attributes := #[] }, { accessFlags := 25, nameIndex := 185, descriptorIndex := 121, attributes := #[] }, { accessFlags := 25, nameIndex := 188, descriptorIndex := 121, attributes := #[] }, { accessFlags := 25, nameIndex := 191, descriptorIndex := 121, attributes := #[] }, { accessFlags := 25, nameIndex := 192, descriptorIndex := 121, attributes := #[] }, { accessFlags := 25, nameIndex := 193, descriptorIndex := 121, attributes := #[] }, { accessFlags := 25, nameIndex := 196, descriptorIndex := 197, attributes := #[] }, { accessFlags := 25, nameIndex := 199, descriptorIndex := 197, attributes := #[] }, { accessFlags := 25, nameIndex := 201, descriptorIndex := 197, attributes := #[] }, { accessFlags := 25, nameIndex := 203, descriptorIndex := 197, attributes := #[] }, { accessFlags := 25, nameIndex := 205, descriptorIndex := 197, attributes := #[] }, { accessFlags := 25, nameIndex := 173, descriptorIndex := 174, attributes := #[] }, { accessFlags := 18, nameIndex := 120, descriptorIndex := 121, attributes := #[] }, { accessFlags := 26, nameIndex := 209, descriptorIndex := 210, attributes := #[] }])
  fields := #[{ name := "POSITIVE_INFINITY", type := .double, accessFlags := 25, slot := 0, constantValue := 0 }, { name := "NEGATIVE_INFINITY", type := .double, accessFlags := 25, slot := 1, constantValue := 0 }, { name := "NaN", type := .double, accessFlags := 25, slot := 2, constantValue := 0 }, { name := "MAX_VALUE", type := .double, accessFlags := 25, slot := 3, constantValue := 0 }, { name := "MIN_NORMAL", type := .double, accessFlags := 25, slot := 4, constantValue := 0 }, { name := "MIN_VALUE", type := .double, accessFlags := 25, slot := 5, constantValue := 0 }, { name := "SIZE", type := .int, accessFlags := 25, slot := 6, constantValue := 0 }, { name := "PRECISION", type := .int, accessFlags := 25, slot := 7, constantValue := 0 }, { name := "MAX_EXPONENT", type := .int, accessFlags := 25, slot := 8, constantValue := 0 }, { name := "MIN_EXPONENT", type := .int, accessFlags := 25, slot := 9, constantValue := 0 }, { name := "BYTES", type := .int, accessFlags := 25, slot := 10, constantValue := 0 }, { name := "TYPE", type := (.object "java/lang/Class"), accessFlags := 25, slot := 11, constantValue := 0 }, { name := "value", type := .double, accessFlags := 18, slot := 0, constantValue := 0 }, { name := "serialVersionUID", type := .long, accessFlags := 26, slot := 12, constantValue := 0 }]
  methods := #[k8m0]
  instanceTypes := #[.double]
  staticTypes := #[.double, .double, .double, .double, .double, .double, .int, .int, .int, .int, .int, (.object "java/lang/Class"), .long]
  resolved := Array.replicate 290 none
  statics := none }

def pool9 : Array CpInfo := pool [(1, .class_ 2), (0, u "java/lang/Math"), (1, .class_ 6), (1, u "java/lang/Object"), (0, u "<init>"), (0, u "()V"), (5, u "(D)D"), (83, .class_ 100), (1, u "java/lang/Math$RandomNumberGeneratorHolder"), (23, u "abs"), (47, u "negativeZeroFloatBits"), (0, u "J"), (2, u "negativeZeroDoubleBits"), (68, u "$assertionsDisabled"), (0, u "Z"), (91, u "twoToTheDoubleScaleDown"), (0, u "D"), (4, u "twoToTheDoubleScaleUp"), (9, u "E"), (3, u "PI"), (2, u "TAU"), (2, u "DEGREES_TO_RADIANS"), (0, u "RADIANS_TO_DEGREES")] 94

def k9m0 : Method := { name := "<init>", desc := "()V", sig := { parameters := [], returnType := none }, accessFlags := 2, code := none }
def k9c1 : Code := { maxStack := 4, maxLocals := 2, code := jdk_29_method_64_code, exceptionTable := #[], attributes := #[] }
def k9m1 : Method := { name := "abs", desc := "(D)D", sig := { parameters := [.double], returnType := some .double }, accessFlags := 9, code := some k9c1 }
/-- java/lang/Math -/
def k9 : Class := { plain "java/lang/Math" (some 0) with
  accessFlags := 49
  interfaces := #[]
  cf := some (fileOf pool9 1 #[.nestMembers #[98]] #[{ accessFlags := 2, nameIndex := 7, descriptorIndex := 8, attributes := #[] }, { accessFlags := 9, nameIndex := 124, descriptorIndex := 14, attributes := #[] }] 49 4 #[] #[{ accessFlags := 25, nameIndex := 354, descriptorIndex := 339, attributes := #[] }, { accessFlags := 25, nameIndex := 358, descriptorIndex := 339, attributes := #[] }, { accessFlags := 25, nameIndex := 361, descriptorIndex := 339, attributes := #[] }, { accessFlags := 26, nameIndex := 364, descriptorIndex := 339, attributes := #[] }, { accessFlags := 26, nameIndex := 365, descriptorIndex := 339, attributes := #[] }, { accessFlags := 26, nameIndex := 172, descriptorIndex := 173, attributes := #[] }, { accessFlags := 26, nameIndex := 176, descriptorIndex := 173, attributes := #[] }, { accessFlags := 8, nameIndex := 344, descriptorIndex := 339, attributes := #[] }, { accessFlags := 8, nameIndex := 338, descriptorIndex := 339, attributes := #[] }, { accessFlags := 4120, nameIndex := 245, descriptorIndex := 246, attributes := #[] }])
  fields := #[{ name := "E", type := .double, accessFlags := 25, slot := 0, constantValue := 0 }, { name := "PI", type := .double, accessFlags := 25, slot := 1, constantValue := 0 }, { name := "TAU", type := .double, accessFlags := 25, slot := 2, constantValue := 0 }, { name := "DEGREES_TO_RADIANS", type := .double, accessFlags := 26, slot := 3, constantValue := 0 }, { name := "RADIANS_TO_DEGREES", type := .double, accessFlags := 26, slot := 4, constantValue := 0 }, { name := "negativeZeroFloatBits", type := .long, accessFlags := 26, slot := 5, constantValue := 0 }, { name := "negativeZeroDoubleBits", type := .long, accessFlags := 26, slot := 6, constantValue := 0 }, { name := "twoToTheDoubleScaleUp", type := .double, accessFlags := 8, slot := 7, constantValue := 0 }, { name := "twoToTheDoubleScaleDown", type := .double, accessFlags := 8, slot := 8, constantValue := 0 }, { name := "$assertionsDisabled", type := .boolean, accessFlags := 4120, slot := 9, constantValue := 0 }]
  methods := #[k9m0, k9m1]
  instanceTypes := #[]
  staticTypes := #[.double, .double, .double, .double, .double, .long, .long, .double, .double, .boolean]
  resolved := Array.replicate 460 none
  statics := none }

def pool10 : Array CpInfo := pool [(1, .class_ 2), (0, u "java/lang/Cloneable"), (0, .class_ 4), (0, u "java/lang/Object")] 2

/-- java/lang/Cloneable -/
def k10 : Class := { plain "java/lang/Cloneable" (some 0) with
  accessFlags := 1537
  interfaces := #[]
  cf := some (fileOf pool10 1 #[] #[] 1537 3 #[] #[])
  fields := #[]
  methods := #[]
  instanceTypes := #[]
  staticTypes := #[]
  resolved := Array.replicate 7 none
  statics := none }

/-- the primitive byte -/
def k11 : Class := { plain "byte" none with kind := .primitive 'B', accessFlags := 0x411 }
/-- [B -/
def k12 : Class := { plain "[B" (some 0) with kind := .array 11 .byte, interfaces := #[10, 3], accessFlags := 1041 }

/-- the primitive double -/
def k13 : Class := { plain "double" none with kind := .primitive 'D', accessFlags := 0x411 }
/-- [D -/
def k14 : Class := { plain "[D" (some 0) with kind := .array 13 .double, interfaces := #[10, 3], accessFlags := 1041 }

/-- the primitive int -/
def k15 : Class := { plain "int" none with kind := .primitive 'I', accessFlags := 0x411 }
/-- [I -/
def k16 : Class := { plain "[I" (some 0) with kind := .array 15 .int, interfaces := #[10, 3], accessFlags := 1041 }

def heap : Heap := #[]
def classes : Array Class := #[k0, k1, k2, k3, k4, k5, k6, k7, k8, k9, k10, k11, k12, k13, k14, k15, k16]
def interned : List (Array UInt16 × Addr) := []
def slotsUsed : Nat := 0
def theMethod : MethodId := ⟨1, 2⟩
def args0 : Array Value := #[.int 5, .int 5, .int 5, .int 5, .int 5]
def aboutOver (below : List Frame) : State where
  vm := { classes := classes, interned := interned.toArray }
  heap := heap
  slotsUsed := slotsUsed
  threads := #[{ frames := .invoking theMethod args0 :: below }]
def below0 : List Frame := [.native { method := ⟨0, 0⟩, args := #[] }]
def about1 : State := aboutOver below0
def p0 : Program := .bare "" "" ""
def e0 : Env := launch0.env 0 0 0
theorem w_frames : about1.frames = Frame.invoking theMethod args0 :: below0 := rfl
set_option maxRecDepth 65536 in
theorem w_args : argsFit about1.vm theMethod args0 = true := by decide +kernel
set_option maxRecDepth 65536 in
theorem w_heap : heapFits about1 = true := by decide +kernel
set_option maxRecDepth 65536 in
theorem w_runnable : about1.curStatus? = some .runnable := by decide +kernel
set_option maxRecDepth 65536 in
theorem w_alone : about1.alone = true := by decide +kernel
set_option maxRecDepth 65536 in
theorem w_named : about1.methodNamed? x = some theMethod := by decide +kernel
set_option maxRecDepth 65536 in
theorem w_hears : about1.hears theMethod below0 = true := by decide +kernel
set_option maxRecDepth 65536 in
theorem w_ripe : about1.ripe theMethod args0 below0 = true := by decide +kernel
theorem w_running : about1.status = .running := rfl
set_option maxRecDepth 65536 in
theorem w_room : about1.hasRoom e0.platform room_1 = true :=
  launch0.hasRoom_least _ room_1 (by decide +kernel) (by decide +kernel) (by decide +kernel) (by decide +kernel) (by decide +kernel) (by decide +kernel)
theorem allAtoms_all (ts : List Jvm.Cond) (a : Array Jvm.Value) (st : Jvm.State) : (allAtoms ts).before a st = ts.all (fun c => c.before a st) := by
  induction ts with
  | nil => rfl
  | cons c t ih =>
    show (Jvm.Cond.and c (allAtoms t)).before a st = _
    rw [Jvm.Cond.before_and, ih, List.all_cons]
def words1 : List Jvm.Cond := Jvm.Cond.code x code maxLocals ret :: tables_1
/-- a 'code' word, met by the world's own term for the bytes: nothing is compared byte by byte -/
theorem code_word {y : MethodName} {bytes : ByteArray} {mx : Nat} {rt : Option FieldType} {a : Array Value} {s : State} {m : MethodId} {meth : Method} {c : Code} (h1 : s.methodNamed? y = some m) (h2 : s.vm.method? m = some meth) (h3 : meth.code = some c) (h4 : c.code = bytes)
    (h5 : (c.maxLocals == mx && c.exceptionTable.isEmpty && decide (c.maxStack ≤ mostOperands) && decide (meth.sig.returnType = rt) && !meth.locks && decide (parseMethodDescriptor y.desc = some meth.sig)) = true) : (Jvm.Cond.code y bytes mx rt).before a s = true := by
  simp only [Bool.and_eq_true, beq_iff_eq, Bool.not_eq_true', decide_eq_true_eq] at h5
  obtain ⟨⟨⟨⟨⟨g1, g2⟩, g3⟩, g4⟩, g5⟩, g6⟩ := h5
  simp [Cond.before, Cond.holds, Cond.value, h1, h2, h3, h4, g1, g2, g3, g4, g5, g6]
def isCode : Jvm.Cond → Bool
  | .code _ _ _ _ => true
  | _ => false
theorem all_split {L : List Jvm.Cond} {P : Jvm.Cond → Bool} (h1 : L.all (fun c => isCode c || P c) = true) (h2 : ∀ c ∈ L.filter isCode, P c = true) : L.all P = true := by
  refine List.all_eq_true.mpr fun c hc => ?_
  have h := List.all_eq_true.mp h1 c hc
  rcases Bool.eq_false_or_eq_true (isCode c) with hi | hi
  · exact h2 c (List.mem_filter.mpr ⟨hc, hi⟩)
  · simpa [hi] using h
set_option maxRecDepth 65536 in
theorem w_c0 : (Jvm.Cond.code x code maxLocals ret).before args0 about1 = true := code_word (m := ⟨1, 2⟩) (meth := k1m2) (c := k1c2) (by decide +kernel) rfl rfl rfl (by decide +kernel)
set_option maxRecDepth 65536 in
theorem w_c1 : (Jvm.Cond.code ({ cls := "com/example/oceanus/oceanus/numerics/Tolerances", name := "<init>", desc := "([D[D[I)V" } : Jvm.MethodName) prog_115_method_2_code (6 : Nat) (Option.none : Option Jvm.ClassFile.FieldType)).before args0 about1 = true := code_word (m := ⟨2, 0⟩) (meth := k2m0) (c := k2c0) (by decide +kernel) rfl rfl rfl (by decide +kernel)
set_option maxRecDepth 65536 in
theorem w_c2 : (Jvm.Cond.code ({ cls := "java/lang/Object", name := "<init>", desc := "()V" } : Jvm.MethodName) object_method_1_code (1 : Nat) (Option.none : Option Jvm.ClassFile.FieldType)).before args0 about1 = true := code_word (m := ⟨0, 0⟩) (meth := k0m0) (c := k0c0) (by decide +kernel) rfl rfl rfl (by decide +kernel)
set_option maxRecDepth 65536 in
theorem w_c3 : (Jvm.Cond.code ({ cls := "java/lang/Double", name := "isFinite", desc := "(D)Z" } : Jvm.MethodName) jdk_117_method_8_code (2 : Nat) (Option.some Jvm.ClassFile.FieldType.boolean)).before args0 about1 = true := code_word (m := ⟨8, 0⟩) (meth := k8m0) (c := k8c0) (by decide +kernel) rfl rfl rfl (by decide +kernel)
set_option maxRecDepth 65536 in
theorem w_c4 : (Jvm.Cond.code ({ cls := "java/lang/Math", name := "abs", desc := "(D)D" } : Jvm.MethodName) jdk_29_method_64_code (2 : Nat) (Option.some Jvm.ClassFile.FieldType.double)).before args0 about1 = true := code_word (m := ⟨9, 1⟩) (meth := k9m1) (c := k9c1) (by decide +kernel) rfl rfl rfl (by decide +kernel)
set_option maxRecDepth 65536 in
theorem w_c5 : (Jvm.Cond.code ({ cls := "com/example/oceanus/oceanus/numerics/Tolerances", name := "group", desc := "([D)V" } : Jvm.MethodName) prog_115_method_4_code (3 : Nat) (Option.none : Option Jvm.ClassFile.FieldType)).before args0 about1 = true := code_word (m := ⟨2, 1⟩) (meth := k2m1) (c := k2c1) (by decide +kernel) rfl rfl rfl (by decide +kernel)
set_option maxRecDepth 65536 in
theorem w_c6 : (Jvm.Cond.code ({ cls := "com/example/oceanus/oceanus/numerics/TolerancesGroupPinLaw", name := "groupSum", desc := "([I[DI)D" } : Jvm.MethodName) method_2_code (5 : Nat) (Option.some Jvm.ClassFile.FieldType.double)).before args0 about1 = true := code_word (m := ⟨1, 1⟩) (meth := k1m1) (c := k1c1) (by decide +kernel) rfl rfl rfl (by decide +kernel)
def codes1 : List Jvm.Cond := [Jvm.Cond.code x code maxLocals ret, Jvm.Cond.code ({ cls := "com/example/oceanus/oceanus/numerics/Tolerances", name := "<init>", desc := "([D[D[I)V" } : Jvm.MethodName) prog_115_method_2_code (6 : Nat) (Option.none : Option Jvm.ClassFile.FieldType), Jvm.Cond.code ({ cls := "java/lang/Object", name := "<init>", desc := "()V" } : Jvm.MethodName) object_method_1_code (1 : Nat) (Option.none : Option Jvm.ClassFile.FieldType), Jvm.Cond.code ({ cls := "java/lang/Double", name := "isFinite", desc := "(D)Z" } : Jvm.MethodName) jdk_117_method_8_code (2 : Nat) (Option.some Jvm.ClassFile.FieldType.boolean), Jvm.Cond.code ({ cls := "java/lang/Math", name := "abs", desc := "(D)D" } : Jvm.MethodName) jdk_29_method_64_code (2 : Nat) (Option.some Jvm.ClassFile.FieldType.double), Jvm.Cond.code ({ cls := "com/example/oceanus/oceanus/numerics/Tolerances", name := "group", desc := "([D)V" } : Jvm.MethodName) prog_115_method_4_code (3 : Nat) (Option.none : Option Jvm.ClassFile.FieldType), Jvm.Cond.code ({ cls := "com/example/oceanus/oceanus/numerics/TolerancesGroupPinLaw", name := "groupSum", desc := "([I[DI)D" } : Jvm.MethodName) method_2_code (5 : Nat) (Option.some Jvm.ClassFile.FieldType.double)]
set_option maxRecDepth 65536 in
theorem codes_eq : words1.filter isCode = codes1 := rfl
theorem w_codes : ∀ c ∈ words1.filter isCode, c.before args0 about1 = true := by
  rw [codes_eq]
  intro c hc
  simp only [codes1, List.mem_cons, List.not_mem_nil, or_false] at hc
  rcases hc with rfl | rfl | rfl | rfl | rfl | rfl | rfl
  · exact w_c0
  · exact w_c1
  · exact w_c2
  · exact w_c3
  · exact w_c4
  · exact w_c5
  · exact w_c6
set_option maxRecDepth 65536 in
theorem w_t1 : (words1.take 24).all (fun c => isCode c || c.before args0 about1) = true := by decide +kernel
set_option maxRecDepth 65536 in
theorem w_t2 : ((words1.drop 24).take 24).all (fun c => isCode c || c.before args0 about1) = true := by decide +kernel
set_option maxRecDepth 65536 in
theorem w_t3 : ((words1.drop 24).drop 24).all (fun c => isCode c || c.before args0 about1) = true := by decide +kernel
theorem w_tables : (allAtoms (Jvm.Cond.code x code maxLocals ret :: tables_1)).before args0 about1 = true := by
  rw [allAtoms_all]
  show words1.all (fun c => c.before args0 about1) = true
  refine all_split ?_ w_codes
  rw [← List.take_append_drop 24 words1, List.all_append, w_t1, ← List.take_append_drop 24 (words1.drop 24), List.all_append, w_t2, w_t3]
  rfl
set_option maxRecDepth 65536 in
theorem w_case : (Jvm.Cond.and given_1 narrow_1).before args0 about1 = true := by decide +kernel
theorem w_applies : (headSpec (Jvm.Cond.code x code maxLocals ret :: tables_1) room_1).applies x e0.platform about1 = true :=
  (Spec.applies_iff w_frames).mpr ⟨w_running, w_runnable, w_alone, w_named, w_hears, w_ripe, w_room, w_tables⟩
theorem atStart : AtStart classFile x code maxLocals ret World_1 tables_1 room_1 Calls_1 rest_1 Pre_1 launch0 p0 e0 about1 theMethod args0 below0 :=
  ⟨lists_1, trivial, launch0.admits_env _ _ _, launch0.least_env, fairChoices_fair.cas, fairChoices_fair.clock, w_frames, w_args, w_heap, w_applies, trivial, trivial, w_case⟩
end start1
theorem witness_1 : WitnessClaimed_1 := ⟨start1.p0, start1.e0, start1.about1, start1.theMethod, start1.args0, start1.below0, start1.atStart⟩
end Jvm.Pilot.@@N@@
