import JvmDerived
import JvmDerived.Pilot.@@N@@Statement
import JvmDerived.Pilot.@@N@@Code
set_option linter.unusedVariables false
set_option linter.unusedSimpArgs false
namespace Jvm.RoadKit
open Sem ClassFile Op Lib Jvm.Stand Jvm.Free Jvm.LawKit
theorem own_getDI (L : List Int32) (i : Nat) (d : Int32) : (L.map Value.int).getD i (.int d) = .int (L.getD i d) := by simp [List.getD, List.getElem?_map]
theorem own_getDJ (L : List Int64) (i : Nat) (d : Int64) : (L.map Value.long).getD i (.long d) = .long (L.getD i d) := by simp [List.getD, List.getElem?_map]
theorem own_getDD (L : List UInt64) (i : Nat) (d : UInt64) : (L.map Value.double).getD i (.double d) = .double (L.getD i d) := by simp [List.getD, List.getElem?_map]
end Jvm.RoadKit
@@BLOCK:NumsL.lean.txt@@
namespace Jvm.OwnSt
open Sem ClassFile Op Lib Jvm.Free Jvm.Stand Jvm.RoadKit
abbrev lv (x : Int64) : Slot := .val (.long x)
abbrev dv (x : UInt64) : Slot := .val (.double x)
def Gd (tb : Tables) (T : State) (m : MethodId) (c : Code) (below : List Frame) (code : ByteArray) : Prop := At T m c below ∧ tb.exec = Jvm.exec ∧ c.code = code
theorem gd {p : Program} {l : Launch} {e : Env} {R : Room} {s : State} {m : MethodId} {args : Array Value} {below : List Frame} {meth : Method} {c : Code} {T : State} {locs : List Loc} {cells slots : Nat} {code : ByteArray} (X : Stand p l e R s m args below meth c T locs cells slots) (hx : p.tables.exec = Jvm.exec) (hby : c.code = code) : Gd p.tables T m c below code := ⟨X.here, hx, hby⟩
section Steps
variable {tb : Tables} [Ours tb] {e : Env} {below : List Frame} {T target : State} {m : MethodId} {c : Code} {pc : Nat} {L L' : Array Slot} {S : List Value} {code : ByteArray}
theorem miload (pc' : Nat) (G : Gd tb T m c below code) {k : Nat} {v : Int32} (hd : decode code pc = .ok (.iload k, 2)) (hl : L[k]? = some (.val (.int v))) (hp : pc + 2 = pc') (hr : Steps tb e below (T.setTop (mkF m pc' L (.int v :: S))) target) : Steps tb e below (T.setTop (mkF m pc L S)) target := by
  subst hp; exact XS.iload G.1 G.2.1 rfl (hb G.2.2 hd) hl hr
theorem miloadN (pc' : Nat) (G : Gd tb T m c below code) {k : Fin 4} {v : Int32} (hd : decode code pc = .ok (.iload_n k, 1)) (hl : L[k.val]? = some (.val (.int v))) (hp : pc + 1 = pc') (hr : Steps tb e below (T.setTop (mkF m pc' L (.int v :: S))) target) : Steps tb e below (T.setTop (mkF m pc L S)) target := by
  subst hp; exact XS.iloadN G.1 G.2.1 rfl (hb G.2.2 hd) hl hr
theorem mistore (pc' : Nat) (G : Gd tb T m c below code) {k : Nat} {x : Int32} (hd : decode code pc = .ok (.istore k, 2)) (L' : Array Slot) (hl : storeLocals L k (.int x) = some L') (hp : pc + 2 = pc') (hr : Steps tb e below (T.setTop (mkF m pc' L' S)) target) : Steps tb e below (T.setTop (mkF m pc L (.int x :: S))) target := by
  subst hp; exact XS.istore G.1 G.2.1 rfl (hb G.2.2 hd) rfl hl hr
theorem mistoreN (pc' : Nat) (G : Gd tb T m c below code) {k : Fin 4} {x : Int32} (hd : decode code pc = .ok (.istore_n k, 1)) (L' : Array Slot) (hl : storeLocals L k.val (.int x) = some L') (hp : pc + 1 = pc') (hr : Steps tb e below (T.setTop (mkF m pc' L' S)) target) : Steps tb e below (T.setTop (mkF m pc L (.int x :: S))) target := by
  subst hp; exact XS.istoreN G.1 G.2.1 rfl (hb G.2.2 hd) rfl hl hr
theorem mlload (pc' : Nat) (G : Gd tb T m c below code) {k : Nat} {v : Int64} (hd : decode code pc = .ok (.lload k, 2)) (hl : L[k]? = some (.val (.long v))) (hp : pc + 2 = pc') (hr : Steps tb e below (T.setTop (mkF m pc' L (.long v :: S))) target) : Steps tb e below (T.setTop (mkF m pc L S)) target := by
  subst hp; exact XS.lload G.1 G.2.1 rfl (hb G.2.2 hd) hl hr
theorem mlloadN (pc' : Nat) (G : Gd tb T m c below code) {k : Fin 4} {v : Int64} (hd : decode code pc = .ok (.lload_n k, 1)) (hl : L[k.val]? = some (.val (.long v))) (hp : pc + 1 = pc') (hr : Steps tb e below (T.setTop (mkF m pc' L (.long v :: S))) target) : Steps tb e below (T.setTop (mkF m pc L S)) target := by
  subst hp; exact XS.lloadN G.1 G.2.1 rfl (hb G.2.2 hd) hl hr
theorem mlstore (pc' : Nat) (G : Gd tb T m c below code) {k : Nat} {x : Int64} (hd : decode code pc = .ok (.lstore k, 2)) (L' : Array Slot) (hl : storeLocals L k (.long x) = some L') (hp : pc + 2 = pc') (hr : Steps tb e below (T.setTop (mkF m pc' L' S)) target) : Steps tb e below (T.setTop (mkF m pc L (.long x :: S))) target := by
  subst hp; exact XS.lstore G.1 G.2.1 rfl (hb G.2.2 hd) rfl hl hr
theorem mlstoreN (pc' : Nat) (G : Gd tb T m c below code) {k : Fin 4} {x : Int64} (hd : decode code pc = .ok (.lstore_n k, 1)) (L' : Array Slot) (hl : storeLocals L k.val (.long x) = some L') (hp : pc + 1 = pc') (hr : Steps tb e below (T.setTop (mkF m pc' L' S)) target) : Steps tb e below (T.setTop (mkF m pc L (.long x :: S))) target := by
  subst hp; exact XS.lstoreN G.1 G.2.1 rfl (hb G.2.2 hd) rfl hl hr
theorem mdload (pc' : Nat) (G : Gd tb T m c below code) {k : Nat} {v : UInt64} (hd : decode code pc = .ok (.dload k, 2)) (hl : L[k]? = some (.val (.double v))) (hp : pc + 2 = pc') (hr : Steps tb e below (T.setTop (mkF m pc' L (.double v :: S))) target) : Steps tb e below (T.setTop (mkF m pc L S)) target := by
  subst hp; exact XS.dload G.1 G.2.1 rfl (hb G.2.2 hd) hl hr
theorem mdloadN (pc' : Nat) (G : Gd tb T m c below code) {k : Fin 4} {v : UInt64} (hd : decode code pc = .ok (.dload_n k, 1)) (hl : L[k.val]? = some (.val (.double v))) (hp : pc + 1 = pc') (hr : Steps tb e below (T.setTop (mkF m pc' L (.double v :: S))) target) : Steps tb e below (T.setTop (mkF m pc L S)) target := by
  subst hp; exact XS.dloadN G.1 G.2.1 rfl (hb G.2.2 hd) hl hr
theorem mdstore (pc' : Nat) (G : Gd tb T m c below code) {k : Nat} {x : UInt64} (hd : decode code pc = .ok (.dstore k, 2)) (L' : Array Slot) (hl : storeLocals L k (.double x) = some L') (hp : pc + 2 = pc') (hr : Steps tb e below (T.setTop (mkF m pc' L' S)) target) : Steps tb e below (T.setTop (mkF m pc L (.double x :: S))) target := by
  subst hp; exact XS.dstore G.1 G.2.1 rfl (hb G.2.2 hd) rfl hl hr
theorem mdstoreN (pc' : Nat) (G : Gd tb T m c below code) {k : Fin 4} {x : UInt64} (hd : decode code pc = .ok (.dstore_n k, 1)) (L' : Array Slot) (hl : storeLocals L k.val (.double x) = some L') (hp : pc + 1 = pc') (hr : Steps tb e below (T.setTop (mkF m pc' L' S)) target) : Steps tb e below (T.setTop (mkF m pc L (.double x :: S))) target := by
  subst hp; exact XS.dstoreN G.1 G.2.1 rfl (hb G.2.2 hd) rfl hl hr
theorem maload (pc' : Nat) (G : Gd tb T m c below code) {k : Nat} {v : Value} (hd : decode code pc = .ok (.aload k, 2)) (hl : L[k]? = some (.val v)) (hv : v.isRef = true) (hp : pc + 2 = pc') (hr : Steps tb e below (T.setTop (mkF m pc' L (v :: S))) target) : Steps tb e below (T.setTop (mkF m pc L S)) target := by
  subst hp; exact XS.aload G.1 G.2.1 rfl (hb G.2.2 hd) hl hv hr
theorem maloadN (pc' : Nat) (G : Gd tb T m c below code) {k : Fin 4} {v : Value} (hd : decode code pc = .ok (.aload_n k, 1)) (hl : L[k.val]? = some (.val v)) (hv : v.isRef = true) (hp : pc + 1 = pc') (hr : Steps tb e below (T.setTop (mkF m pc' L (v :: S))) target) : Steps tb e below (T.setTop (mkF m pc L S)) target := by
  subst hp; exact XS.aloadN G.1 G.2.1 rfl (hb G.2.2 hd) hl hv hr
theorem mastore (pc' : Nat) (G : Gd tb T m c below code) {k : Nat} {x : Value} (hd : decode code pc = .ok (.astore k, 2)) (hv : x.isRef = true) (L' : Array Slot) (hl : storeLocals L k x = some L') (hp : pc + 2 = pc') (hr : Steps tb e below (T.setTop (mkF m pc' L' S)) target) : Steps tb e below (T.setTop (mkF m pc L (x :: S))) target := by
  subst hp; exact XS.astore G.1 G.2.1 rfl (hb G.2.2 hd) rfl hv hl hr
theorem mastoreN (pc' : Nat) (G : Gd tb T m c below code) {k : Fin 4} {x : Value} (hd : decode code pc = .ok (.astore_n k, 1)) (hv : x.isRef = true) (L' : Array Slot) (hl : storeLocals L k.val x = some L') (hp : pc + 1 = pc') (hr : Steps tb e below (T.setTop (mkF m pc' L' S)) target) : Steps tb e below (T.setTop (mkF m pc L (x :: S))) target := by
  subst hp; exact XS.astoreN G.1 G.2.1 rfl (hb G.2.2 hd) rfl hv hl hr
theorem miconst (pc' : Nat) (G : Gd tb T m c below code) {i : Int} {v : Int32} (hd : decode code pc = .ok (.iconst i, 1)) (hv : Int32.ofInt i = v) (hp : pc + 1 = pc') (hr : Steps tb e below (T.setTop (mkF m pc' L (.int v :: S))) target) : Steps tb e below (T.setTop (mkF m pc L S)) target := by
  subst hp; subst hv; exact XS.iconst G.1 G.2.1 rfl (hb G.2.2 hd) hr
theorem mbipush (pc' : Nat) (G : Gd tb T m c below code) {i : Int} {v : Int32} (hd : decode code pc = .ok (.bipush i, 2)) (hv : (Int8.ofInt i).toInt32 = v) (hp : pc + 2 = pc') (hr : Steps tb e below (T.setTop (mkF m pc' L (.int v :: S))) target) : Steps tb e below (T.setTop (mkF m pc L S)) target := by
  subst hp; subst hv; exact XS.bipush G.1 G.2.1 rfl (hb G.2.2 hd) hr
theorem msipush (pc' : Nat) (G : Gd tb T m c below code) {i : Int} {v : Int32} (hd : decode code pc = .ok (.sipush i, 3)) (hv : (Int16.ofInt i).toInt32 = v) (hp : pc + 3 = pc') (hr : Steps tb e below (T.setTop (mkF m pc' L (.int v :: S))) target) : Steps tb e below (T.setTop (mkF m pc L S)) target := by
  subst hp; subst hv; exact XS.sipush G.1 G.2.1 rfl (hb G.2.2 hd) hr
theorem mlconst (pc' : Nat) (G : Gd tb T m c below code) {k : Fin 2} {v : Int64} (hd : decode code pc = .ok (.lconst k, 1)) (hv : Int64.ofNat k = v) (hp : pc + 1 = pc') (hr : Steps tb e below (T.setTop (mkF m pc' L (.long v :: S))) target) : Steps tb e below (T.setTop (mkF m pc L S)) target := by
  subst hp; subst hv; exact XS.lconst G.1 G.2.1 rfl (hb G.2.2 hd) hr
theorem mdconst0 (pc' : Nat) (G : Gd tb T m c below code) {v : UInt64} (hd : decode code pc = .ok (.dconst 0, 1)) (hv : FP.dconst0 = v) (hp : pc + 1 = pc') (hr : Steps tb e below (T.setTop (mkF m pc' L (.double v :: S))) target) : Steps tb e below (T.setTop (mkF m pc L S)) target := by
  subst hp; exact XS.dconst0 G.1 G.2.1 rfl (hb G.2.2 hd) hv hr
theorem mdconst1 (pc' : Nat) (G : Gd tb T m c below code) {v : UInt64} (hd : decode code pc = .ok (.dconst 1, 1)) (hv : FP.dconst1 = v) (hp : pc + 1 = pc') (hr : Steps tb e below (T.setTop (mkF m pc' L (.double v :: S))) target) : Steps tb e below (T.setTop (mkF m pc L S)) target := by
  subst hp; exact XS.dconst1 G.1 G.2.1 rfl (hb G.2.2 hd) hv hr
theorem maconst_null (pc' : Nat) (G : Gd tb T m c below code)  (hd : decode code pc = .ok (.aconst_null, 1)) (hp : pc + 1 = pc') (hr : Steps tb e below (T.setTop (mkF m pc' L (.null :: S))) target) : Steps tb e below (T.setTop (mkF m pc L S)) target := by
  subst hp; exact XS.aconstNull G.1 G.2.1 rfl (hb G.2.2 hd)  hr
theorem miadd (pc' : Nat) (G : Gd tb T m c below code) {x : Int32} {y : Int32} {v : Int32} (hd : decode code pc = .ok (.iadd, 1)) (hv : x + y = v) (hp : pc + 1 = pc') (hr : Steps tb e below (T.setTop (mkF m pc' L (.int v :: S))) target) : Steps tb e below (T.setTop (mkF m pc L (.int y :: .int x :: S))) target := by
  subst hp; subst hv; exact XS.iadd G.1 G.2.1 rfl (hb G.2.2 hd) rfl  hr
theorem misub (pc' : Nat) (G : Gd tb T m c below code) {x : Int32} {y : Int32} {v : Int32} (hd : decode code pc = .ok (.isub, 1)) (hv : x - y = v) (hp : pc + 1 = pc') (hr : Steps tb e below (T.setTop (mkF m pc' L (.int v :: S))) target) : Steps tb e below (T.setTop (mkF m pc L (.int y :: .int x :: S))) target := by
  subst hp; subst hv; exact XS.isub G.1 G.2.1 rfl (hb G.2.2 hd) rfl  hr
theorem mimul (pc' : Nat) (G : Gd tb T m c below code) {x : Int32} {y : Int32} {v : Int32} (hd : decode code pc = .ok (.imul, 1)) (hv : x * y = v) (hp : pc + 1 = pc') (hr : Steps tb e below (T.setTop (mkF m pc' L (.int v :: S))) target) : Steps tb e below (T.setTop (mkF m pc L (.int y :: .int x :: S))) target := by
  subst hp; subst hv; exact XS.imul G.1 G.2.1 rfl (hb G.2.2 hd) rfl  hr
theorem miand (pc' : Nat) (G : Gd tb T m c below code) {x : Int32} {y : Int32} {v : Int32} (hd : decode code pc = .ok (.iand, 1)) (hv : x &&& y = v) (hp : pc + 1 = pc') (hr : Steps tb e below (T.setTop (mkF m pc' L (.int v :: S))) target) : Steps tb e below (T.setTop (mkF m pc L (.int y :: .int x :: S))) target := by
  subst hp; subst hv; exact XS.iand G.1 G.2.1 rfl (hb G.2.2 hd) rfl  hr
theorem mior (pc' : Nat) (G : Gd tb T m c below code) {x : Int32} {y : Int32} {v : Int32} (hd : decode code pc = .ok (.ior, 1)) (hv : x ||| y = v) (hp : pc + 1 = pc') (hr : Steps tb e below (T.setTop (mkF m pc' L (.int v :: S))) target) : Steps tb e below (T.setTop (mkF m pc L (.int y :: .int x :: S))) target := by
  subst hp; subst hv; exact XS.ior G.1 G.2.1 rfl (hb G.2.2 hd) rfl  hr
theorem mixor (pc' : Nat) (G : Gd tb T m c below code) {x : Int32} {y : Int32} {v : Int32} (hd : decode code pc = .ok (.ixor, 1)) (hv : x ^^^ y = v) (hp : pc + 1 = pc') (hr : Steps tb e below (T.setTop (mkF m pc' L (.int v :: S))) target) : Steps tb e below (T.setTop (mkF m pc L (.int y :: .int x :: S))) target := by
  subst hp; subst hv; exact XS.ixor G.1 G.2.1 rfl (hb G.2.2 hd) rfl  hr
theorem midiv (pc' : Nat) (G : Gd tb T m c below code) {x : Int32} {y : Int32} {v : Int32} (hd : decode code pc = .ok (.idiv, 1)) (hz : y ≠ 0) (hv : x / y = v) (hp : pc + 1 = pc') (hr : Steps tb e below (T.setTop (mkF m pc' L (.int v :: S))) target) : Steps tb e below (T.setTop (mkF m pc L (.int y :: .int x :: S))) target := by
  subst hp; subst hv; exact XS.idiv G.1 G.2.1 rfl (hb G.2.2 hd) rfl hz hr
theorem mladd (pc' : Nat) (G : Gd tb T m c below code) {x : Int64} {y : Int64} {v : Int64} (hd : decode code pc = .ok (.ladd, 1)) (hv : x + y = v) (hp : pc + 1 = pc') (hr : Steps tb e below (T.setTop (mkF m pc' L (.long v :: S))) target) : Steps tb e below (T.setTop (mkF m pc L (.long y :: .long x :: S))) target := by
  subst hp; subst hv; exact XS.ladd G.1 G.2.1 rfl (hb G.2.2 hd) rfl  hr
theorem mlsub (pc' : Nat) (G : Gd tb T m c below code) {x : Int64} {y : Int64} {v : Int64} (hd : decode code pc = .ok (.lsub, 1)) (hv : x - y = v) (hp : pc + 1 = pc') (hr : Steps tb e below (T.setTop (mkF m pc' L (.long v :: S))) target) : Steps tb e below (T.setTop (mkF m pc L (.long y :: .long x :: S))) target := by
  subst hp; subst hv; exact XS.lsub G.1 G.2.1 rfl (hb G.2.2 hd) rfl  hr
theorem mlmul (pc' : Nat) (G : Gd tb T m c below code) {x : Int64} {y : Int64} {v : Int64} (hd : decode code pc = .ok (.lmul, 1)) (hv : x * y = v) (hp : pc + 1 = pc') (hr : Steps tb e below (T.setTop (mkF m pc' L (.long v :: S))) target) : Steps tb e below (T.setTop (mkF m pc L (.long y :: .long x :: S))) target := by
  subst hp; subst hv; exact XS.lmul G.1 G.2.1 rfl (hb G.2.2 hd) rfl  hr
theorem mland (pc' : Nat) (G : Gd tb T m c below code) {x : Int64} {y : Int64} {v : Int64} (hd : decode code pc = .ok (.land, 1)) (hv : x &&& y = v) (hp : pc + 1 = pc') (hr : Steps tb e below (T.setTop (mkF m pc' L (.long v :: S))) target) : Steps tb e below (T.setTop (mkF m pc L (.long y :: .long x :: S))) target := by
  subst hp; subst hv; exact XS.land G.1 G.2.1 rfl (hb G.2.2 hd) rfl  hr
theorem mlor (pc' : Nat) (G : Gd tb T m c below code) {x : Int64} {y : Int64} {v : Int64} (hd : decode code pc = .ok (.lor, 1)) (hv : x ||| y = v) (hp : pc + 1 = pc') (hr : Steps tb e below (T.setTop (mkF m pc' L (.long v :: S))) target) : Steps tb e below (T.setTop (mkF m pc L (.long y :: .long x :: S))) target := by
  subst hp; subst hv; exact XS.lor G.1 G.2.1 rfl (hb G.2.2 hd) rfl  hr
theorem mlxor (pc' : Nat) (G : Gd tb T m c below code) {x : Int64} {y : Int64} {v : Int64} (hd : decode code pc = .ok (.lxor, 1)) (hv : x ^^^ y = v) (hp : pc + 1 = pc') (hr : Steps tb e below (T.setTop (mkF m pc' L (.long v :: S))) target) : Steps tb e below (T.setTop (mkF m pc L (.long y :: .long x :: S))) target := by
  subst hp; subst hv; exact XS.lxor G.1 G.2.1 rfl (hb G.2.2 hd) rfl  hr
theorem mldiv (pc' : Nat) (G : Gd tb T m c below code) {x : Int64} {y : Int64} {v : Int64} (hd : decode code pc = .ok (.ldiv, 1)) (hz : y ≠ 0) (hv : x / y = v) (hp : pc + 1 = pc') (hr : Steps tb e below (T.setTop (mkF m pc' L (.long v :: S))) target) : Steps tb e below (T.setTop (mkF m pc L (.long y :: .long x :: S))) target := by
  subst hp; subst hv; exact XS.ldiv G.1 G.2.1 rfl (hb G.2.2 hd) rfl hz hr
theorem mlrem (pc' : Nat) (G : Gd tb T m c below code) {x : Int64} {y : Int64} {v : Int64} (hd : decode code pc = .ok (.lrem, 1)) (hz : y ≠ 0) (hv : x - (x / y) * y = v) (hp : pc + 1 = pc') (hr : Steps tb e below (T.setTop (mkF m pc' L (.long v :: S))) target) : Steps tb e below (T.setTop (mkF m pc L (.long y :: .long x :: S))) target := by
  subst hp; subst hv; exact XS.lrem G.1 G.2.1 rfl (hb G.2.2 hd) rfl hz hr
theorem mirem (pc' : Nat) (G : Gd tb T m c below code) {x : Int32} {y : Int32} {v : Int32} (hd : decode code pc = .ok (.irem, 1)) (hz : y ≠ 0) (hv : x - (x / y) * y = v) (hp : pc + 1 = pc') (hr : Steps tb e below (T.setTop (mkF m pc' L (.int v :: S))) target) : Steps tb e below (T.setTop (mkF m pc L (.int y :: .int x :: S))) target := by
  subst hp; subst hv; exact XS.irem G.1 G.2.1 rfl (hb G.2.2 hd) rfl hz hr
theorem mishl (pc' : Nat) (G : Gd tb T m c below code) {x : Int32} {y : Int32} {v : Int32} (hd : decode code pc = .ok (.ishl, 1)) (hv : x <<< (y &&& 31) = v) (hp : pc + 1 = pc') (hr : Steps tb e below (T.setTop (mkF m pc' L (.int v :: S))) target) : Steps tb e below (T.setTop (mkF m pc L (.int y :: .int x :: S))) target := by
  subst hp; subst hv; exact XS.ishl G.1 G.2.1 rfl (hb G.2.2 hd) rfl  hr
theorem mishr (pc' : Nat) (G : Gd tb T m c below code) {x : Int32} {y : Int32} {v : Int32} (hd : decode code pc = .ok (.ishr, 1)) (hv : x >>> (y &&& 31) = v) (hp : pc + 1 = pc') (hr : Steps tb e below (T.setTop (mkF m pc' L (.int v :: S))) target) : Steps tb e below (T.setTop (mkF m pc L (.int y :: .int x :: S))) target := by
  subst hp; subst hv; exact XS.ishr G.1 G.2.1 rfl (hb G.2.2 hd) rfl  hr
theorem miushr (pc' : Nat) (G : Gd tb T m c below code) {x : Int32} {y : Int32} {v : Int32} (hd : decode code pc = .ok (.iushr, 1)) (hv : (x.toUInt32 >>> (y &&& 31).toUInt32).toInt32 = v) (hp : pc + 1 = pc') (hr : Steps tb e below (T.setTop (mkF m pc' L (.int v :: S))) target) : Steps tb e below (T.setTop (mkF m pc L (.int y :: .int x :: S))) target := by
  subst hp; subst hv; exact XS.iushr G.1 G.2.1 rfl (hb G.2.2 hd) rfl  hr
theorem mlshl (pc' : Nat) (G : Gd tb T m c below code) {x : Int64} {y : Int32} {v : Int64} (hd : decode code pc = .ok (.lshl, 1)) (hv : x <<< (y &&& 0x3f).toInt64 = v) (hp : pc + 1 = pc') (hr : Steps tb e below (T.setTop (mkF m pc' L (.long v :: S))) target) : Steps tb e below (T.setTop (mkF m pc L (.int y :: .long x :: S))) target := by
  subst hp; subst hv; exact XS.lshl G.1 G.2.1 rfl (hb G.2.2 hd) rfl  hr
theorem mlshr (pc' : Nat) (G : Gd tb T m c below code) {x : Int64} {y : Int32} {v : Int64} (hd : decode code pc = .ok (.lshr, 1)) (hv : x >>> (y &&& 0x3f).toInt64 = v) (hp : pc + 1 = pc') (hr : Steps tb e below (T.setTop (mkF m pc' L (.long v :: S))) target) : Steps tb e below (T.setTop (mkF m pc L (.int y :: .long x :: S))) target := by
  subst hp; subst hv; exact XS.lshr G.1 G.2.1 rfl (hb G.2.2 hd) rfl  hr
theorem mlushr (pc' : Nat) (G : Gd tb T m c below code) {x : Int64} {y : Int32} {v : Int64} (hd : decode code pc = .ok (.lushr, 1)) (hv : (x.toUInt64 >>> (y &&& 0x3f).toInt64.toUInt64).toInt64 = v) (hp : pc + 1 = pc') (hr : Steps tb e below (T.setTop (mkF m pc' L (.long v :: S))) target) : Steps tb e below (T.setTop (mkF m pc L (.int y :: .long x :: S))) target := by
  subst hp; subst hv; exact XS.lushr G.1 G.2.1 rfl (hb G.2.2 hd) rfl  hr
theorem mineg (pc' : Nat) (G : Gd tb T m c below code) {x : Int32} (hd : decode code pc = .ok (.ineg, 1)) (hp : pc + 1 = pc') (hr : Steps tb e below (T.setTop (mkF m pc' L (.int (-x) :: S))) target) : Steps tb e below (T.setTop (mkF m pc L (.int x :: S))) target := by
  subst hp; exact XS.ineg G.1 G.2.1 rfl (hb G.2.2 hd) rfl hr
theorem mlneg (pc' : Nat) (G : Gd tb T m c below code) {x : Int64} (hd : decode code pc = .ok (.lneg, 1)) (hp : pc + 1 = pc') (hr : Steps tb e below (T.setTop (mkF m pc' L (.long (-x) :: S))) target) : Steps tb e below (T.setTop (mkF m pc L (.long x :: S))) target := by
  subst hp; exact XS.lneg G.1 G.2.1 rfl (hb G.2.2 hd) rfl hr
theorem mi2l (pc' : Nat) (G : Gd tb T m c below code) {x : Int32} (hd : decode code pc = .ok (.i2l, 1)) (hp : pc + 1 = pc') (hr : Steps tb e below (T.setTop (mkF m pc' L (.long (x.toInt64) :: S))) target) : Steps tb e below (T.setTop (mkF m pc L (.int x :: S))) target := by
  subst hp; exact XS.i2l G.1 G.2.1 rfl (hb G.2.2 hd) rfl hr
theorem ml2i (pc' : Nat) (G : Gd tb T m c below code) {x : Int64} (hd : decode code pc = .ok (.l2i, 1)) (hp : pc + 1 = pc') (hr : Steps tb e below (T.setTop (mkF m pc' L (.int (x.toInt32) :: S))) target) : Steps tb e below (T.setTop (mkF m pc L (.long x :: S))) target := by
  subst hp; exact XS.l2i G.1 G.2.1 rfl (hb G.2.2 hd) rfl hr
theorem mi2d (pc' : Nat) (G : Gd tb T m c below code) {x : Int32} (hd : decode code pc = .ok (.i2d, 1)) (hp : pc + 1 = pc') (hr : Steps tb e below (T.setTop (mkF m pc' L (.double (FP.i2d x) :: S))) target) : Steps tb e below (T.setTop (mkF m pc L (.int x :: S))) target := by
  subst hp; exact XS.i2dS G.1 G.2.1 rfl (hb G.2.2 hd) rfl rfl hr
theorem ml2d (pc' : Nat) (G : Gd tb T m c below code) {x : Int64} (hd : decode code pc = .ok (.l2d, 1)) (hp : pc + 1 = pc') (hr : Steps tb e below (T.setTop (mkF m pc' L (.double (FP.l2d x) :: S))) target) : Steps tb e below (T.setTop (mkF m pc L (.long x :: S))) target := by
  subst hp; exact XS.l2dS G.1 G.2.1 rfl (hb G.2.2 hd) rfl rfl hr
theorem mdneg (pc' : Nat) (G : Gd tb T m c below code) {x : UInt64} (hd : decode code pc = .ok (.dneg, 1)) (hp : pc + 1 = pc') (hr : Steps tb e below (T.setTop (mkF m pc' L (.double (FP.dneg x) :: S))) target) : Steps tb e below (T.setTop (mkF m pc L (.double x :: S))) target := by
  subst hp; exact XS.dnegS G.1 G.2.1 rfl (hb G.2.2 hd) rfl rfl hr
theorem md2i (pc' : Nat) (G : Gd tb T m c below code) {x : UInt64} (hd : decode code pc = .ok (.d2i, 1)) (hp : pc + 1 = pc') (hr : Steps tb e below (T.setTop (mkF m pc' L (.int (FP.d2i x) :: S))) target) : Steps tb e below (T.setTop (mkF m pc L (.double x :: S))) target := by
  subst hp; exact XS.d2iS G.1 G.2.1 rfl (hb G.2.2 hd) rfl rfl hr
theorem md2l (pc' : Nat) (G : Gd tb T m c below code) {x : UInt64} (hd : decode code pc = .ok (.d2l, 1)) (hp : pc + 1 = pc') (hr : Steps tb e below (T.setTop (mkF m pc' L (.long (FP.d2l x) :: S))) target) : Steps tb e below (T.setTop (mkF m pc L (.double x :: S))) target := by
  subst hp; exact XS.d2lS G.1 G.2.1 rfl (hb G.2.2 hd) rfl rfl hr
theorem mdadd (pc' : Nat) (G : Gd tb T m c below code) {x y : UInt64} (hd : decode code pc = .ok (.dadd, 1)) (hn : Jvm.Free.Fl.NoNaN64 (FP.dadd x y)) (hp : pc + 1 = pc') (hr : Steps tb e below (T.setTop (mkF m pc' L (.double (FP.dadd x y) :: S))) target) : Steps tb e below (T.setTop (mkF m pc L (.double y :: .double x :: S))) target := by
  subst hp; exact XS.daddS G.1 G.2.1 rfl (hb G.2.2 hd) rfl hn rfl hr
theorem mdsub (pc' : Nat) (G : Gd tb T m c below code) {x y : UInt64} (hd : decode code pc = .ok (.dsub, 1)) (hn : Jvm.Free.Fl.NoNaN64 (FP.dsub x y)) (hp : pc + 1 = pc') (hr : Steps tb e below (T.setTop (mkF m pc' L (.double (FP.dsub x y) :: S))) target) : Steps tb e below (T.setTop (mkF m pc L (.double y :: .double x :: S))) target := by
  subst hp; exact XS.dsubS G.1 G.2.1 rfl (hb G.2.2 hd) rfl hn rfl hr
theorem mdmul (pc' : Nat) (G : Gd tb T m c below code) {x y : UInt64} (hd : decode code pc = .ok (.dmul, 1)) (hn : Jvm.Free.Fl.NoNaN64 (FP.dmul x y)) (hp : pc + 1 = pc') (hr : Steps tb e below (T.setTop (mkF m pc' L (.double (FP.dmul x y) :: S))) target) : Steps tb e below (T.setTop (mkF m pc L (.double y :: .double x :: S))) target := by
  subst hp; exact XS.dmulS G.1 G.2.1 rfl (hb G.2.2 hd) rfl hn rfl hr
theorem mddiv (pc' : Nat) (G : Gd tb T m c below code) {x y : UInt64} (hd : decode code pc = .ok (.ddiv, 1)) (hn : Jvm.Free.Fl.NoNaN64 (FP.ddiv x y)) (hp : pc + 1 = pc') (hr : Steps tb e below (T.setTop (mkF m pc' L (.double (FP.ddiv x y) :: S))) target) : Steps tb e below (T.setTop (mkF m pc L (.double y :: .double x :: S))) target := by
  subst hp; exact XS.ddivS G.1 G.2.1 rfl (hb G.2.2 hd) rfl hn rfl hr
theorem mdcmp (pc' : Nat) (G : Gd tb T m c below code) {o : CmpOp} {x y : UInt64} (hd : decode code pc = .ok (.dcmp o, 1)) (hp : pc + 1 = pc') (hr : Steps tb e below (T.setTop (mkF m pc' L (.int (cmpValue (FP.dcmp x y) o) :: S))) target) : Steps tb e below (T.setTop (mkF m pc L (.double y :: .double x :: S))) target := by
  subst hp; exact XS.dcmpS G.1 G.2.1 rfl (hb G.2.2 hd) rfl rfl hr
theorem mlcmp (pc' : Nat) (G : Gd tb T m c below code) {x y : Int64} (hd : decode code pc = .ok (.lcmp, 1)) (hp : pc + 1 = pc') (hr : Steps tb e below (T.setTop (mkF m pc' L (.int (lcmpW x y) :: S))) target) : Steps tb e below (T.setTop (mkF m pc L (.long y :: .long x :: S))) target := by
  subst hp; exact XS.lcmp G.1 G.2.1 rfl (hb G.2.2 hd) rfl hr
theorem mdup (pc' : Nat) (G : Gd tb T m c below code) {x : Value} (hd : decode code pc = .ok (.dup, 1)) (hc : x.category = 1) (hp : pc + 1 = pc') (hr : Steps tb e below (T.setTop (mkF m pc' L (x :: x :: S))) target) : Steps tb e below (T.setTop (mkF m pc L (x :: S))) target := by
  subst hp; exact XS.dup G.1 G.2.1 rfl (hb G.2.2 hd) rfl hc hr
theorem mpop (pc' : Nat) (G : Gd tb T m c below code) {x : Value} (hd : decode code pc = .ok (.pop, 1)) (hc : x.category = 1) (hp : pc + 1 = pc') (hr : Steps tb e below (T.setTop (mkF m pc' L S)) target) : Steps tb e below (T.setTop (mkF m pc L (x :: S))) target := by
  subst hp; exact XS.pop G.1 G.2.1 rfl (hb G.2.2 hd) rfl hc hr
theorem mdup_x1 (pc' : Nat) (G : Gd tb T m c below code) {x y : Value} (hd : decode code pc = .ok (.dup_x1, 1)) (hc : x.category = 1) (hc' : y.category = 1) (hp : pc + 1 = pc') (hr : Steps tb e below (T.setTop (mkF m pc' L (x :: y :: x :: S))) target) : Steps tb e below (T.setTop (mkF m pc L (x :: y :: S))) target := by
  subst hp; exact XS.dupX1 G.1 G.2.1 rfl (hb G.2.2 hd) rfl hc hc' hr
theorem miinc (pc' : Nat) (G : Gd tb T m c below code) {k : Nat} {i : Int} {x : Int32} (hd : decode code pc = .ok (.iinc k i, 3)) (hl : L[k]? = some (.val (.int x))) (L' : Array Slot) (hl' : storeLocals L k (.int (x + Int32.ofInt i)) = some L') (hp : pc + 3 = pc') (hr : Steps tb e below (T.setTop (mkF m pc' L' S)) target) : Steps tb e below (T.setTop (mkF m pc L S)) target := by
  subst hp; exact XS.iinc G.1 G.2.1 rfl (hb G.2.2 hd) hl hl' hr
theorem mgoto (pc' : Nat) (G : Gd tb T m c below code) {o : Int} (hd : decode code pc = .ok (.goto o, 3)) (ho : 0 ≤ (pc : Int) + o) (hp : ((pc : Int) + o).toNat = pc') (hr : Steps tb e below (T.setTop (mkF m pc' L S)) target) : Steps tb e below (T.setTop (mkF m pc L S)) target := XS.goto G.1 G.2.1 rfl rfl (hb G.2.2 hd) ho hp hr
theorem mifYes (pc' : Nat) (G : Gd tb T m c below code) {cd : ClassFile.Cond} {o : Int} {x : Int32} (hd : decode code pc = .ok (.ifCond cd o, 3)) (hc : ifCond.holds cd x = true) (ho : 0 ≤ (pc : Int) + o) (hp : ((pc : Int) + o).toNat = pc') (hr : Steps tb e below (T.setTop (mkF m pc' L S)) target) : Steps tb e below (T.setTop (mkF m pc L (.int x :: S))) target := XS.ifYes G.1 G.2.1 rfl rfl (hb G.2.2 hd) rfl hc ho hp hr
theorem mifNo (pc' : Nat) (G : Gd tb T m c below code) {cd : ClassFile.Cond} {o : Int} {x : Int32} (hd : decode code pc = .ok (.ifCond cd o, 3)) (hc : ifCond.holds cd x = false) (hp : pc + 3 = pc') (hr : Steps tb e below (T.setTop (mkF m pc' L S)) target) : Steps tb e below (T.setTop (mkF m pc L (.int x :: S))) target := by
  subst hp; exact XS.ifNo G.1 G.2.1 rfl (hb G.2.2 hd) rfl hc hr
theorem micmpYes (pc' : Nat) (G : Gd tb T m c below code) {cd : ClassFile.Cond} {o : Int} {x y : Int32} (hd : decode code pc = .ok (.if_icmp cd o, 3)) (hc : if_icmp.holds cd x y = true) (ho : 0 ≤ (pc : Int) + o) (hp : ((pc : Int) + o).toNat = pc') (hr : Steps tb e below (T.setTop (mkF m pc' L S)) target) : Steps tb e below (T.setTop (mkF m pc L (.int y :: .int x :: S))) target := XS.icmpYes G.1 G.2.1 rfl rfl (hb G.2.2 hd) rfl hc ho hp hr
theorem micmpNo (pc' : Nat) (G : Gd tb T m c below code) {cd : ClassFile.Cond} {o : Int} {x y : Int32} (hd : decode code pc = .ok (.if_icmp cd o, 3)) (hc : if_icmp.holds cd x y = false) (hp : pc + 3 = pc') (hr : Steps tb e below (T.setTop (mkF m pc' L S)) target) : Steps tb e below (T.setTop (mkF m pc L (.int y :: .int x :: S))) target := by
  subst hp; exact XS.icmpNo G.1 G.2.1 rfl (hb G.2.2 hd) rfl hc hr
end Steps
section Arrays
variable {p : Program} {l : Launch} {e : Env} {R : Room} {s : State} {m : MethodId} {args : Array Value} {below : List Frame} {meth : Method} {c : Code} {T : State} {locs : List Loc} {cells slots : Nat} {Z : State} {h : Heap} {a : Addr} {k : ClassId} {z j : Int32} {vs : List Value} {dv : Value} {pc : Nat} {L : Array Slot} {S : List Value} {code : ByteArray} {target : State}
theorem wd {ws : List Cond} {a0 : Array Value} (hw : ∀ d ∈ ws, d.before a0 Z = true) (i : Nat) {d : Cond} (q : ws[i]? = some d) : d.before a0 Z = true := hw d (List.mem_of_getElem? q)
theorem miaload (pc' : Nat) (X : Stand p l e R s m args below meth c T locs cells slots) (hx : p.tables.exec = Jvm.exec) (hby : c.code = code) (hZ : Z.Warmed39 s.vm) (eT : T.heap = h) (F : Arv Z h a k .int z vs dv) {v : Int32} (hd : decode code pc = .ok (.iaload, 1)) (hin : ¬ j < 0 ∧ j < z) (hv : vs.getD j.toNatClampNeg dv = .int v) (hp : pc + 1 = pc') (hr : Steps p.tables e below (T.setTop (mkF m pc' L (.int v :: S))) target) : Steps p.tables e below (T.setTop (mkF m pc L (.int j :: .ref a :: S))) target := by
  subst hp
  obtain ⟨cl, A, -, q2, q3, H, -⟩ := F
  have hb' := inb_of q2 hin
  exact X.iaload hx (j := j) (v := .int v) (by rw [eT]; exact A.1) (State.isArrayOf_alike hZ.alike A.2.1) A.2.2 hb' (H.at hb' hv) (g := mkF m pc L (.int j :: .ref a :: S)) rfl rfl (hb hby hd) _ hr
theorem own_stI (X : Stand p l e R s m args below meth c T locs cells slots) (hx : p.tables.exec = Jvm.exec) (hby : c.code = code) (hZ : Z.Warmed39 s.vm) (eT : T.heap = h) (F : Arv Z h a k .int z vs dv) {v : Int32} (hd : decode code pc = .ok (.iastore, 1)) (hin : ¬ j < 0 ∧ j < z) (i : Nat) (hj : j.toNatClampNeg = i) (hi : i < vs.length) (L : Array Slot) (S : List Value) (pc' : Nat) (hp : pc + 1 = pc') :
    ∃ T' h', Stand p l e R s m args below meth c T' (locs ++ [⟨a, j.toNatClampNeg⟩]) cells slots ∧ T'.heap = h' ∧ Wr h h' a j.toNatClampNeg (.int v) ∧ Arv Z h' a k .int z (vs.set i (.int v)) dv ∧ ∀ target, Steps p.tables e below (T'.setTop (mkF m pc' L S)) target → Steps p.tables e below (T.setTop (mkF m pc L (.int v :: .int j :: .ref a :: S))) target := by
  subst hp
  obtain ⟨cl, A, q1, q2, q3, H, G⟩ := F
  obtain ⟨T', h', X', e', W, st⟩ := Jvm.RoadKit.stI X hx hZ eT A (j := j) (inb_of q2 hin) (g := mkF m pc L (.int v :: .int j :: .ref a :: S)) rfl rfl (hb hby hd)
  exact ⟨T', h', X', e', W, Arv.set A q1 q2 q3 H G rfl W i hj hi, st⟩
theorem mlaload (pc' : Nat) (X : Stand p l e R s m args below meth c T locs cells slots) (hx : p.tables.exec = Jvm.exec) (hby : c.code = code) (hZ : Z.Warmed39 s.vm) (eT : T.heap = h) (F : Arv Z h a k .long z vs dv) {v : Int64} (hd : decode code pc = .ok (.laload, 1)) (hin : ¬ j < 0 ∧ j < z) (hv : vs.getD j.toNatClampNeg dv = .long v) (hp : pc + 1 = pc') (hr : Steps p.tables e below (T.setTop (mkF m pc' L (.long v :: S))) target) : Steps p.tables e below (T.setTop (mkF m pc L (.int j :: .ref a :: S))) target := by
  subst hp
  obtain ⟨cl, A, -, q2, q3, H, -⟩ := F
  have hb' := inb_of q2 hin
  exact X.laload hx (j := j) (v := .long v) (by rw [eT]; exact A.1) (State.isArrayOf_alike hZ.alike A.2.1) A.2.2 hb' (H.at hb' hv) (g := mkF m pc L (.int j :: .ref a :: S)) rfl rfl (hb hby hd) _ hr
theorem own_stJ (X : Stand p l e R s m args below meth c T locs cells slots) (hx : p.tables.exec = Jvm.exec) (hby : c.code = code) (hZ : Z.Warmed39 s.vm) (eT : T.heap = h) (F : Arv Z h a k .long z vs dv) {v : Int64} (hd : decode code pc = .ok (.lastore, 1)) (hin : ¬ j < 0 ∧ j < z) (i : Nat) (hj : j.toNatClampNeg = i) (hi : i < vs.length) (L : Array Slot) (S : List Value) (pc' : Nat) (hp : pc + 1 = pc') :
    ∃ T' h', Stand p l e R s m args below meth c T' (locs ++ [⟨a, j.toNatClampNeg⟩]) cells slots ∧ T'.heap = h' ∧ Wr h h' a j.toNatClampNeg (.long v) ∧ Arv Z h' a k .long z (vs.set i (.long v)) dv ∧ ∀ target, Steps p.tables e below (T'.setTop (mkF m pc' L S)) target → Steps p.tables e below (T.setTop (mkF m pc L (.long v :: .int j :: .ref a :: S))) target := by
  subst hp
  obtain ⟨cl, A, q1, q2, q3, H, G⟩ := F
  obtain ⟨T', h', X', e', W, st⟩ := Jvm.RoadKit.stJ X hx hZ eT A (j := j) (inb_of q2 hin) (g := mkF m pc L (.long v :: .int j :: .ref a :: S)) rfl rfl (hb hby hd)
  exact ⟨T', h', X', e', W, Arv.set A q1 q2 q3 H G rfl W i hj hi, st⟩
theorem mdaload (pc' : Nat) (X : Stand p l e R s m args below meth c T locs cells slots) (hx : p.tables.exec = Jvm.exec) (hby : c.code = code) (hZ : Z.Warmed39 s.vm) (eT : T.heap = h) (F : Arv Z h a k .double z vs dv) {v : UInt64} (hd : decode code pc = .ok (.daload, 1)) (hin : ¬ j < 0 ∧ j < z) (hv : vs.getD j.toNatClampNeg dv = .double v) (hp : pc + 1 = pc') (hr : Steps p.tables e below (T.setTop (mkF m pc' L (.double v :: S))) target) : Steps p.tables e below (T.setTop (mkF m pc L (.int j :: .ref a :: S))) target := by
  subst hp
  obtain ⟨cl, A, -, q2, q3, H, -⟩ := F
  have hb' := inb_of q2 hin
  exact X.daload hx (j := j) (v := .double v) (by rw [eT]; exact A.1) (State.isArrayOf_alike hZ.alike A.2.1) A.2.2 hb' (H.at hb' hv) (g := mkF m pc L (.int j :: .ref a :: S)) rfl rfl (hb hby hd) _ hr
theorem own_stD (X : Stand p l e R s m args below meth c T locs cells slots) (hx : p.tables.exec = Jvm.exec) (hby : c.code = code) (hZ : Z.Warmed39 s.vm) (eT : T.heap = h) (F : Arv Z h a k .double z vs dv) {v : UInt64} (hd : decode code pc = .ok (.dastore, 1)) (hin : ¬ j < 0 ∧ j < z) (i : Nat) (hj : j.toNatClampNeg = i) (hi : i < vs.length) (L : Array Slot) (S : List Value) (pc' : Nat) (hp : pc + 1 = pc') :
    ∃ T' h', Stand p l e R s m args below meth c T' (locs ++ [⟨a, j.toNatClampNeg⟩]) cells slots ∧ T'.heap = h' ∧ Wr h h' a j.toNatClampNeg (.double v) ∧ Arv Z h' a k .double z (vs.set i (.double v)) dv ∧ ∀ target, Steps p.tables e below (T'.setTop (mkF m pc' L S)) target → Steps p.tables e below (T.setTop (mkF m pc L (.double v :: .int j :: .ref a :: S))) target := by
  subst hp
  obtain ⟨cl, A, q1, q2, q3, H, G⟩ := F
  obtain ⟨T', h', X', e', W, st⟩ := Jvm.RoadKit.stD X hx hZ eT A (j := j) (inb_of q2 hin) (g := mkF m pc L (.double v :: .int j :: .ref a :: S)) rfl rfl (hb hby hd)
  exact ⟨T', h', X', e', W, Arv.set A q1 q2 q3 H G rfl W i hj hi, st⟩
theorem mlen {ty : FieldType} (pc' : Nat) (X : Stand p l e R s m args below meth c T locs cells slots) (hx : p.tables.exec = Jvm.exec) (hby : c.code = code) (hZ : Z.Warmed39 s.vm) (eT : T.heap = h) (F : Arv Z h a k ty z vs dv) (hd : decode code pc = .ok (.arraylength, 1)) (hp : pc + 1 = pc') (hr : Steps p.tables e below (T.setTop (mkF m pc' L (.int z :: S))) target) : Steps p.tables e below (T.setTop (mkF m pc L (.ref a :: S))) target := by
  subst hp
  obtain ⟨cl, A, -, q2, q3, -, -⟩ := F
  refine X.arraylength hx (by rw [eT]; exact A.1) (State.isArrayOf_alike hZ.alike A.2.1) (g := mkF m pc L (.ref a :: S)) rfl rfl (hb hby hd) _ ?_
  rw [len_of q2 q3]
  exact hr
end Arrays
end Jvm.OwnSt
namespace Jvm.OwnFl
open Jvm.FP Jvm.FP.Core Jvm.Free.Fl Jvm.Op
/-- a double's value, in units of 2^-1074 -/
def zv (a : UInt64) : Int := zval b64 (val64 a)
theorem vv_ddiv (a b : UInt64) : val64 (FP.ddiv a b) = quotient b64 (val64 a) (val64 b) := val64_ddiv a b
theorem vv_dmul (a b : UInt64) : val64 (FP.dmul a b) = round b64 (exactProduct (val64 a) (val64 b)) := val64_dmul a b
theorem vv_dadd (a b : UInt64) : val64 (FP.dadd a b) = round b64 (exactSum (val64 a) (val64 b)) := val64_dadd a b
theorem vv_dsub (a b : UInt64) : val64 (FP.dsub a b) = round b64 (exactSum (val64 a) (negate (val64 b))) := val64_dsub a b
/-- one, in these units -/
def ONE : Int := (one64 : Int)
theorem one_pos : 0 < ONE := Int.natCast_pos.mpr one64_pos
theorem qm : b64.qmin = -1074 := qmin_b64
theorem one_qm : (2 : Nat) ^ (-b64.qmin).toNat = one64 := pow_qmin64
theorem own_quot (f : Fmt) (s t : Bool) (c d : Nat) (q r : Int) : quotient f (.fin s c q) (.fin t d r) = if d = 0 then (if c = 0 then .nan else .inf (s != t)) else roundRatio f (s != t) c d (q - r) := rfl
theorem own_inU (c : Nat) (q e : Int) : inUnits c q e = c * 2 ^ (q - e).toNat := rfl
theorem pow3 {a b c d : Nat} (x : Nat) (h : a + b = c + d) : x * 2 ^ a * 2 ^ b = x * 2 ^ c * 2 ^ d := by
  rw [Nat.mul_assoc, ← Nat.pow_add, h, Nat.pow_add, ← Nat.mul_assoc]
section Mag
variable {s t : Bool} {c d : Nat} {q r : Int} {V : Datum}
theorem scale_quot (h1 : b64.qmin ≤ q) (h2 : b64.qmin ≤ r) :
    c * 2 ^ (q - r - min b64.qmin (q - r)).toNat * 2 ^ (r - b64.qmin).toNat = c * 2 ^ (q - b64.qmin).toNat * one64 * 2 ^ (b64.qmin - min b64.qmin (q - r)).toNat := by
  rw [← one_qm]
  have e : (q - r - min b64.qmin (q - r)).toNat + (r - b64.qmin).toNat = ((q - b64.qmin).toNat + (-b64.qmin).toNat) + (b64.qmin - min b64.qmin (q - r)).toNat := by
    have := qm; omega
  rw [Nat.mul_assoc, ← Nat.pow_add, e, Nat.pow_add, Nat.pow_add]
  simp only [Nat.mul_assoc]
theorem quot_mag_le (hx : FP.Core.fits b64 (.fin s c q)) (hy : FP.Core.fits b64 (.fin t d r)) (hd : d ≠ 0) (hV : FP.Core.fits b64 V) (hn : V ≠ .nan)
    (h : inUnits c q b64.qmin * one64 ≤ zmag b64 V * inUnits d r b64.qmin) : zmag b64 (roundRatio b64 (s != t) c d (q - r)) ≤ zmag b64 V := by
  refine zmag_roundRatio_le good_b64 (e0 := min b64.qmin (q - r)) (Nat.pos_of_ne_zero hd) hV hn (by omega) (by omega) ?_
  have h1 := hx.2.1
  have h2 := hy.2.1
  have hP := Nat.two_pow_pos (r - b64.qmin).toNat
  refine Nat.le_of_mul_le_mul_right (c := 2 ^ (r - b64.qmin).toNat) ?_ hP
  rw [own_inU] at h ⊢
  rw [own_inU] at h
  rw [scale_quot h1 h2]
  have := Nat.mul_le_mul_right (2 ^ (b64.qmin - min b64.qmin (q - r)).toNat) h
  refine Nat.le_trans this (Nat.le_of_eq ?_)
  simp only [Nat.mul_assoc, Nat.mul_left_comm, Nat.mul_comm]
theorem quot_mag_ge (hx : FP.Core.fits b64 (.fin s c q)) (hy : FP.Core.fits b64 (.fin t d r)) (hd : d ≠ 0) (hV : FP.Core.fits b64 V)
    (h : zmag b64 V * inUnits d r b64.qmin ≤ inUnits c q b64.qmin * one64) : zmag b64 V ≤ zmag b64 (roundRatio b64 (s != t) c d (q - r)) := by
  refine zmag_roundRatio_ge good_b64 (e0 := min b64.qmin (q - r)) (Nat.pos_of_ne_zero hd) hV (by omega) (by omega) ?_
  have h1 := hx.2.1
  have h2 := hy.2.1
  have hP := Nat.two_pow_pos (r - b64.qmin).toNat
  refine Nat.le_of_mul_le_mul_right (c := 2 ^ (r - b64.qmin).toNat) ?_ hP
  rw [own_inU] at h ⊢
  rw [own_inU] at h
  rw [scale_quot h1 h2]
  have := Nat.mul_le_mul_right (2 ^ (b64.qmin - min b64.qmin (q - r)).toNat) h
  refine Nat.le_trans (Nat.le_of_eq ?_) this
  simp only [Nat.mul_assoc, Nat.mul_left_comm, Nat.mul_comm]
end Mag
theorem fin_at {a : UInt64} (h : DFin a) : ∃ s c q, val64 a = .fin s c q ∧ FP.Core.fits b64 (.fin s c q) ∧ zv a = signed s (inUnits c q b64.qmin) := by
  obtain ⟨s, c, q, e⟩ := h
  have f := val64_fits a
  rw [e] at f
  exact ⟨s, c, q, e, f, by unfold zv; rw [e]; rfl⟩
theorem units_zero {d : Nat} {r : Int} : inUnits d r b64.qmin = 0 ↔ d = 0 := by
  rw [own_inU]
  have hP := Nat.two_pow_pos (r - b64.qmin).toNat
  constructor
  · intro h
    rcases Nat.mul_eq_zero.mp h with h | h
    · exact h
    · omega
  · rintro rfl; simp
theorem div_core {a b V : UInt64} (ha : DFin a) (hb : DFin b) (hz : zv b ≠ 0) (hV : val64 V ≠ .nan) :
    ∃ (U A D W : Nat) (s t w : Bool) (M : Nat), ONE = (U : Int) ∧ zv a = signed s A ∧ zv b = signed t D ∧ 0 < D ∧ zv V = signed w W ∧ val64 (FP.ddiv a b) ≠ .nan ∧ zv (FP.ddiv a b) = signed (s != t) M ∧ (A * U ≤ W * D → M ≤ W) ∧ (W * D ≤ A * U → W ≤ M) := by
  obtain ⟨s, c, q, e1, f1, z1⟩ := fin_at ha
  obtain ⟨t, d, r, e2, f2, z2⟩ := fin_at hb
  have hd : d ≠ 0 := by
    rintro rfl
    apply hz; rw [z2, units_zero.mpr rfl]; exact signed_zero t
  have e3 : val64 (FP.ddiv a b) = roundRatio b64 (s != t) c d (q - r) := by
    rw [vv_ddiv, e1, e2, own_quot, if_neg hd]
  have fV := val64_fits V
  refine ⟨one64, _, _, zmag b64 (val64 V), s, t, sgn (val64 V), zmag b64 (roundRatio b64 (s != t) c d (q - r)), rfl, z1, z2, ?_, rfl, ?_, ?_, quot_mag_le f1 f2 hd fV hV, quot_mag_ge f1 f2 hd fV⟩
  · exact Nat.pos_of_ne_zero fun h => hd (units_zero.mp h)
  · rw [e3]; exact roundRatio_ne_nan _ _ _ _ _
  · unfold zv; rw [e3]; unfold zval; rw [sgn_roundRatio]
theorem sg_t (n : Nat) : signed true n = -(n : Int) := rfl
theorem sg_f (n : Nat) : signed false n = (n : Int) := rfl
theorem div_le_pos {a b V : UInt64} (ha : DFin a) (hb : DFin b) (hz : 0 < zv b) (hV : val64 V ≠ .nan) (h : zv a * ONE ≤ zv V * zv b) : zv (FP.ddiv a b) ≤ zv V := by
  obtain ⟨U, A, D, W, s, t, w, M, e0, e1, e2, hD, e3, -, e4, l1, l2⟩ := div_core ha hb (by omega) hV
  rw [e1, e2, e3] at h
  rw [e2] at hz
  rw [e3, e4]
  obtain rfl : t = false := by cases t <;> simp only [sg_t, sg_f] at hz <;> first | rfl | omega
  rw [sg_f, e0, ← signed_mul, ← signed_mul] at h
  have hz2 : W * D = 0 → W = 0 := fun x => (Nat.mul_eq_zero.mp x).elim id (fun y => by omega)
  generalize A * U = P at *
  generalize W * D = R at *
  cases s <;> cases w <;> simp only [sg_t, sg_f, Bool.bne_false, bne_self_eq_false] at h ⊢
  · have := l1 (by omega); omega
  · have := l1 (by omega); have := hz2 (by omega); omega
  · omega
  · have := l2 (by omega); omega
theorem div_ge_pos {a b V : UInt64} (ha : DFin a) (hb : DFin b) (hz : 0 < zv b) (hV : val64 V ≠ .nan) (h : zv V * zv b ≤ zv a * ONE) : zv V ≤ zv (FP.ddiv a b) := by
  obtain ⟨U, A, D, W, s, t, w, M, e0, e1, e2, hD, e3, -, e4, l1, l2⟩ := div_core ha hb (by omega) hV
  rw [e1, e2, e3] at h
  rw [e2] at hz
  rw [e3, e4]
  obtain rfl : t = false := by cases t <;> simp only [sg_t, sg_f] at hz <;> first | rfl | omega
  rw [sg_f, e0, ← signed_mul, ← signed_mul] at h
  have hz2 : W * D = 0 → W = 0 := fun x => (Nat.mul_eq_zero.mp x).elim id (fun y => by omega)
  generalize A * U = P at *
  generalize W * D = R at *
  cases s <;> cases w <;> simp only [sg_t, sg_f, Bool.bne_false, bne_self_eq_false] at h ⊢
  · have := l2 (by omega); omega
  · omega
  · have := l1 (by omega); have := hz2 (by omega); omega
  · have := l1 (by omega); omega
theorem div_le_neg {a b V : UInt64} (ha : DFin a) (hb : DFin b) (hz : zv b < 0) (hV : val64 V ≠ .nan) (h : zv V * zv b ≤ zv a * ONE) : zv (FP.ddiv a b) ≤ zv V := by
  obtain ⟨U, A, D, W, s, t, w, M, e0, e1, e2, hD, e3, -, e4, l1, l2⟩ := div_core ha hb (by omega) hV
  rw [e1, e2, e3] at h
  rw [e2] at hz
  rw [e3, e4]
  obtain rfl : t = true := by cases t <;> simp only [sg_t, sg_f] at hz <;> first | rfl | omega
  rw [sg_t, Int.mul_neg, e0, ← signed_mul, ← signed_mul] at h
  have hz2 : W * D = 0 → W = 0 := fun x => (Nat.mul_eq_zero.mp x).elim id (fun y => by omega)
  generalize A * U = P at *
  generalize W * D = R at *
  cases s <;> cases w <;> simp only [sg_t, sg_f, Bool.bne_true, Bool.not_true, Bool.not_false] at h ⊢
  · omega
  · have := l2 (by omega); omega
  · have := l1 (by omega); omega
  · have := l1 (by omega); have := hz2 (by omega); omega
theorem div_ge_neg {a b V : UInt64} (ha : DFin a) (hb : DFin b) (hz : zv b < 0) (hV : val64 V ≠ .nan) (h : zv a * ONE ≤ zv V * zv b) : zv V ≤ zv (FP.ddiv a b) := by
  obtain ⟨U, A, D, W, s, t, w, M, e0, e1, e2, hD, e3, -, e4, l1, l2⟩ := div_core ha hb (by omega) hV
  rw [e1, e2, e3] at h
  rw [e2] at hz
  rw [e3, e4]
  obtain rfl : t = true := by cases t <;> simp only [sg_t, sg_f] at hz <;> first | rfl | omega
  rw [sg_t, Int.mul_neg, e0, ← signed_mul, ← signed_mul] at h
  have hz2 : W * D = 0 → W = 0 := fun x => (Nat.mul_eq_zero.mp x).elim id (fun y => by omega)
  generalize A * U = P at *
  generalize W * D = R at *
  cases s <;> cases w <;> simp only [sg_t, sg_f, Bool.bne_true, Bool.not_true, Bool.not_false] at h ⊢
  · have := l1 (by omega); have := hz2 (by omega); omega
  · have := l1 (by omega); omega
  · have := l2 (by omega); omega
  · omega
theorem div_nan {a b : UInt64} (ha : DFin a) (hb : DFin b) (hz : zv b ≠ 0) : val64 (FP.ddiv a b) ≠ .nan := by
  obtain ⟨U, A, D, W, s, t, w, M, -, -, -, -, -, h, -⟩ := div_core (V := a) ha hb hz ha.ne_nan
  exact h
theorem no_of {x : UInt64} (h : val64 x ≠ .nan) : NoNaN64 x := noNaN64_no.mpr ((notNaN_iff x).mpr h)
theorem of_no {x : UInt64} (h : NoNaN64 x) : val64 x ≠ .nan := (notNaN_iff x).mp (noNaN64_no.mp h)
theorem fin_no {x : UInt64} (h : DFin x) : NoNaN64 x := no_of h.ne_nan
/-- as great as a finite one: finite -/
theorem fin_of_eq {a V : UInt64} (hn : val64 a ≠ .nan) (hV : DFin V) (h : zv a = zv V) : DFin a := by
  cases e : val64 a with
  | nan => exact absurd e hn
  | fin s c q => exact ⟨s, c, q, e⟩
  | inf s =>
    exfalso
    have h1 := hV.zval_lt
    have h2 : (zv a).natAbs = b64.tails * 2 ^ (b64.exps - 2) := by unfold zv; rw [e]; exact natAbs_signed _ _
    have h3 : (zv V).natAbs = zmag b64 (val64 V) := natAbs_signed _ _
    rw [h] at h2
    omega
theorem fin_of_le {a V W : UInt64} (hn : val64 a ≠ .nan) (hV : DFin V) (hW : DFin W) (h : zv V ≤ zv a) (h' : zv a ≤ zv W) : DFin a := by
  cases e : val64 a with
  | nan => exact absurd e hn
  | fin s c q => exact ⟨s, c, q, e⟩
  | inf s =>
    exfalso
    have h1 := hV.zval_lt
    have h1' := hW.zval_lt
    have h2 : (zv a).natAbs = b64.tails * 2 ^ (b64.exps - 2) := by unfold zv; rw [e]; exact natAbs_signed _ _
    have h3 : (zv V).natAbs = zmag b64 (val64 V) := natAbs_signed _ _
    have h3' : (zv W).natAbs = zmag b64 (val64 W) := natAbs_signed _ _
    omega
/-! a finite double of a known value -/
def Dy (a : UInt64) (x : Int) : Prop := DFin a ∧ zv a = x
def Rep (x : Int) : Prop := ∃ V, Dy V x
theorem Dy.rep {a : UInt64} {x : Int} (h : Dy a x) : Rep x := ⟨a, h⟩
theorem Dy.no {a : UInt64} {x : Int} (h : Dy a x) : NoNaN64 a := fin_no h.1
theorem Dy.nn {a : UInt64} {x : Int} (h : Dy a x) : val64 a ≠ .nan := h.1.ne_nan
theorem dy_div {a b : UInt64} {x y z : Int} (ha : Dy a x) (hb : Dy b y) (hy : y ≠ 0) (hz : Rep z) (h : z * y = x * ONE) : Dy (FP.ddiv a b) z := by
  obtain ⟨V, fV, rfl⟩ := hz
  obtain ⟨fa, rfl⟩ := ha
  obtain ⟨fb, rfl⟩ := hb
  have hn := div_nan fa fb hy
  have e : zv (FP.ddiv a b) = zv V := by
    rcases Int.lt_or_gt_of_ne hy with q | q
    · exact Int.le_antisymm (div_le_neg fa fb q fV.ne_nan (Int.le_of_eq h)) (div_ge_neg fa fb q fV.ne_nan (Int.le_of_eq h.symm))
    · exact Int.le_antisymm (div_le_pos fa fb q fV.ne_nan (Int.le_of_eq h.symm)) (div_ge_pos fa fb q fV.ne_nan (Int.le_of_eq h))
  exact ⟨fin_of_eq hn fV e, e⟩
theorem mul_le {a b V : UInt64} (ha : DFin a) (hb : DFin b) (hV : val64 V ≠ .nan) (h : zv a * zv b ≤ zv V * ONE) : zv (FP.dmul a b) ≤ zv V := by
  obtain ⟨s, c, q, e1, f1, z1⟩ := fin_at ha
  obtain ⟨t, d, r, e2, f2, z2⟩ := fin_at hb
  obtain ⟨p1, p2, p3⟩ := product_units f1 f2
  unfold zv
  rw [vv_dmul, e1, e2, p1]
  refine zval_round_le good_b64 (val64_fits V) hV (e0 := 2 * b64.qmin) (by have := qm; omega) p2 ?_
  rw [p3, signed_xor, show (b64.qmin - 2 * b64.qmin).toNat = (-b64.qmin).toNat by omega, one_qm]
  rw [z1, z2] at h
  exact h
theorem mul_ge {a b V : UInt64} (ha : DFin a) (hb : DFin b) (hV : val64 V ≠ .nan) (h : zv V * ONE ≤ zv a * zv b) : zv V ≤ zv (FP.dmul a b) := by
  obtain ⟨s, c, q, e1, f1, z1⟩ := fin_at ha
  obtain ⟨t, d, r, e2, f2, z2⟩ := fin_at hb
  obtain ⟨p1, p2, p3⟩ := product_units f1 f2
  unfold zv
  rw [vv_dmul, e1, e2, p1]
  refine zval_round_ge good_b64 (val64_fits V) hV (e0 := 2 * b64.qmin) (by have := qm; omega) p2 ?_
  rw [p3, signed_xor, show (b64.qmin - 2 * b64.qmin).toNat = (-b64.qmin).toNat by omega, one_qm]
  rw [z1, z2] at h
  exact h
theorem mul_nan {a b : UInt64} (ha : DFin a) (hb : DFin b) : val64 (FP.dmul a b) ≠ .nan := (notNaN_iff _).mp (dmul_out ha hb)
theorem dy_mul {a b : UInt64} {x y z : Int} (ha : Dy a x) (hb : Dy b y) (hz : Rep z) (h : z * ONE = x * y) : Dy (FP.dmul a b) z := by
  obtain ⟨V, fV, rfl⟩ := hz
  obtain ⟨fa, rfl⟩ := ha
  obtain ⟨fb, rfl⟩ := hb
  have e : zv (FP.dmul a b) = zv V := Int.le_antisymm (mul_le fa fb fV.ne_nan (Int.le_of_eq h.symm)) (mul_ge fa fb fV.ne_nan (Int.le_of_eq h))
  exact ⟨fin_of_eq (mul_nan fa fb) fV e, e⟩
theorem add_le {a b V : UInt64} (ha : DFin a) (hb : DFin b) (hV : val64 V ≠ .nan) (h : zv a + zv b ≤ zv V) : zv (FP.dadd a b) ≤ zv V := by
  unfold zv
  rw [vv_dadd]
  exact sum_le good_b64 ha hb (val64_fits a) (val64_fits b) (val64_fits V) hV h
theorem add_ge {a b V : UInt64} (ha : DFin a) (hb : DFin b) (hV : val64 V ≠ .nan) (h : zv V ≤ zv a + zv b) : zv V ≤ zv (FP.dadd a b) := by
  unfold zv
  rw [vv_dadd]
  exact sum_ge good_b64 ha hb (val64_fits a) (val64_fits b) (val64_fits V) hV h
theorem add_nan {a b : UInt64} (ha : DFin a) (hb : DFin b) : val64 (FP.dadd a b) ≠ .nan := (notNaN_iff _).mp (dadd_out ha.notNaN hb)
theorem dy_add {a b : UInt64} {x y : Int} (ha : Dy a x) (hb : Dy b y) (hz : Rep (x + y)) : Dy (FP.dadd a b) (x + y) := by
  obtain ⟨V, fV, e0⟩ := hz
  obtain ⟨fa, rfl⟩ := ha
  obtain ⟨fb, rfl⟩ := hb
  have e : zv (FP.dadd a b) = zv V := Int.le_antisymm (add_le fa fb fV.ne_nan (Int.le_of_eq e0.symm)) (add_ge fa fb fV.ne_nan (Int.le_of_eq e0))
  exact ⟨fin_of_eq (add_nan fa fb) fV e, e.trans e0⟩
theorem neg_fin {b : UInt64} (hb : DFin b) : ∃ s c q, negate (val64 b) = .fin s c q := by
  obtain ⟨s, c, q, e⟩ := hb
  exact ⟨!s, c, q, by rw [e]; rfl⟩
theorem sub_le {a b V : UInt64} (ha : DFin a) (hb : DFin b) (hV : val64 V ≠ .nan) (h : zv a - zv b ≤ zv V) : zv (FP.dsub a b) ≤ zv V := by
  unfold zv
  rw [vv_dsub]
  refine sum_le good_b64 ha (neg_fin hb) (val64_fits a) (negate_fits (val64_fits b)) (val64_fits V) hV ?_
  rw [zval_negate]; unfold zv at h; omega
theorem sub_ge {a b V : UInt64} (ha : DFin a) (hb : DFin b) (hV : val64 V ≠ .nan) (h : zv V ≤ zv a - zv b) : zv V ≤ zv (FP.dsub a b) := by
  unfold zv
  rw [vv_dsub]
  refine sum_ge good_b64 ha (neg_fin hb) (val64_fits a) (negate_fits (val64_fits b)) (val64_fits V) hV ?_
  rw [zval_negate]; unfold zv at h; omega
theorem sub_nan {a b : UInt64} (ha : DFin a) (hb : DFin b) : val64 (FP.dsub a b) ≠ .nan := (notNaN_iff _).mp (dsub_out ha.notNaN hb)
theorem dy_sub {a b : UInt64} {x y : Int} (ha : Dy a x) (hb : Dy b y) (hz : Rep (x - y)) : Dy (FP.dsub a b) (x - y) := by
  obtain ⟨V, fV, e0⟩ := hz
  obtain ⟨fa, rfl⟩ := ha
  obtain ⟨fb, rfl⟩ := hb
  have e : zv (FP.dsub a b) = zv V := Int.le_antisymm (sub_le fa fb fV.ne_nan (Int.le_of_eq e0.symm)) (sub_ge fa fb fV.ne_nan (Int.le_of_eq e0))
  exact ⟨fin_of_eq (sub_nan fa fb) fV e, e.trans e0⟩
theorem dy_i2d (n : Int32) : Dy (FP.i2d n) (n.toInt * ONE) := ⟨Core.i2d_fin n, DInt_zval (i2d_int n)⟩
theorem dy_l2d {n : Int64} (h : n.toInt.natAbs ≤ 2 ^ 53) : Dy (FP.l2d n) (n.toInt * ONE) := ⟨Core.l2d_fin n, DInt_zval (l2d_int h)⟩
theorem rep_nat (s : Bool) (n j : Nat) (hn : n < 2 ^ 53) (hj : j ≤ 1074) : Rep (signed s (n * 2 ^ (1074 - j))) := by
  obtain ⟨c, q, h1, h2⟩ := round_exact good_b64 s (c := n) (q := -(j : Int)) hn (by rw [qm]; omega) (by rw [show b64.qmax = 971 by decide +kernel]; omega)
  have e : val64 (of64 (round b64 (.fin s n (-(j : Int))))) = .fin s c q := by rw [val64_of64 (round_fits good_b64 _), h1]
  refine ⟨of64 (round b64 (.fin s n (-(j : Int)))), ⟨s, c, q, e⟩, ?_⟩
  unfold zv; rw [e]
  show signed s (inUnits c q b64.qmin) = _
  rw [h2, own_inU, qm, show (-(j : Int) - -1074).toNat = 1074 - j by omega]
/-- n / 2^j is a double -/
theorem rep_int (n : Int) (j : Nat) (hn : n.natAbs < 2 ^ 53) (hj : j ≤ 1074) : Rep (n * ((2 ^ (1074 - j) : Nat) : Int)) := by
  have h := rep_nat (decide (n < 0)) n.natAbs j hn hj
  rw [signed_mul] at h
  have e : signed (decide (n < 0)) n.natAbs = n := by
    by_cases q : n < 0
    · simp only [q, decide_true, sg_t]; omega
    · simp only [q, decide_false, sg_f]; omega
  rwa [e] at h
theorem rep_whole (n : Int) (hn : n.natAbs < 2 ^ 53) : Rep (n * ONE) := rep_int n 0 hn (by decide)
theorem cv {a b : UInt64} (ha : val64 a ≠ .nan) (hb : val64 b ≠ .nan) (o : ClassFile.CmpOp) : cmpValue (FP.dcmp a b) o = if zv a < zv b then -1 else if zv a = zv b then 0 else 1 := by
  rw [show FP.dcmp a b = some (compare (zv a) (zv b)) from dcmp_zval ha hb, compare_ite]
  by_cases h1 : zv a < zv b
  · rw [if_pos h1, if_pos h1]; rfl
  · rw [if_neg h1, if_neg h1]
    by_cases h2 : zv a = zv b
    · rw [if_pos h2, if_pos h2]; rfl
    · rw [if_neg h2, if_neg h2]; rfl
theorem cv_lt {a b : UInt64} (ha : val64 a ≠ .nan) (hb : val64 b ≠ .nan) (o : ClassFile.CmpOp) : cmpValue (FP.dcmp a b) o < 0 ↔ zv a < zv b := by
  rw [cv ha hb]
  by_cases h1 : zv a < zv b
  · rw [if_pos h1]; exact ⟨fun _ => h1, fun _ => by decide⟩
  · by_cases h2 : zv a = zv b
    · rw [if_neg h1, if_pos h2]; exact ⟨fun h => absurd h (by decide), fun h => absurd h h1⟩
    · rw [if_neg h1, if_neg h2]; exact ⟨fun h => absurd h (by decide), fun h => absurd h h1⟩
theorem cv_gt {a b : UInt64} (ha : val64 a ≠ .nan) (hb : val64 b ≠ .nan) (o : ClassFile.CmpOp) : 0 < cmpValue (FP.dcmp a b) o ↔ zv b < zv a := by
  rw [cv ha hb]
  by_cases h1 : zv a < zv b
  · rw [if_pos h1]; exact ⟨fun h => absurd h (by decide), fun h => by omega⟩
  · by_cases h2 : zv a = zv b
    · rw [if_neg h1, if_pos h2]; exact ⟨fun h => absurd h (by decide), fun h => by omega⟩
    · rw [if_neg h1, if_neg h2]; exact ⟨fun _ => by omega, fun _ => by decide⟩
theorem cv_eq {a b : UInt64} (ha : val64 a ≠ .nan) (hb : val64 b ≠ .nan) (o : ClassFile.CmpOp) : cmpValue (FP.dcmp a b) o = 0 ↔ zv a = zv b := by
  rw [cv ha hb]
  by_cases h1 : zv a < zv b
  · rw [if_pos h1]; exact ⟨fun h => absurd h (by decide), fun h => by omega⟩
  · by_cases h2 : zv a = zv b
    · rw [if_neg h1, if_pos h2]; exact ⟨fun _ => h2, fun _ => rfl⟩
    · rw [if_neg h1, if_neg h2]; exact ⟨fun h => absurd h (by decide), fun h => absurd h h2⟩
theorem dy_zero : Dy 0 0 := ⟨⟨_, _, _, val64_zero⟩, zval64_zero⟩
theorem dy_lit (a : UInt64) (x : Int) (h1 : a.toNat % 2 ^ 63 < 9218868437227405312) (h2 : zval b64 (val64 a) = x) : Dy a x := ⟨(fin_bits a).mpr h1, h2⟩
theorem dy_one : Dy 4607182418800017408 ONE := dy_lit _ _ (by decide) (by have := DInt_zval dint_one; rw [Int.one_mul] at this; exact this)
/-- two quotients of one ratio are one double -/
theorem div_congr {a b a' b' : UInt64} (ha : DFin a) (hb : DFin b) (ha' : DFin a') (hb' : DFin b') (h0 : 0 ≤ zv a) (h0' : 0 ≤ zv a') (hz : 0 < zv b) (hz' : 0 < zv b') (h : zv a * zv b' = zv a' * zv b) : zv (FP.ddiv a b) = zv (FP.ddiv a' b') := by
  obtain ⟨s, c, q, e1, f1, z1⟩ := fin_at ha
  obtain ⟨t, d, r, e2, f2, z2⟩ := fin_at hb
  obtain ⟨s', c', q', e1', f1', z1'⟩ := fin_at ha'
  obtain ⟨t', d', r', e2', f2', z2'⟩ := fin_at hb'
  rw [z1] at h0; rw [z1'] at h0'; rw [z2] at hz; rw [z2'] at hz'
  rw [z1, z1', z2, z2'] at h
  obtain rfl : t = false := by cases t <;> simp only [sg_t, sg_f] at hz <;> first | rfl | omega
  obtain rfl : t' = false := by cases t' <;> simp only [sg_t, sg_f] at hz' <;> first | rfl | omega
  have k1 : signed s (inUnits c q b64.qmin) = (inUnits c q b64.qmin : Int) := by cases s <;> simp only [sg_t, sg_f] at h0 ⊢; omega
  have k2 : signed s' (inUnits c' q' b64.qmin) = (inUnits c' q' b64.qmin : Int) := by cases s' <;> simp only [sg_t, sg_f] at h0' ⊢; omega
  rw [k1, k2, sg_f, sg_f] at h
  have hN : inUnits c q b64.qmin * inUnits d' r' b64.qmin = inUnits c' q' b64.qmin * inUnits d r b64.qmin := by exact_mod_cast h
  have hd : d ≠ 0 := fun x => by rw [x, units_zero.mpr rfl] at hz; simp [sg_f] at hz
  have hd' : d' ≠ 0 := fun x => by rw [x, units_zero.mpr rfl] at hz'; simp [sg_f] at hz'
  have g1 := f1.2.1; have g2 := f2.2.1; have g3 := f1'.2.1; have g4 := f2'.2.1
  have key : zmag b64 (roundRatio b64 (s != false) c d (q - r)) = zmag b64 (roundRatio b64 (s' != false) c' d' (q' - r')) := by
    have E : roundRatio b64 false c d (q - r) = roundRatio b64 false c' d' (q' - r') := by
      refine roundRatio_congr (Nat.pos_of_ne_zero hd) (Nat.pos_of_ne_zero hd') ?_
      simp only [own_inU] at hN
      generalize b64.qmin = Q at *
      have a1 : c * 2 ^ (q - Q).toNat * (d' * 2 ^ (r' - Q).toNat) = c * d' * 2 ^ ((q - Q).toNat + (r' - Q).toNat) := by rw [Nat.pow_add]; simp only [Nat.mul_assoc, Nat.mul_left_comm, Nat.mul_comm]
      have a2 : c' * 2 ^ (q' - Q).toNat * (d * 2 ^ (r - Q).toNat) = c' * d * 2 ^ ((q' - Q).toNat + (r - Q).toNat) := by rw [Nat.pow_add]; simp only [Nat.mul_assoc, Nat.mul_left_comm, Nat.mul_comm]
      rw [a1, a2] at hN
      by_cases hle : (q - r) ≤ (q' - r')
      · have x1 : (q - r - (q' - r')).toNat = 0 := by omega
        rw [x1, Nat.pow_zero, Nat.mul_one]
        have x2 : (q' - Q).toNat + (r - Q).toNat = (q' - r' - (q - r)).toNat + ((q - Q).toNat + (r' - Q).toNat) := by omega
        rw [x2, Nat.pow_add 2 (q' - r' - (q - r)).toNat, ← Nat.mul_assoc] at hN
        exact Nat.eq_of_mul_eq_mul_right (Nat.two_pow_pos _) hN
      · have x1 : (q' - r' - (q - r)).toNat = 0 := by omega
        rw [x1, Nat.pow_zero, Nat.mul_one]
        have x2 : (q - Q).toNat + (r' - Q).toNat = (q - r - (q' - r')).toNat + ((q' - Q).toNat + (r - Q).toNat) := by omega
        rw [x2, Nat.pow_add 2 (q - r - (q' - r')).toNat, ← Nat.mul_assoc] at hN
        exact Nat.eq_of_mul_eq_mul_right (Nat.two_pow_pos _) hN
    have neg : ∀ (u : Bool) (A B : Nat) (x : Int), zmag b64 (roundRatio b64 u A B x) = zmag b64 (roundRatio b64 false A B x) := fun u A B x => by
      cases u
      · rfl
      · have := negate_roundRatio b64 false A B x
        rw [Bool.not_false] at this
        rw [← this]
        cases roundRatio b64 false A B x <;> rfl
    rw [neg, E, ← neg (s' != false)]
  have zd : zv (FP.ddiv a b) = signed (s != false) (zmag b64 (roundRatio b64 (s != false) c d (q - r))) := by
    unfold zv; rw [vv_ddiv, e1, e2, own_quot, if_neg hd]; unfold zval; rw [sgn_roundRatio]
  have zd' : zv (FP.ddiv a' b') = signed (s' != false) (zmag b64 (roundRatio b64 (s' != false) c' d' (q' - r'))) := by
    unfold zv; rw [vv_ddiv, e1', e2', own_quot, if_neg hd']; unfold zval; rw [sgn_roundRatio]
  have ge1 : 0 ≤ zv (FP.ddiv a b) := by
    have := div_ge_pos ha hb (by rw [z2, sg_f]; rw [sg_f] at hz; exact hz) (V := 0) dy_zero.nn (by rw [dy_zero.2, Int.zero_mul, z1, k1]; exact Int.mul_nonneg (by omega) (by have := one_pos; omega))
    rw [dy_zero.2] at this; exact this
  have ge2 : 0 ≤ zv (FP.ddiv a' b') := by
    have := div_ge_pos ha' hb' (by rw [z2', sg_f]; rw [sg_f] at hz'; exact hz') (V := 0) dy_zero.nn (by rw [dy_zero.2, Int.zero_mul, z1', k2]; exact Int.mul_nonneg (by omega) (by have := one_pos; omega))
    rw [dy_zero.2] at this; exact this
  rw [zd] at ge1 ⊢; rw [zd'] at ge2 ⊢
  rw [key] at ge1 ⊢
  generalize zmag b64 (roundRatio b64 (s' != false) c' d' (q' - r')) = M at *
  cases s <;> cases s' <;> simp only [sg_t, sg_f, Bool.bne_false, bne_self_eq_false] at ge1 ge2 ⊢ <;> omega
theorem one_le {x y : Int} : x * ONE ≤ y * ONE ↔ x ≤ y := ⟨fun h => Int.le_of_mul_le_mul_right h one_pos, fun h => Int.mul_le_mul_of_nonneg_right h (Int.le_of_lt one_pos)⟩
theorem one_lt {x y : Int} : x * ONE < y * ONE ↔ x < y := ⟨fun h => Int.lt_of_mul_lt_mul_right h (Int.le_of_lt one_pos), fun h => Int.mul_lt_mul_of_pos_right h one_pos⟩
theorem one_eq {x y : Int} : x * ONE = y * ONE ↔ x = y := ⟨fun h => Int.le_antisymm (one_le.mp (Int.le_of_eq h)) (one_le.mp (Int.le_of_eq h.symm)), fun h => h ▸ rfl⟩
theorem mul_bd {a b : Int} {A B : Nat} (ha : a.natAbs ≤ A) (hb : b.natAbs ≤ B) : (a * b).natAbs ≤ A * B := by rw [Int.natAbs_mul]; exact Nat.mul_le_mul ha hb
/-- comparison of two doubles that are whole numbers -/
theorem cw_lt {a b : UInt64} {x y : Int} (ha : Dy a (x * ONE)) (hb : Dy b (y * ONE)) (o : ClassFile.CmpOp) : cmpValue (FP.dcmp a b) o < 0 ↔ x < y := by rw [cv_lt ha.nn hb.nn, ha.2, hb.2, one_lt]
theorem cw_gt {a b : UInt64} {x y : Int} (ha : Dy a (x * ONE)) (hb : Dy b (y * ONE)) (o : ClassFile.CmpOp) : 0 < cmpValue (FP.dcmp a b) o ↔ y < x := by rw [cv_gt ha.nn hb.nn, ha.2, hb.2, one_lt]
theorem cw_eq {a b : UInt64} {x y : Int} (ha : Dy a (x * ONE)) (hb : Dy b (y * ONE)) (o : ClassFile.CmpOp) : cmpValue (FP.dcmp a b) o = 0 ↔ x = y := by rw [cv_eq ha.nn hb.nn, ha.2, hb.2, one_eq]
theorem dy_zero' : Dy 0 (0 * ONE) := by rw [Int.zero_mul]; exact dy_zero
theorem dw_add {a b : UInt64} {x y : Int} (ha : Dy a (x * ONE)) (hb : Dy b (y * ONE)) (h : (x + y).natAbs < 2 ^ 53) : Dy (FP.dadd a b) ((x + y) * ONE) := by
  have := dy_add ha hb (by rw [← Int.add_mul]; exact rep_whole _ h)
  rwa [← Int.add_mul] at this
theorem dw_sub {a b : UInt64} {x y : Int} (ha : Dy a (x * ONE)) (hb : Dy b (y * ONE)) (h : (x - y).natAbs < 2 ^ 53) : Dy (FP.dsub a b) ((x - y) * ONE) := by
  have := dy_sub ha hb (by rw [← Int.sub_mul]; exact rep_whole _ h)
  rwa [← Int.sub_mul] at this
theorem dw_mul {a b : UInt64} {x y : Int} (ha : Dy a (x * ONE)) (hb : Dy b (y * ONE)) (h : (x * y).natAbs < 2 ^ 53) : Dy (FP.dmul a b) ((x * y) * ONE) :=
  dy_mul ha hb (rep_whole _ h) (by simp only [Int.mul_assoc, Int.mul_left_comm, Int.mul_comm])
/-- twice a double that isn't too great is a double -/
theorem rep_dbl {a : UInt64} (h : DFin a) (hs : zmag b64 (val64 a) < 2 ^ 2000) : Rep (zv a + zv a) := by
  obtain ⟨s, c, q, e, f, z⟩ := fin_at h
  have hz : zmag b64 (val64 a) = inUnits c q b64.qmin := by rw [e]; rfl
  rw [hz, own_inU] at hs
  by_cases hc : c = 0
  · subst hc
    refine ⟨0, ⟨_, _, _, val64_zero⟩, ?_⟩
    rw [z, own_inU, Nat.zero_mul, signed_zero]; exact zval64_zero
  have hq : q + 1 ≤ b64.qmax := by
    rw [show b64.qmax = 971 by decide +kernel]
    refine Int.not_lt.mp fun r => ?_
    have k : 2 ^ 2000 ≤ 2 ^ (q - b64.qmin).toNat := Nat.pow_le_pow_right (by decide) (by rw [qm]; omega)
    have : 2 ^ (q - b64.qmin).toNat ≤ c * 2 ^ (q - b64.qmin).toNat := Nat.le_mul_of_pos_left _ (Nat.pos_of_ne_zero hc)
    omega
  have f2 := f.2.1
  obtain ⟨c', q', h1, h2⟩ := round_exact good_b64 s (c := c) (q := q + 1) f.1 (by omega) hq
  have e' : val64 (of64 (round b64 (.fin s c (q + 1)))) = .fin s c' q' := by rw [val64_of64 (round_fits good_b64 _), h1]
  refine ⟨of64 (round b64 (.fin s c (q + 1))), ⟨s, c', q', e'⟩, ?_⟩
  unfold zv; rw [e', e]
  show signed s (inUnits c' q' b64.qmin) = signed s (inUnits c q b64.qmin) + signed s (inUnits c q b64.qmin)
  rw [h2, own_inU, own_inU, show (q + 1 - b64.qmin).toNat = (q - b64.qmin).toNat + 1 by omega, Nat.pow_succ]
  generalize 2 ^ (q - b64.qmin).toNat = P
  have : c * (P * 2) = c * P + c * P := by rw [← Nat.mul_assoc, Nat.mul_two]
  rw [this]
  cases s
  · simp only [sg_f]; omega
  · simp only [sg_t]; omega
theorem l2d_small (n : Int64) : zmag b64 (val64 (FP.l2d n)) < 2 ^ 2000 := by
  have h := Core.l2d_mag n
  obtain ⟨s, c, q, e, k⟩ := mag_bits h (by decide)
  rw [e]
  show inUnits c q b64.qmin < _
  rw [own_inU]
  refine Nat.lt_of_lt_of_le k ?_
  rw [← Nat.pow_add]
  exact Nat.pow_le_pow_right (by decide) (by decide)
/-- a finite double's test of being finite -/
theorem mask_fin {a : UInt64} (h : DFin a) (o : ClassFile.CmpOp) : ¬ (0 < cmpValue (FP.dcmp (a &&& 0x7fffffffffffffff) 9218868437227405311) o) := by
  have q := (le_max h.notNaN).mpr h
  intro r
  rcases q with q | q
  · rw [show FP.dcmp (a &&& 0x7fffffffffffffff) 9218868437227405311 = some .lt from q] at r; cases o <;> exact absurd r (by decide)
  · rw [show FP.dcmp (a &&& 0x7fffffffffffffff) 9218868437227405311 = some .eq from q] at r; cases o <;> exact absurd r (by decide)
end Jvm.OwnFl
namespace Jvm.Pilot.@@N@@
open Jvm Jvm.ClassFile Sem Op Lib Jvm.Free Jvm.Stand Jvm.LawKit Jvm.RoadKit Jvm.OwnSt Bundle Jvm.Pilot.@@N@@.Jvm.D
theorem own_cases (p : Int32) : ((p &&& 7) % 5) = 0 ∨ ((p &&& 7) % 5) = 1 ∨ ((p &&& 7) % 5) = 2 ∨ ((p &&& 7) % 5) = 3 ∨ ((p &&& 7) % 5) = 4 := by
  have h := Jvm.Kit.i32_mask p 7 (k := 3) (by decide) (by decide)
  have e := Jvm.Kit.i32_rem_nonneg (x := p &&& 7) (y := 5) (by rw [h]; omega)
  rw [show (5 : Int32).toInt = 5 from rfl] at e
  have k : ∀ j : Int32, ((p &&& 7) % 5).toInt = j.toInt → (p &&& 7) % 5 = j := fun j q => Int32.toInt_inj.mp q
  have b1 : 0 ≤ ((p &&& 7) % 5).toInt := by rw [e]; omega
  have b2 : ((p &&& 7) % 5).toInt < 5 := by rw [e]; omega
  have c : ((p &&& 7) % 5).toInt = 0 ∨ ((p &&& 7) % 5).toInt = 1 ∨ ((p &&& 7) % 5).toInt = 2 ∨ ((p &&& 7) % 5).toInt = 3 ∨ ((p &&& 7) % 5).toInt = 4 := by omega
  exact c.imp (k 0) (Or.imp (k 1) (Or.imp (k 2) (Or.imp (k 3) (k 4))))
theorem d4_0 : decode jdk_30_method_1_code 0 = .ok (.aload_n 0, 1) := by decide +kernel
theorem d4_1 : decode jdk_30_method_1_code 1 = .ok (.invokespecial 1, 3) := by decide +kernel
theorem d4_4 : decode jdk_30_method_1_code 4 = .ok (.return_, 1) := by decide +kernel
theorem pn_4 : plainName "java/lang/Record" = true := by first | (simp [plainName, overriddenIn]; done) | decide +kernel
theorem ef4 (m : MethodId) (o0 : Addr) : entryFrame m #[(.ref o0)] 1 = mkF m 0 #[rv o0] [] := by first | (simp [entryFrame, mkF, argsToLocals, Value.category]; done) | rfl
abbrev room_of_4 : Room := { frames := 1, cells := 0, slots := 0, locals := 12 }
def Q4 (Z : State) (o0 : Addr) (h0 : Heap) (n0 : Nat) (v : Option Value) (h : Heap) (L : List Loc) : Prop := v = none ∧ L = [] ∧ h = h0
set_option maxRecDepth 65536 in
set_option maxHeartbeats 40000000 in
theorem rm4 (l : Launch) (Z : State) (a0 : Array Value) (hw : ∀ d ∈ tables_1, d.before a0 Z = true) (ws : List Jvm.Cond) (o0 : Addr)  (h0 : Heap) (n0 : Nat) (Z0 : n0 ≤ h0.size) :
    MetFree l (⟨"java/lang/Record", "<init>", "()V"⟩ : MethodName) (head1 (Jvm.Cond.code (⟨"java/lang/Record", "<init>", "()V"⟩ : MethodName) jdk_30_method_1_code 1 none :: ws) (room_of_4)) (fun a U => a = #[(.ref o0)] ∧ Z.Warmed39 U.vm ∧ U.heap = h0) (fun _ _ _ _ _ => True) (fun _ U o U' => ∃ v L, o = .returned v ∧ Q4 Z o0 h0 n0 v U'.heap L ∧ FrameEnd U o U' L (room_of_4).cells (room_of_4).slots) := by
  refine MetFree.of_bodySF (plainFor_of_name pn_4) hisR ?_
  intro p e s m args below meth c s₁ Bd hml0 hP hK
  obtain ⟨rfl, hZ, hh⟩ := hP
  have hx := Bd.exec
  have hby := Bd.bytes
  have hml : c.maxLocals = 1 := hml0
  have hown : s.vm.findClass "java/lang/Record" = some m.cls := findClass_of_methodNamed Bd.named
  have hnm := (name_of_methodNamed Bd.named Bd.method).1
  have X0 : Stand p l e (room_of_4) s m #[(.ref o0)] below meth c s₁ [] 0 0 := Stand.of_body Bd
  have e0 : s₁.heap = h0 := by rw [← hh, Bd.state]; rfl
  have N0 := Fr.nil n0
  have G0 := gd X0 hx hby
  have pre0 : ∀ t, Steps p.tables e below (s₁.setTop (mkF m 0 #[rv o0] [])) t → Steps p.tables e below (s₁.setTop (entryFrame m #[(.ref o0)] 1)) t := fun t k => castTop (ef4 m o0) k
  obtain ⟨T1, X1, e1, st1⟩ := initO X0 hx hZ hown (wd hw 19 rfl) (wd hw 20 rfl) (wd hw 21 rfl) e0 (g := (mkF m 1 #[rv o0] [(.ref o0)])) rfl (by rw [hml]; rfl) rfl (hb hby d4_1) (by decide) (W := 0) (by show 2 * 0 + _ ≤ _; exact Nat.le_of_eq rfl) (by decide)
  have G1 := gd X1 hx hby
  obtain ⟨fs, hr, hrun, hended, hW, hsame⟩ := X1.leave (v := none) (fun _ => rfl)
  refine ⟨_, _, pre0 _ ?_, hrun, hended, _, _, rfl, ?_, ⟨_, rfl⟩, hW, hsame.mono (by decide) (by decide)⟩
  · show Steps p.tables e below (s₁.setTop (mkF m 0 #[rv o0] [])) _
    refine maloadN 1 G0 d4_0 rfl rfl rfl ?_
    refine st1 _ ?_
    show Steps p.tables e below (T1.setTop (mkF m 4 #[rv o0] [])) _
    exact X1.returnOut hx Bd.returns (hb hby d4_4) hr
  · show Q4 Z o0 h0 n0 _ T1.heap _
    rw [e1]
    exact ⟨rfl, rfl, rfl⟩
theorem pd_0 : parseMethodDescriptor "()V" = some ⟨[], none⟩ := by decide +kernel
theorem d3_0 : decode prog_23_method_1_code 0 = .ok (.aload_n 0, 1) := by decide +kernel
theorem d3_1 : decode prog_23_method_1_code 1 = .ok (.invokespecial 1, 3) := by decide +kernel
theorem d3_4 : decode prog_23_method_1_code 4 = .ok (.aload_n 0, 1) := by decide +kernel
theorem d3_5 : decode prog_23_method_1_code 5 = .ok (.aload_n 1, 1) := by decide +kernel
theorem d3_6 : decode prog_23_method_1_code 6 = .ok (.putfield 7, 3) := by decide +kernel
theorem d3_9 : decode prog_23_method_1_code 9 = .ok (.aload_n 0, 1) := by decide +kernel
theorem d3_10 : decode prog_23_method_1_code 10 = .ok (.aload_n 2, 1) := by decide +kernel
theorem d3_11 : decode prog_23_method_1_code 11 = .ok (.putfield 13, 3) := by decide +kernel
theorem d3_14 : decode prog_23_method_1_code 14 = .ok (.return_, 1) := by decide +kernel
theorem pn_3 : plainName "com/example/oceanus/oceanus/analysis/RoundingSpanArithmetic$Linear" = true := by first | (simp [plainName, overriddenIn]; done) | decide +kernel
theorem ef3 (m : MethodId) (o0 : Addr) (o1 : Addr) (o2 : Addr) : entryFrame m #[(.ref o0), (.ref o1), (.ref o2)] 3 = mkF m 0 #[rv o0, rv o1, rv o2] [] := by first | (simp [entryFrame, mkF, argsToLocals, Value.category]; done) | rfl
abbrev room_of_3 : Room := { frames := 2, cells := 0, slots := 0, locals := 24 }
def Q3 (Z : State) (o0 : Addr) (o1 : Addr) (o2 : Addr) (h0 : Heap) (n0 : Nat) (v : Option Value) (h : Heap) (L : List Loc) : Prop := v = none ∧ Fr n0 L ∧ Keep h0 h [o0] ∧ Exa Z h o0 "com/example/oceanus/oceanus/analysis/RoundingSpanArithmetic$Linear" ∧ Fld Z h o0 "com/example/oceanus/oceanus/analysis/RoundingSpanArithmetic$Linear" "lows" "[D" (.ref o1) ∧ Fld Z h o0 "com/example/oceanus/oceanus/analysis/RoundingSpanArithmetic$Linear" "highs" "[D" (.ref o2)
set_option maxRecDepth 65536 in
set_option maxHeartbeats 40000000 in
theorem rm3 (l : Launch) (Z : State) (a0 : Array Value) (hw : ∀ d ∈ tables_1, d.before a0 Z = true) (ws : List Jvm.Cond) (o0 : Addr) (o1 : Addr) (o2 : Addr)  (h0 : Heap) (n0 : Nat) (Z0 : n0 ≤ h0.size) (E_o0 : Exa Z h0 o0 "com/example/oceanus/oceanus/analysis/RoundingSpanArithmetic$Linear") (g_o0 : n0 ≤ o0) (F_lows_o0 : Fld Z h0 o0 "com/example/oceanus/oceanus/analysis/RoundingSpanArithmetic$Linear" "lows" "[D" .null) (F_highs_o0 : Fld Z h0 o0 "com/example/oceanus/oceanus/analysis/RoundingSpanArithmetic$Linear" "highs" "[D" .null) :
    MetFree l (⟨"com/example/oceanus/oceanus/analysis/RoundingSpanArithmetic$Linear", "<init>", "([D[D)V"⟩ : MethodName) (head1 (Jvm.Cond.code (⟨"com/example/oceanus/oceanus/analysis/RoundingSpanArithmetic$Linear", "<init>", "([D[D)V"⟩ : MethodName) prog_23_method_1_code 3 none :: ws) (room_of_3)) (fun a U => a = #[(.ref o0), (.ref o1), (.ref o2)] ∧ Z.Warmed39 U.vm ∧ U.heap = h0) (fun _ _ _ _ _ => True) (fun _ U o U' => ∃ v L, o = .returned v ∧ Q3 Z o0 o1 o2 h0 n0 v U'.heap L ∧ FrameEnd U o U' L (room_of_3).cells (room_of_3).slots) := by
  refine MetFree.of_bodySF (plainFor_of_name pn_3) hisR ?_
  intro p e s m args below meth c s₁ Bd hml0 hP hK
  obtain ⟨rfl, hZ, hh⟩ := hP
  have hx := Bd.exec
  have hby := Bd.bytes
  have hml : c.maxLocals = 3 := hml0
  have hown : s.vm.findClass "com/example/oceanus/oceanus/analysis/RoundingSpanArithmetic$Linear" = some m.cls := findClass_of_methodNamed Bd.named
  have hnm := (name_of_methodNamed Bd.named Bd.method).1
  have X0 : Stand p l e (room_of_3) s m #[(.ref o0), (.ref o1), (.ref o2)] below meth c s₁ [] 0 0 := Stand.of_body Bd
  have e0 : s₁.heap = h0 := by rw [← hh, Bd.state]; rfl
  have N0 := Fr.nil n0
  have G0 := gd X0 hx hby
  have pre0 : ∀ t, Steps p.tables e below (s₁.setTop (mkF m 0 #[rv o0, rv o1, rv o2] [])) t → Steps p.tables e below (s₁.setTop (entryFrame m #[(.ref o0), (.ref o1), (.ref o2)] 3)) t := fun t k => castTop (ef3 m o0 o1 o2) k
  obtain ⟨_, _, ⟨T1, L1, k1, n1⟩, -, X1, ⟨Lc1, hQ1, l1, y1, z1⟩, st1⟩ := X0.specialBack hx (y := (⟨"java/lang/Record", "<init>", "()V"⟩ : MethodName)) rfl hown (mvT hZ (wd hw 14 rfl)) (mvT hZ (wd hw 15 rfl)) (mvT hZ (wd hw 18 rfl)) (by decide) (backOf (W := 0) (rm4 l Z a0 hw [] o0 h0 n0 Z0 ) hZ (wd hw 18 rfl) (wd hw 17 rfl) (by decide) (by decide)) (g := (mkF m 1 #[rv o0, rv o1, rv o2] [(.ref o0)])) rfl (by rw [hml]; rfl) (Steps.refl _) (a := o0) (argsL := []) (rest := []) (lenOf pd_0 rfl) rfl (by show 2 * 0 + _ ≤ _; exact Nat.le_of_eq rfl) (hb hby d3_1) (fun _ _ => ⟨rfl, e0, (by decide : 0 + 0 ≤ _), (by decide : 0 + 0 ≤ _)⟩)
  dsimp only [Pt.U, Pt.locs, Pt.cells, Pt.slots] at X1 l1 y1 z1 st1 hQ1
  replace l1 : ([] ++ Lc1) = L1 := l1.symm
  subst l1 y1 z1
  obtain ⟨rfl, rfl, e1⟩ := hQ1
  simp only [List.append_nil, Nat.add_zero] at X1
  have G1 := gd X1 hx hby
  obtain ⟨T2, h2, X2, e2, W2, st2⟩ := putF X1 hx hZ hown (host := "") (Or.inl (wd hw 22 rfl)) Via.refl e1 F_lows_o0 E_o0 (Or.inr ⟨(wd hw 23 rfl), rfl, hnm⟩) (wd hw 9 rfl) (ty := (.array .double)) (by decide) rfl rfl (g := (mkF m 6 #[rv o0, rv o1, rv o2] [(.ref o1), (.ref o0)])) rfl rfl (hb hby d3_6)
  have G2 := gd X2 hx hby
  have N2 := Fr.snoc X2 N0 g_o0
  have f3 := E_o0.wr W2
  have f6 := F_highs_o0.other W2 (Or.inr (slot_ne (Or.inr (wd hw 25 rfl)) (Or.inr (wd hw 23 rfl)) (by decide) (t := (.array .double)) (t' := (.array .double)) (by decide) (by decide)))
  have Z2 := Nat.le_trans Z0 (Keep.of_wr W2).1
  have K2 : Keep h0 h2 [o0] := (Keep.refl h0 [o0]).wr W2 (Or.inl (List.mem_of_getElem? (i := 0) rfl))
  have Fw2 := F_lows_o0.same W2
  obtain ⟨T7, h7, X7, e7, W7, st7⟩ := putF X2 hx hZ hown (host := "") (Or.inl (wd hw 24 rfl)) Via.refl e2 f6 f3 (Or.inr ⟨(wd hw 25 rfl), rfl, hnm⟩) (wd hw 9 rfl) (ty := (.array .double)) (by decide) rfl rfl (g := (mkF m 11 #[rv o0, rv o1, rv o2] [(.ref o2), (.ref o0)])) rfl rfl (hb hby d3_11)
  have G7 := gd X7 hx hby
  have N7 := Fr.snoc X7 N2 g_o0
  have f8 := f3.wr W7
  have f10 := Fw2.other W7 (Or.inr (slot_ne (Or.inr (wd hw 23 rfl)) (Or.inr (wd hw 25 rfl)) (by decide) (t := (.array .double)) (t' := (.array .double)) (by decide) (by decide)))
  have Z7 := Nat.le_trans Z2 (Keep.of_wr W7).1
  have K7 : Keep h0 h7 [o0] := K2.wr W7 (Or.inl (List.mem_of_getElem? (i := 0) rfl))
  have Fw7 := f6.same W7
  obtain ⟨fs, hr, hrun, hended, hW, hsame⟩ := X7.leave (v := none) (fun _ => rfl)
  refine ⟨_, _, pre0 _ ?_, hrun, hended, _, _, rfl, ?_, ⟨_, rfl⟩, hW, hsame.mono (by decide) (by decide)⟩
  · show Steps p.tables e below (s₁.setTop (mkF m 0 #[rv o0, rv o1, rv o2] [])) _
    refine maloadN 1 G0 d3_0 rfl rfl rfl ?_
    refine st1.trans ?_
    show Steps p.tables e below (T1.setTop (mkF m 4 #[rv o0, rv o1, rv o2] [])) _
    refine maloadN 5 G1 d3_4 rfl rfl rfl ?_
    refine maloadN 6 G1 d3_5 rfl rfl rfl ?_
    refine st2 _ ?_
    show Steps p.tables e below (T2.setTop (mkF m 9 #[rv o0, rv o1, rv o2] [])) _
    refine maloadN 10 G2 d3_9 rfl rfl rfl ?_
    refine maloadN 11 G2 d3_10 rfl rfl rfl ?_
    refine st7 _ ?_
    show Steps p.tables e below (T7.setTop (mkF m 14 #[rv o0, rv o1, rv o2] [])) _
    exact X7.returnOut hx Bd.returns (hb hby d3_14) hr
  · show Q3 Z o0 o1 o2 h0 n0 _ T7.heap _
    rw [e7]
    exact ⟨rfl, N7, K7, f8, f10, Fw7⟩
theorem d1_0 : decode method_3_code 0 = .ok (.iload_n 0, 1) := by decide +kernel
theorem d1_1 : decode method_3_code 1 = .ok (.iload_n 1, 1) := by decide +kernel
theorem d1_2 : decode method_3_code 2 = .ok (.ishr, 1) := by decide +kernel
theorem d1_3 : decode method_3_code 3 = .ok (.iconst 1, 1) := by decide +kernel
theorem d1_4 : decode method_3_code 4 = .ok (.iand, 1) := by decide +kernel
theorem d1_5 : decode method_3_code 5 = .ok (.ifCond .ne 7, 3) := by decide +kernel
theorem d1_8 : decode method_3_code 8 = .ok (.dconst 0, 1) := by decide +kernel
theorem d1_9 : decode method_3_code 9 = .ok (.goto 5, 3) := by decide +kernel
theorem d1_12 : decode method_3_code 12 = .ok (.iload_n 2, 1) := by decide +kernel
theorem d1_13 : decode method_3_code 13 = .ok (.i2d, 1) := by decide +kernel
theorem d1_14 : decode method_3_code 14 = .ok (.dreturn, 1) := by decide +kernel
theorem pn_1 : plainName "com/example/oceanus/oceanus/analysis/LinearIsConstantPinLaw" = true := by first | (simp [plainName, overriddenIn]; done) | decide +kernel
theorem ef1 (m : MethodId) (p0 : Int32) (p1 : Int32) (p2 : Int32) : entryFrame m #[(.int p0), (.int p1), (.int p2)] 3 = mkF m 0 #[iv p0, iv p1, iv p2] [] := by first | (simp [entryFrame, mkF, argsToLocals, Value.category]; done) | rfl
abbrev room_of_1 : Room := { frames := 0, cells := 0, slots := 0, locals := 0 }
def rv1 (p0 : Int32) (p1 : Int32) (p2 : Int32) : UInt64 := (if ((p0 >>> (p1 &&& 31)) &&& (1 : Int32)) = (0 : Int32) then (0 : UInt64) else (FP.i2d p2))
def Q1 (Z : State) (p0 : Int32) (p1 : Int32) (p2 : Int32) (h0 : Heap) (n0 : Nat) (v : Option Value) (h : Heap) (L : List Loc) : Prop := v = some (.double (rv1 p0 p1 p2)) ∧ L = [] ∧ h = h0
set_option maxRecDepth 65536 in
set_option maxHeartbeats 40000000 in
theorem rm1 (l : Launch) (Z : State) (a0 : Array Value) (hw : ∀ d ∈ tables_1, d.before a0 Z = true) (ws : List Jvm.Cond) (p0 : Int32) (p1 : Int32) (p2 : Int32)  (h0 : Heap) (n0 : Nat) (Z0 : n0 ≤ h0.size) :
    MetFree l (⟨"com/example/oceanus/oceanus/analysis/LinearIsConstantPinLaw", "entry", "(III)D"⟩ : MethodName) (head1 (Jvm.Cond.code (⟨"com/example/oceanus/oceanus/analysis/LinearIsConstantPinLaw", "entry", "(III)D"⟩ : MethodName) method_3_code 3 (some .double) :: ws) (room_of_1)) (fun a U => a = #[(.int p0), (.int p1), (.int p2)] ∧ Z.Warmed39 U.vm ∧ U.heap = h0) (fun _ _ _ _ _ => True) (fun _ U o U' => ∃ v L, o = .returned v ∧ Q1 Z p0 p1 p2 h0 n0 v U'.heap L ∧ FrameEnd U o U' L (room_of_1).cells (room_of_1).slots) := by
  refine MetFree.of_bodySF (plainFor_of_name pn_1) hisR ?_
  intro p e s m args below meth c s₁ Bd hml0 hP hK
  obtain ⟨rfl, hZ, hh⟩ := hP
  have hx := Bd.exec
  have hby := Bd.bytes
  have hml : c.maxLocals = 3 := hml0
  have hown : s.vm.findClass "com/example/oceanus/oceanus/analysis/LinearIsConstantPinLaw" = some m.cls := findClass_of_methodNamed Bd.named
  have hnm := (name_of_methodNamed Bd.named Bd.method).1
  have X0 : Stand p l e (room_of_1) s m #[(.int p0), (.int p1), (.int p2)] below meth c s₁ [] 0 0 := Stand.of_body Bd
  have e0 : s₁.heap = h0 := by rw [← hh, Bd.state]; rfl
  have N0 := Fr.nil n0
  have G0 := gd X0 hx hby
  have pre0 : ∀ t, Steps p.tables e below (s₁.setTop (mkF m 0 #[iv p0, iv p1, iv p2] [])) t → Steps p.tables e below (s₁.setTop (entryFrame m #[(.int p0), (.int p1), (.int p2)] 3)) t := fun t k => castTop (ef1 m p0 p1 p2) k
  obtain ⟨T2, X2, e2, st2⟩ : ∃ T' : State, Stand p l e (room_of_1) s m #[(.int p0), (.int p1), (.int p2)] below meth c T' [] 0 0 ∧ T'.heap = h0 ∧ ∀ target, Steps p.tables e below (T'.setTop (mkF m 14 #[iv p0, iv p1, iv p2] [(.double (if ((p0 >>> (p1 &&& 31)) &&& (1 : Int32)) = (0 : Int32) then (0 : UInt64) else (FP.i2d p2)))])) target → Steps p.tables e below (s₁.setTop (mkF m 5 #[iv p0, iv p1, iv p2] [(.int ((p0 >>> (p1 &&& 31)) &&& (1 : Int32)))])) target := by
    by_cases hc5_1 : ((p0 >>> (p1 &&& 31)) &&& (1 : Int32)) = (0 : Int32)
    · refine ⟨s₁, X0, e0, fun target kt => ?_⟩
      refine mifNo 8 G0 d1_5 ((if0 _ _).trans (teq hc5_1).2) rfl ?_
      refine mdconst0 9 G0 d1_8 (v := (0 : UInt64)) rfl rfl ?_
      refine mgoto 14 G0 d1_9 (by decide) rfl ?_
      exact castTop (g' := (mkF m 14 #[iv p0, iv p1, iv p2] [(.double (if ((p0 >>> (p1 &&& 31)) &&& (1 : Int32)) = (0 : Int32) then (0 : UInt64) else (FP.i2d p2)))])) (by simp only [if_pos hc5_1]) kt
    · refine ⟨s₁, X0, e0, fun target kt => ?_⟩
      refine mifYes 12 G0 d1_5 ((if0 _ _).trans (feq hc5_1).2) (by decide) rfl ?_
      refine miloadN 13 G0 d1_12 rfl rfl ?_
      refine mi2d 14 G0 d1_13 rfl ?_
      exact castTop (g' := (mkF m 14 #[iv p0, iv p1, iv p2] [(.double (if ((p0 >>> (p1 &&& 31)) &&& (1 : Int32)) = (0 : Int32) then (0 : UInt64) else (FP.i2d p2)))])) (by simp only [if_neg hc5_1]) kt
  have G2 := gd X2 hx hby
  obtain ⟨fs, hr, hrun, hended, hW, hsame⟩ := X2.leave (v := some (.double (if ((p0 >>> (p1 &&& 31)) &&& (1 : Int32)) = (0 : Int32) then (0 : UInt64) else (FP.i2d p2)))) (fun h => by rw [Bd.returns] at h; cases h)
  refine ⟨_, _, pre0 _ ?_, hrun, hended, _, _, rfl, ?_, ⟨_, rfl⟩, hW, hsame.mono (by decide) (by decide)⟩
  · show Steps p.tables e below (s₁.setTop (mkF m 0 #[iv p0, iv p1, iv p2] [])) _
    refine miloadN 1 G0 d1_0 rfl rfl ?_
    refine miloadN 2 G0 d1_1 rfl rfl ?_
    refine mishr 3 G0 d1_2 rfl rfl ?_
    refine miconst 4 G0 d1_3 (v := (1 : Int32)) rfl rfl ?_
    refine miand 5 G0 d1_4 rfl rfl ?_
    refine st2 _ ?_
    exact retOut X2 hx Bd.returns rfl (Or.inr (Or.inr (Or.inl ⟨rfl, rfl, _, rfl⟩))) (hb hby d1_14) hr
  · show Q1 Z p0 p1 p2 h0 n0 _ T2.heap _
    rw [e2]
    exact ⟨by simp only [rv1], rfl, rfl⟩
theorem d2_0 : decode method_4_code 0 = .ok (.iload_n 0, 1) := by decide +kernel
theorem d2_1 : decode method_4_code 1 = .ok (.newarray .double, 2) := by decide +kernel
theorem d2_3 : decode method_4_code 3 = .ok (.astore 9, 2) := by decide +kernel
theorem d2_5 : decode method_4_code 5 = .ok (.iload_n 0, 1) := by decide +kernel
theorem d2_6 : decode method_4_code 6 = .ok (.ifCond .le 8, 3) := by decide +kernel
theorem d2_14 : decode method_4_code 14 = .ok (.iload_n 0, 1) := by decide +kernel
theorem d2_15 : decode method_4_code 15 = .ok (.iconst 1, 1) := by decide +kernel
theorem d2_16 : decode method_4_code 16 = .ok (.if_icmp .le 8, 3) := by decide +kernel
theorem d2_24 : decode method_4_code 24 = .ok (.iload_n 0, 1) := by decide +kernel
theorem d2_25 : decode method_4_code 25 = .ok (.iconst 2, 1) := by decide +kernel
theorem d2_26 : decode method_4_code 26 = .ok (.if_icmp .le 9, 3) := by decide +kernel
theorem d2_35 : decode method_4_code 35 = .ok (.iload_n 0, 1) := by decide +kernel
theorem d2_36 : decode method_4_code 36 = .ok (.iconst 3, 1) := by decide +kernel
theorem d2_37 : decode method_4_code 37 = .ok (.if_icmp .le 9, 3) := by decide +kernel
theorem d2_46 : decode method_4_code 46 = .ok (.aload 9, 2) := by decide +kernel
theorem d2_48 : decode method_4_code 48 = .ok (.areturn, 1) := by decide +kernel
theorem pn_2 : plainName "com/example/oceanus/oceanus/analysis/LinearIsConstantPinLaw" = true := by first | (simp [plainName, overriddenIn]; done) | decide +kernel
theorem ef2_0 (m : MethodId) (d1 : UInt64) (d2 : UInt64) (d3 : UInt64) (d4 : UInt64) : entryFrame m #[(.int (0 : Int32)), (.double d1), (.double d2), (.double d3), (.double d4)] 10 = mkF m 0 #[iv (0 : Int32), dv d1, .second, dv d2, .second, dv d3, .second, dv d4, .second, .unset] [] := by first | (simp [entryFrame, mkF, argsToLocals, Value.category]; done) | rfl
abbrev room_of_2_0 : Room := { frames := 0, cells := 1, slots := 0, locals := 0 }
def Q2_0 (Z : State) (d1 : UInt64) (d2 : UInt64) (d3 : UInt64) (d4 : UInt64) (h0 : Heap) (n0 : Nat) (v : Option Value) (h : Heap) (L : List Loc) : Prop := ∃ (b : Addr) (k : ClassId), v = some (.ref b) ∧ n0 ≤ b ∧ h0.size ≤ b ∧ Fr n0 L ∧ Keep h0 h [] ∧ Arv Z h b k .double (0 : Int32) [] (.double (0 : UInt64))
set_option maxRecDepth 65536 in
set_option maxHeartbeats 40000000 in
theorem rm2_0 (l : Launch) (Z : State) (a0 : Array Value) (hw : ∀ d ∈ tables_1, d.before a0 Z = true) (ws : List Jvm.Cond) (d1 : UInt64) (d2 : UInt64) (d3 : UInt64) (d4 : UInt64)  (h0 : Heap) (n0 : Nat) (Z0 : n0 ≤ h0.size) :
    MetFree l (⟨"com/example/oceanus/oceanus/analysis/LinearIsConstantPinLaw", "make", "(IDDDD)[D"⟩ : MethodName) (head1 (Jvm.Cond.code (⟨"com/example/oceanus/oceanus/analysis/LinearIsConstantPinLaw", "make", "(IDDDD)[D"⟩ : MethodName) method_4_code 10 (some (.array .double)) :: ws) (room_of_2_0)) (fun a U => a = #[(.int (0 : Int32)), (.double d1), (.double d2), (.double d3), (.double d4)] ∧ Z.Warmed39 U.vm ∧ U.heap = h0) (fun _ _ _ _ _ => True) (fun _ U o U' => ∃ v L, o = .returned v ∧ Q2_0 Z d1 d2 d3 d4 h0 n0 v U'.heap L ∧ FrameEnd U o U' L (room_of_2_0).cells (room_of_2_0).slots) := by
  refine MetFree.of_bodySF (plainFor_of_name pn_2) hisR ?_
  intro p e s m args below meth c s₁ Bd hml0 hP hK
  obtain ⟨rfl, hZ, hh⟩ := hP
  have hx := Bd.exec
  have hby := Bd.bytes
  have hml : c.maxLocals = 10 := hml0
  have hown : s.vm.findClass "com/example/oceanus/oceanus/analysis/LinearIsConstantPinLaw" = some m.cls := findClass_of_methodNamed Bd.named
  have hnm := (name_of_methodNamed Bd.named Bd.method).1
  have X0 : Stand p l e (room_of_2_0) s m #[(.int (0 : Int32)), (.double d1), (.double d2), (.double d3), (.double d4)] below meth c s₁ [] 0 0 := Stand.of_body Bd
  have e0 : s₁.heap = h0 := by rw [← hh, Bd.state]; rfl
  have N0 := Fr.nil n0
  have G0 := gd X0 hx hby
  have pre0 : ∀ t, Steps p.tables e below (s₁.setTop (mkF m 0 #[iv (0 : Int32), dv d1, .second, dv d2, .second, dv d3, .second, dv d4, .second, .unset] [])) t → Steps p.tables e below (s₁.setTop (entryFrame m #[(.int (0 : Int32)), (.double d1), (.double d2), (.double d3), (.double d4)] 10)) t := fun t k => castTop (ef2_0 m d1 d2 d3 d4) k
  obtain ⟨T1, h1, k1, X1, e1, E1, A1, st1⟩ := newP X0 hx hZ (wd hw 7 rfl) e0 (g := (mkF m 1 #[iv (0 : Int32), dv d1, .second, dv d2, .second, dv d3, .second, dv d4, .second, .unset] [(.int (0 : Int32))])) rfl (hb hby d2_1) rfl (by decide) (cap := 0) (by decide) (by decide) (by decide) (by decide)
  have G1 := gd X1 hx hby
  obtain ⟨b1, g1⟩ : ∃ z, z = h0.size := ⟨_, rfl⟩
  rw [← g1] at A1 st1
  have g_b1 : n0 ≤ b1 := Nat.le_trans Z0 (Nat.le_of_eq g1.symm)
  have sz_b1 : h0.size ≤ b1 := Nat.le_trans (Keep.refl h0 []).1 (Nat.le_of_eq g1.symm)
  have Z1 := Nat.le_trans Z0 E1.1
  have K1 : Keep h0 h1 [] := (Keep.refl h0 []).ext E1
  have V_b1 : Arv Z h1 b1 k1 .double (0 : Int32) [] (.double (0 : UInt64)) := Arv.new A1 (by decide)
  obtain ⟨fs, hr, hrun, hended, hW, hsame⟩ := X1.leave (v := some (.ref b1)) (fun h => by rw [Bd.returns] at h; cases h)
  refine ⟨_, _, pre0 _ ?_, hrun, hended, _, _, rfl, ?_, ⟨_, rfl⟩, hW, hsame.mono (by decide) (by decide)⟩
  · show Steps p.tables e below (s₁.setTop (mkF m 0 #[iv (0 : Int32), dv d1, .second, dv d2, .second, dv d3, .second, dv d4, .second, .unset] [])) _
    refine miloadN 1 G0 d2_0 rfl rfl ?_
    refine st1 _ ?_
    show Steps p.tables e below (T1.setTop (mkF m 3 #[iv (0 : Int32), dv d1, .second, dv d2, .second, dv d3, .second, dv d4, .second, .unset] [(.ref b1)])) _
    refine mastore 5 G1 d2_3 rfl #[iv (0 : Int32), dv d1, .second, dv d2, .second, dv d3, .second, dv d4, .second, rv b1] rfl rfl ?_
    refine miloadN 6 G1 d2_5 rfl rfl ?_
    refine mifYes 14 G1 d2_6 ((if0 _ _).trans (flt (by decide : ¬ ((0 : Int32) < (0 : Int32)))).2.2.2) (by decide) rfl ?_
    refine miloadN 15 G1 d2_14 rfl rfl ?_
    refine miconst 16 G1 d2_15 (v := (1 : Int32)) rfl rfl ?_
    refine micmpYes 24 G1 d2_16 (flt (by decide : ¬ ((1 : Int32) < (0 : Int32)))).2.2.2 (by decide) rfl ?_
    refine miloadN 25 G1 d2_24 rfl rfl ?_
    refine miconst 26 G1 d2_25 (v := (2 : Int32)) rfl rfl ?_
    refine micmpYes 35 G1 d2_26 (flt (by decide : ¬ ((2 : Int32) < (0 : Int32)))).2.2.2 (by decide) rfl ?_
    refine miloadN 36 G1 d2_35 rfl rfl ?_
    refine miconst 37 G1 d2_36 (v := (3 : Int32)) rfl rfl ?_
    refine micmpYes 46 G1 d2_37 (flt (by decide : ¬ ((3 : Int32) < (0 : Int32)))).2.2.2 (by decide) rfl ?_
    refine maload 48 G1 d2_46 rfl rfl rfl ?_
    exact retOut X1 hx Bd.returns rfl (Or.inr (Or.inr (Or.inr (Or.inr ⟨rfl, rfl, rfl⟩)))) (hb hby d2_48) hr
  · show Q2_0 Z d1 d2 d3 d4 h0 n0 _ T1.heap _
    rw [e1]
    exact ⟨b1, k1, rfl, g_b1, sz_b1, N0, K1, V_b1⟩
theorem d6_0 : decode prog_23_method_6_code 0 = .ok (.iconst 1, 1) := by decide +kernel
theorem d6_1 : decode prog_23_method_6_code 1 = .ok (.istore_n 1, 1) := by decide +kernel
theorem d6_2 : decode prog_23_method_6_code 2 = .ok (.iconst 0, 1) := by decide +kernel
theorem d6_3 : decode prog_23_method_6_code 3 = .ok (.istore_n 2, 1) := by decide +kernel
theorem d6_4 : decode prog_23_method_6_code 4 = .ok (.iload_n 1, 1) := by decide +kernel
theorem d6_5 : decode prog_23_method_6_code 5 = .ok (.ifCond .eq 48, 3) := by decide +kernel
theorem d6_8 : decode prog_23_method_6_code 8 = .ok (.iload_n 2, 1) := by decide +kernel
theorem d6_9 : decode prog_23_method_6_code 9 = .ok (.aload_n 0, 1) := by decide +kernel
theorem d6_10 : decode prog_23_method_6_code 10 = .ok (.getfield 7, 3) := by decide +kernel
theorem d6_13 : decode prog_23_method_6_code 13 = .ok (.arraylength, 1) := by decide +kernel
theorem d6_14 : decode prog_23_method_6_code 14 = .ok (.iconst 1, 1) := by decide +kernel
theorem d6_15 : decode prog_23_method_6_code 15 = .ok (.isub, 1) := by decide +kernel
theorem d6_16 : decode prog_23_method_6_code 16 = .ok (.if_icmp .ge 37, 3) := by decide +kernel
theorem d6_53 : decode prog_23_method_6_code 53 = .ok (.iload_n 1, 1) := by decide +kernel
theorem d6_54 : decode prog_23_method_6_code 54 = .ok (.ireturn, 1) := by decide +kernel
theorem pn_6 : plainName "com/example/oceanus/oceanus/analysis/RoundingSpanArithmetic$Linear" = true := by first | (simp [plainName, overriddenIn]; done) | decide +kernel
theorem ef6_0 (m : MethodId) (o0 : Addr) : entryFrame m #[(.ref o0)] 3 = mkF m 0 #[rv o0, .unset, .unset] [] := by first | (simp [entryFrame, mkF, argsToLocals, Value.category]; done) | rfl
abbrev room_of_6_0 : Room := { frames := 0, cells := 0, slots := 0, locals := 0 }
def Q6_0 (Z : State) (o0 : Addr) (w1 : Addr) (w2 : Addr) (k1 : ClassId) (k2 : ClassId) (h0 : Heap) (n0 : Nat) (v : Option Value) (h : Heap) (L : List Loc) : Prop := v = some (.int (1 : Int32)) ∧ L = [] ∧ h = h0
set_option maxRecDepth 65536 in
set_option maxHeartbeats 40000000 in
theorem rm6_0 (l : Launch) (Z : State) (a0 : Array Value) (hw : ∀ d ∈ tables_1, d.before a0 Z = true) (ws : List Jvm.Cond) (o0 : Addr) {w1 : Addr} {w2 : Addr} {k1 : ClassId} {k2 : ClassId} (h0 : Heap) (n0 : Nat) (Z0 : n0 ≤ h0.size) (F_lows_o0 : Fld Z h0 o0 "com/example/oceanus/oceanus/analysis/RoundingSpanArithmetic$Linear" "lows" "[D" (.ref w1)) (F_highs_o0 : Fld Z h0 o0 "com/example/oceanus/oceanus/analysis/RoundingSpanArithmetic$Linear" "highs" "[D" (.ref w2)) (V_w1 : Arv Z h0 w1 k1 .double (0 : Int32) [] (.double (0 : UInt64))) (V_w2 : Arv Z h0 w2 k2 .double (0 : Int32) [] (.double (0 : UInt64))) :
    MetFree l (⟨"com/example/oceanus/oceanus/analysis/RoundingSpanArithmetic$Linear", "isConstant", "()Z"⟩ : MethodName) (head1 (Jvm.Cond.code (⟨"com/example/oceanus/oceanus/analysis/RoundingSpanArithmetic$Linear", "isConstant", "()Z"⟩ : MethodName) prog_23_method_6_code 3 (some .boolean) :: ws) (room_of_6_0)) (fun a U => a = #[(.ref o0)] ∧ Z.Warmed39 U.vm ∧ U.heap = h0) (fun _ _ _ _ _ => True) (fun _ U o U' => ∃ v L, o = .returned v ∧ Q6_0 Z o0 w1 w2 k1 k2 h0 n0 v U'.heap L ∧ FrameEnd U o U' L (room_of_6_0).cells (room_of_6_0).slots) := by
  refine MetFree.of_bodySF (plainFor_of_name pn_6) hisR ?_
  intro p e s m args below meth c s₁ Bd hml0 hP hK
  obtain ⟨rfl, hZ, hh⟩ := hP
  have hx := Bd.exec
  have hby := Bd.bytes
  have hml : c.maxLocals = 3 := hml0
  have hown : s.vm.findClass "com/example/oceanus/oceanus/analysis/RoundingSpanArithmetic$Linear" = some m.cls := findClass_of_methodNamed Bd.named
  have hnm := (name_of_methodNamed Bd.named Bd.method).1
  have X0 : Stand p l e (room_of_6_0) s m #[(.ref o0)] below meth c s₁ [] 0 0 := Stand.of_body Bd
  have e0 : s₁.heap = h0 := by rw [← hh, Bd.state]; rfl
  have N0 := Fr.nil n0
  have G0 := gd X0 hx hby
  have pre0 : ∀ t, Steps p.tables e below (s₁.setTop (mkF m 0 #[rv o0, .unset, .unset] [])) t → Steps p.tables e below (s₁.setTop (entryFrame m #[(.ref o0)] 3)) t := fun t k => castTop (ef6_0 m o0) k
  obtain ⟨T1, X1, e1, st1⟩ := getF X0 hx hZ hown (host := "") (Or.inl (wd hw 22 rfl)) Via.refl e0 F_lows_o0 (g := (mkF m 10 #[rv o0, iv (1 : Int32), iv (0 : Int32)] [(.ref o0), (.int (0 : Int32))])) rfl rfl (hb hby d6_10)
  have G1 := gd X1 hx hby
  obtain ⟨fs, hr, hrun, hended, hW, hsame⟩ := X1.leave (v := some (.int (1 : Int32))) (fun h => by rw [Bd.returns] at h; cases h)
  refine ⟨_, _, pre0 _ ?_, hrun, hended, _, _, rfl, ?_, ⟨_, rfl⟩, hW, hsame.mono (by decide) (by decide)⟩
  · show Steps p.tables e below (s₁.setTop (mkF m 0 #[rv o0, .unset, .unset] [])) _
    refine miconst 1 G0 d6_0 (v := (1 : Int32)) rfl rfl ?_
    refine mistoreN 2 G0 d6_1 #[rv o0, iv (1 : Int32), .unset] rfl rfl ?_
    refine miconst 3 G0 d6_2 (v := (0 : Int32)) rfl rfl ?_
    refine mistoreN 4 G0 d6_3 #[rv o0, iv (1 : Int32), iv (0 : Int32)] rfl rfl ?_
    refine miloadN 5 G0 d6_4 rfl rfl ?_
    refine mifNo 8 G0 d6_5 ((if0 _ _).trans (feq (by decide : ¬ ((1 : Int32) = (0 : Int32)))).1) rfl ?_
    refine miloadN 9 G0 d6_8 rfl rfl ?_
    refine maloadN 10 G0 d6_9 rfl rfl rfl ?_
    refine st1 _ ?_
    show Steps p.tables e below (T1.setTop (mkF m 13 #[rv o0, iv (1 : Int32), iv (0 : Int32)] [(.ref w1), (.int (0 : Int32))])) _
    refine mlen 14 X1 hx hby hZ e1 V_w1 d6_13 rfl ?_
    refine miconst 15 G1 d6_14 (v := (1 : Int32)) rfl rfl ?_
    refine misub 16 G1 d6_15 (v := (-1 : Int32)) rfl rfl ?_
    refine micmpYes 53 G1 d6_16 (flt (by decide : ¬ ((0 : Int32) < (-1 : Int32)))).2.1 (by decide) rfl ?_
    refine miloadN 54 G1 d6_53 rfl rfl ?_
    exact retOut X1 hx Bd.returns (by first | rfl | ((repeat' split) <;> rfl)) (Or.inl ⟨rfl, by simp, _, rfl⟩) (hb hby d6_54) hr
  · show Q6_0 Z o0 w1 w2 k1 k2 h0 n0 _ T1.heap _
    rw [e1]
    exact ⟨rfl, rfl, rfl⟩
theorem pd_1 : parseMethodDescriptor "(III)D" = some ⟨[.int, .int, .int], some .double⟩ := by decide +kernel
theorem pd_2 : parseMethodDescriptor "(IDDDD)[D" = some ⟨[.int, .double, .double, .double, .double], some (.array .double)⟩ := by decide +kernel
theorem pd_3 : parseMethodDescriptor "([D[D)V" = some ⟨[(.array .double), (.array .double)], none⟩ := by decide +kernel
theorem pd_4 : parseMethodDescriptor "()Z" = some ⟨[], some .boolean⟩ := by decide +kernel
theorem pn_0 : plainName "com/example/oceanus/oceanus/analysis/LinearIsConstantPinLaw" = true := by first | (simp [plainName, overriddenIn]; done) | decide +kernel
theorem ef0_0 (m : MethodId) (p0 : Int32) (p1 : Int32) (p2 : Int32) (p3 : Int32) (p4 : Int32) : entryFrame m #[(.int p0), (.int p1), (.int p2), (.int p3), (.int p4)] maxLocals = mkF m 0 #[iv p0, iv p1, iv p2, iv p3, iv p4, .unset, .unset, .unset, .unset, .unset, .unset, .unset, .unset, .unset, .unset, .unset, .unset, .unset, .unset, .unset, .unset, .unset, .unset, .unset, .unset, .unset] [] := by first | (simp [entryFrame, mkF, argsToLocals, Value.category, maxLocals]; done) | rfl
def Q0 (Z : State) (p0 : Int32) (p1 : Int32) (p2 : Int32) (p3 : Int32) (p4 : Int32) (h0 : Heap) (n0 : Nat) (v : Option Value) (h : Heap) (L : List Loc) : Prop := v = some (.int 1) ∧ Fr n0 L
set_option maxRecDepth 65536 in
set_option maxHeartbeats 40000000 in
theorem rm0_0 (l : Launch) (Z : State) (a0 : Array Value) (hw : ∀ d ∈ tables_1, d.before a0 Z = true) (ws : List Jvm.Cond) (p0 : Int32) (p1 : Int32) (p2 : Int32) (p3 : Int32) (p4 : Int32)  (h0 : Heap) (n0 : Nat) (Z0 : n0 ≤ h0.size) (hpin6 : ((p2 &&& (7 : Int32)) % (5 : Int32)) = (0 : Int32)) :
    MetFree l x (head1 (Jvm.Cond.code x code maxLocals ret :: ws) room_1) (fun a U => a = #[(.int p0), (.int p1), (.int p2), (.int p3), (.int p4)] ∧ Z.Warmed39 U.vm ∧ U.heap = h0) (fun _ _ _ _ _ => True) (fun _ U o U' => ∃ v L, o = .returned v ∧ Q0 Z p0 p1 p2 p3 p4 h0 n0 v U'.heap L ∧ FrameEnd U o U' L room_1.cells room_1.slots) := by
  refine MetFree.of_bodySF (plainFor_of_name pn_0) hisR ?_
  intro p e s m args below meth c s₁ Bd hml0 hP hK
  obtain ⟨rfl, hZ, hh⟩ := hP
  have hx := Bd.exec
  have hby := Bd.bytes
  have hml : c.maxLocals = 26 := hml0
  have hown : s.vm.findClass "com/example/oceanus/oceanus/analysis/LinearIsConstantPinLaw" = some m.cls := findClass_of_methodNamed Bd.named
  have hnm := (name_of_methodNamed Bd.named Bd.method).1
  have X0 : Stand p l e room_1 s m #[(.int p0), (.int p1), (.int p2), (.int p3), (.int p4)] below meth c s₁ [] 0 0 := Stand.of_body Bd
  have e0 : s₁.heap = h0 := by rw [← hh, Bd.state]; rfl
  have N0 := Fr.nil n0
  have G0 := gd X0 hx hby
  have pre0 : ∀ t, Steps p.tables e below (s₁.setTop (mkF m 0 #[iv p0, iv p1, iv p2, iv p3, iv p4, .unset, .unset, .unset, .unset, .unset, .unset, .unset, .unset, .unset, .unset, .unset, .unset, .unset, .unset, .unset, .unset, .unset, .unset, .unset, .unset, .unset] [])) t → Steps p.tables e below (s₁.setTop (entryFrame m #[(.int p0), (.int p1), (.int p2), (.int p3), (.int p4)] maxLocals)) t := fun t k => castTop (ef0_0 m p0 p1 p2 p3 p4) k
  obtain ⟨_, _, ⟨T1, L1, k1, n1⟩, -, X1, ⟨Lc1, hQ1, l1, y1, z1⟩, st1⟩ := Jvm.LawKit.callS X0 hx (y := (⟨"com/example/oceanus/oceanus/analysis/LinearIsConstantPinLaw", "entry", "(III)D"⟩ : MethodName)) hown (mvT hZ (wd hw 0 rfl)) (mvT hZ (wd hw 1 rfl)) (mvT hZ (wd hw 2 rfl)) (mvT hZ (wd hw 3 rfl)) (by decide) (backOf (W := 0) (rm1 l Z a0 hw [] p0 (0 : Int32) p3 h0 n0 Z0 ) hZ (wd hw 3 rfl) (wd hw 2 rfl) (by decide) (by decide)) (g := (mkF m 11 #[iv p0, iv p1, iv p2, iv p3, iv p4, iv (0 : Int32), .unset, .unset, .unset, .unset, .unset, .unset, .unset, .unset, .unset, .unset, .unset, .unset, .unset, .unset, .unset, .unset, .unset, .unset, .unset, .unset] [(.int p3), (.int (0 : Int32)), (.int p0)])) rfl (by rw [hml]; rfl) (argsL := [(.int p0), (.int (0 : Int32)), (.int p3)]) (rest := []) (lenOf pd_1 rfl) rfl (by show 2 * 0 + _ ≤ _; exact Nat.le_of_eq rfl) (hb hby at_11) (fun _ _ => ⟨rfl, e0, (by decide : 0 + 0 ≤ _), (by decide : 0 + 0 ≤ _)⟩)
  dsimp only [Pt.U, Pt.locs, Pt.cells, Pt.slots] at X1 l1 y1 z1 st1 hQ1
  replace l1 : ([] ++ Lc1) = L1 := l1.symm
  subst l1 y1 z1
  obtain ⟨rfl, rfl, e1⟩ := hQ1
  simp only [List.append_nil, Nat.add_zero] at X1
  have G1 := gd X1 hx hby
  obtain ⟨x2, hx2⟩ : ∃ z : UInt64, z = (rv1 p0 (0 : Int32) p3) := ⟨_, rfl⟩
  obtain ⟨_, _, ⟨T3, L3, k3, n3⟩, -, X3, ⟨Lc3, hQ3, l3, y3, z3⟩, st3⟩ := Jvm.LawKit.callS X1 hx (y := (⟨"com/example/oceanus/oceanus/analysis/LinearIsConstantPinLaw", "entry", "(III)D"⟩ : MethodName)) hown (mvT hZ (wd hw 0 rfl)) (mvT hZ (wd hw 1 rfl)) (mvT hZ (wd hw 2 rfl)) (mvT hZ (wd hw 3 rfl)) (by decide) (backOf (W := 0) (rm1 l Z a0 hw [] p0 (1 : Int32) ((p3 + (1 : Int32))) h0 n0 Z0 ) hZ (wd hw 3 rfl) (wd hw 2 rfl) (by decide) (by decide)) (g := (mkF m 21 #[iv p0, iv p1, iv p2, iv p3, iv p4, iv (0 : Int32), dv x2, .second, .unset, .unset, .unset, .unset, .unset, .unset, .unset, .unset, .unset, .unset, .unset, .unset, .unset, .unset, .unset, .unset, .unset, .unset] [(.int (p3 + (1 : Int32))), (.int (1 : Int32)), (.int p0)])) rfl (by rw [hml]; rfl) (argsL := [(.int p0), (.int (1 : Int32)), (.int (p3 + (1 : Int32)))]) (rest := []) (lenOf pd_1 rfl) rfl (by show 2 * 0 + _ ≤ _; exact Nat.le_of_eq rfl) (hb hby at_21) (fun _ _ => ⟨rfl, e1, (by decide : 0 + 0 ≤ _), (by decide : 0 + 0 ≤ _)⟩)
  dsimp only [Pt.U, Pt.locs, Pt.cells, Pt.slots] at X3 l3 y3 z3 st3 hQ3
  replace l3 : ([] ++ Lc3) = L3 := l3.symm
  subst l3 y3 z3
  obtain ⟨rfl, rfl, e3⟩ := hQ3
  simp only [List.append_nil, Nat.add_zero] at X3
  have G3 := gd X3 hx hby
  obtain ⟨x4, hx4⟩ : ∃ z : UInt64, z = (rv1 p0 (1 : Int32) (p3 + (1 : Int32))) := ⟨_, rfl⟩
  obtain ⟨_, _, ⟨T5, L5, k5, n5⟩, -, X5, ⟨Lc5, hQ5, l5, y5, z5⟩, st5⟩ := Jvm.LawKit.callS X3 hx (y := (⟨"com/example/oceanus/oceanus/analysis/LinearIsConstantPinLaw", "entry", "(III)D"⟩ : MethodName)) hown (mvT hZ (wd hw 0 rfl)) (mvT hZ (wd hw 1 rfl)) (mvT hZ (wd hw 2 rfl)) (mvT hZ (wd hw 3 rfl)) (by decide) (backOf (W := 0) (rm1 l Z a0 hw [] p0 (2 : Int32) ((p3 + (2 : Int32))) h0 n0 Z0 ) hZ (wd hw 3 rfl) (wd hw 2 rfl) (by decide) (by decide)) (g := (mkF m 31 #[iv p0, iv p1, iv p2, iv p3, iv p4, iv (0 : Int32), dv x2, .second, dv x4, .second, .unset, .unset, .unset, .unset, .unset, .unset, .unset, .unset, .unset, .unset, .unset, .unset, .unset, .unset, .unset, .unset] [(.int (p3 + (2 : Int32))), (.int (2 : Int32)), (.int p0)])) rfl (by rw [hml]; rfl) (argsL := [(.int p0), (.int (2 : Int32)), (.int (p3 + (2 : Int32)))]) (rest := []) (lenOf pd_1 rfl) rfl (by show 2 * 0 + _ ≤ _; exact Nat.le_of_eq rfl) (hb hby at_31) (fun _ _ => ⟨rfl, e3, (by decide : 0 + 0 ≤ _), (by decide : 0 + 0 ≤ _)⟩)
  dsimp only [Pt.U, Pt.locs, Pt.cells, Pt.slots] at X5 l5 y5 z5 st5 hQ5
  replace l5 : ([] ++ Lc5) = L5 := l5.symm
  subst l5 y5 z5
  obtain ⟨rfl, rfl, e5⟩ := hQ5
  simp only [List.append_nil, Nat.add_zero] at X5
  have G5 := gd X5 hx hby
  obtain ⟨x6, hx6⟩ : ∃ z : UInt64, z = (rv1 p0 (2 : Int32) (p3 + (2 : Int32))) := ⟨_, rfl⟩
  obtain ⟨_, _, ⟨T7, L7, k7, n7⟩, -, X7, ⟨Lc7, hQ7, l7, y7, z7⟩, st7⟩ := Jvm.LawKit.callS X5 hx (y := (⟨"com/example/oceanus/oceanus/analysis/LinearIsConstantPinLaw", "entry", "(III)D"⟩ : MethodName)) hown (mvT hZ (wd hw 0 rfl)) (mvT hZ (wd hw 1 rfl)) (mvT hZ (wd hw 2 rfl)) (mvT hZ (wd hw 3 rfl)) (by decide) (backOf (W := 0) (rm1 l Z a0 hw [] p0 (3 : Int32) ((p3 + (3 : Int32))) h0 n0 Z0 ) hZ (wd hw 3 rfl) (wd hw 2 rfl) (by decide) (by decide)) (g := (mkF m 41 #[iv p0, iv p1, iv p2, iv p3, iv p4, iv (0 : Int32), dv x2, .second, dv x4, .second, dv x6, .second, .unset, .unset, .unset, .unset, .unset, .unset, .unset, .unset, .unset, .unset, .unset, .unset, .unset, .unset] [(.int (p3 + (3 : Int32))), (.int (3 : Int32)), (.int p0)])) rfl (by rw [hml]; rfl) (argsL := [(.int p0), (.int (3 : Int32)), (.int (p3 + (3 : Int32)))]) (rest := []) (lenOf pd_1 rfl) rfl (by show 2 * 0 + _ ≤ _; exact Nat.le_of_eq rfl) (hb hby at_41) (fun _ _ => ⟨rfl, e5, (by decide : 0 + 0 ≤ _), (by decide : 0 + 0 ≤ _)⟩)
  dsimp only [Pt.U, Pt.locs, Pt.cells, Pt.slots] at X7 l7 y7 z7 st7 hQ7
  replace l7 : ([] ++ Lc7) = L7 := l7.symm
  subst l7 y7 z7
  obtain ⟨rfl, rfl, e7⟩ := hQ7
  simp only [List.append_nil, Nat.add_zero] at X7
  have G7 := gd X7 hx hby
  obtain ⟨x8, hx8⟩ : ∃ z : UInt64, z = (rv1 p0 (3 : Int32) (p3 + (3 : Int32))) := ⟨_, rfl⟩
  obtain ⟨_, _, ⟨T9, L9, k9, n9⟩, -, X9, ⟨Lc9, hQ9, l9, y9, z9⟩, st9⟩ := Jvm.LawKit.callS X7 hx (y := (⟨"com/example/oceanus/oceanus/analysis/LinearIsConstantPinLaw", "entry", "(III)D"⟩ : MethodName)) hown (mvT hZ (wd hw 0 rfl)) (mvT hZ (wd hw 1 rfl)) (mvT hZ (wd hw 2 rfl)) (mvT hZ (wd hw 3 rfl)) (by decide) (backOf (W := 0) (rm1 l Z a0 hw [] p1 (0 : Int32) p4 h0 n0 Z0 ) hZ (wd hw 3 rfl) (wd hw 2 rfl) (by decide) (by decide)) (g := (mkF m 50 #[iv p0, iv p1, iv p2, iv p3, iv p4, iv (0 : Int32), dv x2, .second, dv x4, .second, dv x6, .second, dv x8, .second, .unset, .unset, .unset, .unset, .unset, .unset, .unset, .unset, .unset, .unset, .unset, .unset] [(.int p4), (.int (0 : Int32)), (.int p1)])) rfl (by rw [hml]; rfl) (argsL := [(.int p1), (.int (0 : Int32)), (.int p4)]) (rest := []) (lenOf pd_1 rfl) rfl (by show 2 * 0 + _ ≤ _; exact Nat.le_of_eq rfl) (hb hby at_50) (fun _ _ => ⟨rfl, e7, (by decide : 0 + 0 ≤ _), (by decide : 0 + 0 ≤ _)⟩)
  dsimp only [Pt.U, Pt.locs, Pt.cells, Pt.slots] at X9 l9 y9 z9 st9 hQ9
  replace l9 : ([] ++ Lc9) = L9 := l9.symm
  subst l9 y9 z9
  obtain ⟨rfl, rfl, e9⟩ := hQ9
  simp only [List.append_nil, Nat.add_zero] at X9
  have G9 := gd X9 hx hby
  obtain ⟨x10, hx10⟩ : ∃ z : UInt64, z = (rv1 p1 (0 : Int32) p4) := ⟨_, rfl⟩
  obtain ⟨_, _, ⟨T11, L11, k11, n11⟩, -, X11, ⟨Lc11, hQ11, l11, y11, z11⟩, st11⟩ := Jvm.LawKit.callS X9 hx (y := (⟨"com/example/oceanus/oceanus/analysis/LinearIsConstantPinLaw", "entry", "(III)D"⟩ : MethodName)) hown (mvT hZ (wd hw 0 rfl)) (mvT hZ (wd hw 1 rfl)) (mvT hZ (wd hw 2 rfl)) (mvT hZ (wd hw 3 rfl)) (by decide) (backOf (W := 0) (rm1 l Z a0 hw [] p1 (1 : Int32) ((p4 - (1 : Int32))) h0 n0 Z0 ) hZ (wd hw 3 rfl) (wd hw 2 rfl) (by decide) (by decide)) (g := (mkF m 61 #[iv p0, iv p1, iv p2, iv p3, iv p4, iv (0 : Int32), dv x2, .second, dv x4, .second, dv x6, .second, dv x8, .second, dv x10, .second, .unset, .unset, .unset, .unset, .unset, .unset, .unset, .unset, .unset, .unset] [(.int (p4 - (1 : Int32))), (.int (1 : Int32)), (.int p1)])) rfl (by rw [hml]; rfl) (argsL := [(.int p1), (.int (1 : Int32)), (.int (p4 - (1 : Int32)))]) (rest := []) (lenOf pd_1 rfl) rfl (by show 2 * 0 + _ ≤ _; exact Nat.le_of_eq rfl) (hb hby at_61) (fun _ _ => ⟨rfl, e9, (by decide : 0 + 0 ≤ _), (by decide : 0 + 0 ≤ _)⟩)
  dsimp only [Pt.U, Pt.locs, Pt.cells, Pt.slots] at X11 l11 y11 z11 st11 hQ11
  replace l11 : ([] ++ Lc11) = L11 := l11.symm
  subst l11 y11 z11
  obtain ⟨rfl, rfl, e11⟩ := hQ11
  simp only [List.append_nil, Nat.add_zero] at X11
  have G11 := gd X11 hx hby
  obtain ⟨x12, hx12⟩ : ∃ z : UInt64, z = (rv1 p1 (1 : Int32) (p4 - (1 : Int32))) := ⟨_, rfl⟩
  obtain ⟨_, _, ⟨T13, L13, k13, n13⟩, -, X13, ⟨Lc13, hQ13, l13, y13, z13⟩, st13⟩ := Jvm.LawKit.callS X11 hx (y := (⟨"com/example/oceanus/oceanus/analysis/LinearIsConstantPinLaw", "entry", "(III)D"⟩ : MethodName)) hown (mvT hZ (wd hw 0 rfl)) (mvT hZ (wd hw 1 rfl)) (mvT hZ (wd hw 2 rfl)) (mvT hZ (wd hw 3 rfl)) (by decide) (backOf (W := 0) (rm1 l Z a0 hw [] p1 (2 : Int32) ((p4 - (2 : Int32))) h0 n0 Z0 ) hZ (wd hw 3 rfl) (wd hw 2 rfl) (by decide) (by decide)) (g := (mkF m 72 #[iv p0, iv p1, iv p2, iv p3, iv p4, iv (0 : Int32), dv x2, .second, dv x4, .second, dv x6, .second, dv x8, .second, dv x10, .second, dv x12, .second, .unset, .unset, .unset, .unset, .unset, .unset, .unset, .unset] [(.int (p4 - (2 : Int32))), (.int (2 : Int32)), (.int p1)])) rfl (by rw [hml]; rfl) (argsL := [(.int p1), (.int (2 : Int32)), (.int (p4 - (2 : Int32)))]) (rest := []) (lenOf pd_1 rfl) rfl (by show 2 * 0 + _ ≤ _; exact Nat.le_of_eq rfl) (hb hby at_72) (fun _ _ => ⟨rfl, e11, (by decide : 0 + 0 ≤ _), (by decide : 0 + 0 ≤ _)⟩)
  dsimp only [Pt.U, Pt.locs, Pt.cells, Pt.slots] at X13 l13 y13 z13 st13 hQ13
  replace l13 : ([] ++ Lc13) = L13 := l13.symm
  subst l13 y13 z13
  obtain ⟨rfl, rfl, e13⟩ := hQ13
  simp only [List.append_nil, Nat.add_zero] at X13
  have G13 := gd X13 hx hby
  obtain ⟨x14, hx14⟩ : ∃ z : UInt64, z = (rv1 p1 (2 : Int32) (p4 - (2 : Int32))) := ⟨_, rfl⟩
  obtain ⟨_, _, ⟨T15, L15, k15, n15⟩, -, X15, ⟨Lc15, hQ15, l15, y15, z15⟩, st15⟩ := Jvm.LawKit.callS X13 hx (y := (⟨"com/example/oceanus/oceanus/analysis/LinearIsConstantPinLaw", "entry", "(III)D"⟩ : MethodName)) hown (mvT hZ (wd hw 0 rfl)) (mvT hZ (wd hw 1 rfl)) (mvT hZ (wd hw 2 rfl)) (mvT hZ (wd hw 3 rfl)) (by decide) (backOf (W := 0) (rm1 l Z a0 hw [] p1 (3 : Int32) ((p4 - (3 : Int32))) h0 n0 Z0 ) hZ (wd hw 3 rfl) (wd hw 2 rfl) (by decide) (by decide)) (g := (mkF m 83 #[iv p0, iv p1, iv p2, iv p3, iv p4, iv (0 : Int32), dv x2, .second, dv x4, .second, dv x6, .second, dv x8, .second, dv x10, .second, dv x12, .second, dv x14, .second, .unset, .unset, .unset, .unset, .unset, .unset] [(.int (p4 - (3 : Int32))), (.int (3 : Int32)), (.int p1)])) rfl (by rw [hml]; rfl) (argsL := [(.int p1), (.int (3 : Int32)), (.int (p4 - (3 : Int32)))]) (rest := []) (lenOf pd_1 rfl) rfl (by show 2 * 0 + _ ≤ _; exact Nat.le_of_eq rfl) (hb hby at_83) (fun _ _ => ⟨rfl, e13, (by decide : 0 + 0 ≤ _), (by decide : 0 + 0 ≤ _)⟩)
  dsimp only [Pt.U, Pt.locs, Pt.cells, Pt.slots] at X15 l15 y15 z15 st15 hQ15
  replace l15 : ([] ++ Lc15) = L15 := l15.symm
  subst l15 y15 z15
  obtain ⟨rfl, rfl, e15⟩ := hQ15
  simp only [List.append_nil, Nat.add_zero] at X15
  have G15 := gd X15 hx hby
  obtain ⟨x16, hx16⟩ : ∃ z : UInt64, z = (rv1 p1 (3 : Int32) (p4 - (3 : Int32))) := ⟨_, rfl⟩
  obtain ⟨_, _, ⟨T17, L17, k17, n17⟩, -, X17, ⟨Lc17, hQ17, l17, y17, z17⟩, st17⟩ := Jvm.LawKit.callS X15 hx (y := (⟨"com/example/oceanus/oceanus/analysis/LinearIsConstantPinLaw", "make", "(IDDDD)[D"⟩ : MethodName)) hown (mvT hZ (wd hw 4 rfl)) (mvT hZ (wd hw 5 rfl)) (mvT hZ (wd hw 2 rfl)) (mvT hZ (wd hw 6 rfl)) (by decide) (backOf (W := 0) (rm2_0 l Z a0 hw [] x2 x4 x6 x8 h0 n0 Z0 ) hZ (wd hw 6 rfl) (wd hw 2 rfl) (by decide) (by decide)) (g := (mkF m 98 #[iv p0, iv p1, iv p2, iv p3, iv p4, iv (0 : Int32), dv x2, .second, dv x4, .second, dv x6, .second, dv x8, .second, dv x10, .second, dv x12, .second, dv x14, .second, dv x16, .second, .unset, .unset, .unset, .unset] [(.double x8), (.double x6), (.double x4), (.double x2), (.int (0 : Int32))])) rfl (by rw [hml]; rfl) (argsL := [(.int (0 : Int32)), (.double x2), (.double x4), (.double x6), (.double x8)]) (rest := []) (lenOf pd_2 rfl) rfl (by show 2 * 0 + _ ≤ _; exact Nat.le_of_eq rfl) (hb hby at_98) (fun _ _ => ⟨rfl, e15, (by decide : 0 + 1 ≤ _), (by decide : 0 + 0 ≤ _)⟩)
  dsimp only [Pt.U, Pt.locs, Pt.cells, Pt.slots] at X17 l17 y17 z17 st17 hQ17
  replace l17 : ([] ++ Lc17) = L17 := l17.symm
  subst l17 y17 z17
  obtain ⟨b17, k17, rfl, g_b17, sz17, Nq17, K17, V_b17⟩ := hQ17
  have N17 := Fr.app N0 Nq17
  have Z17k := Nat.le_trans Z0 K17.1
  have G17 := gd X17 hx hby
  obtain ⟨_, _, ⟨T19, L19, k19, n19⟩, -, X19, ⟨Lc19, hQ19, l19, y19, z19⟩, st19⟩ := Jvm.LawKit.callS X17 hx (y := (⟨"com/example/oceanus/oceanus/analysis/LinearIsConstantPinLaw", "make", "(IDDDD)[D"⟩ : MethodName)) hown (mvT hZ (wd hw 4 rfl)) (mvT hZ (wd hw 5 rfl)) (mvT hZ (wd hw 2 rfl)) (mvT hZ (wd hw 6 rfl)) (by decide) (backOf (W := 0) (rm2_0 l Z a0 hw [] x10 x12 x14 x16 T17.heap n0 Z17k ) hZ (wd hw 6 rfl) (wd hw 2 rfl) (by decide) (by decide)) (g := (mkF m 113 #[iv p0, iv p1, iv p2, iv p3, iv p4, iv (0 : Int32), dv x2, .second, dv x4, .second, dv x6, .second, dv x8, .second, dv x10, .second, dv x12, .second, dv x14, .second, dv x16, .second, rv b17, .unset, .unset, .unset] [(.double x16), (.double x14), (.double x12), (.double x10), (.int (0 : Int32))])) rfl (by rw [hml]; rfl) (argsL := [(.int (0 : Int32)), (.double x10), (.double x12), (.double x14), (.double x16)]) (rest := []) (lenOf pd_2 rfl) rfl (by show 2 * 0 + _ ≤ _; exact Nat.le_of_eq rfl) (hb hby at_113) (fun _ _ => ⟨rfl, rfl, (by decide : 1 + 1 ≤ _), (by decide : 0 + 0 ≤ _)⟩)
  dsimp only [Pt.U, Pt.locs, Pt.cells, Pt.slots] at X19 l19 y19 z19 st19 hQ19
  replace l19 : (([] ++ Lc17) ++ Lc19) = L19 := l19.symm
  subst l19 y19 z19
  obtain ⟨b19, k19, rfl, g_b19, sz19, Nq19, K19, V_b19⟩ := hQ19
  have ne_b17_b19 : b17 ≠ b19 := Nat.ne_of_lt (Nat.lt_of_lt_of_le V_b17.lt sz19)
  have N19 := Fr.app N17 Nq19
  have f21 := V_b17.keep K19 nin0
  have Z19k := Nat.le_trans Z17k K19.1
  have G19 := gd X19 hx hby
  obtain ⟨T24, h24, X24, e24, E24, A24, D24, -, st24⟩ := newO X19 hx hZ hown (wd hw 8 rfl) (wd hw 9 rfl) (wd hw 10 rfl) rfl (g := (mkF m 118 #[iv p0, iv p1, iv p2, iv p3, iv p4, iv (0 : Int32), dv x2, .second, dv x4, .second, dv x6, .second, dv x8, .second, dv x10, .second, dv x12, .second, dv x14, .second, dv x16, .second, rv b17, rv b19, .unset, .unset] [])) rfl (hb hby at_118) (by decide) (by decide)
  have G24 := gd X24 hx hby
  obtain ⟨b24, g24⟩ : ∃ z, z = T19.heap.size := ⟨_, rfl⟩
  rw [← g24] at A24 D24 st24
  have ne_b17_b24 : b17 ≠ b24 := Nat.ne_of_lt (Nat.lt_of_lt_of_le f21.lt (Nat.le_of_eq g24.symm))
  have ne_b19_b24 : b19 ≠ b24 := Nat.ne_of_lt (Nat.lt_of_lt_of_le V_b19.lt (Nat.le_of_eq g24.symm))
  have g_b24 : n0 ≤ b24 := Nat.le_trans Z19k (Nat.le_of_eq g24.symm)
  have f25 := f21.ext E24
  have f26 := V_b19.ext E24
  have Z24 := Nat.le_trans Z19k E24.1
  have F_lows_b24 : Fld Z h24 b24 "com/example/oceanus/oceanus/analysis/RoundingSpanArithmetic$Linear" "lows" "[D" .null := D24 (Or.inr (wd hw 23 rfl)) (ty := (.array .double)) (by decide)
  have F_highs_b24 : Fld Z h24 b24 "com/example/oceanus/oceanus/analysis/RoundingSpanArithmetic$Linear" "highs" "[D" .null := D24 (Or.inr (wd hw 25 rfl)) (ty := (.array .double)) (by decide)
  obtain ⟨_, _, ⟨T27, L27, k27, n27⟩, -, X27, ⟨Lc27, hQ27, l27, y27, z27⟩, st27⟩ := X24.specialBack hx (y := (⟨"com/example/oceanus/oceanus/analysis/RoundingSpanArithmetic$Linear", "<init>", "([D[D)V"⟩ : MethodName)) rfl hown (mvT hZ (wd hw 11 rfl)) (mvT hZ (wd hw 12 rfl)) (mvT hZ (wd hw 13 rfl)) (by decide) (backOf (W := 1) (rm3 l Z a0 hw [] b24 b17 b19 h24 n0 Z24 A24 g_b24 F_lows_b24 F_highs_b24) hZ (wd hw 13 rfl) (wd hw 10 rfl) (by decide) (by decide)) (g := (mkF m 126 #[iv p0, iv p1, iv p2, iv p3, iv p4, iv (0 : Int32), dv x2, .second, dv x4, .second, dv x6, .second, dv x8, .second, dv x10, .second, dv x12, .second, dv x14, .second, dv x16, .second, rv b17, rv b19, .unset, .unset] [(.ref b19), (.ref b17), (.ref b24), (.ref b24)])) rfl (by rw [hml]; rfl) (Steps.refl _) (a := b24) (argsL := [(.ref b17), (.ref b19)]) (rest := [(.ref b24)]) (lenOf pd_3 rfl) rfl (by show 2 * 0 + _ ≤ _; exact Nat.le_of_eq rfl) (hb hby at_126) (fun _ _ => ⟨rfl, e24, (by decide : 3 + 0 ≤ _), (by decide : 2 + 0 ≤ _)⟩)
  dsimp only [Pt.U, Pt.locs, Pt.cells, Pt.slots] at X27 l27 y27 z27 st27 hQ27
  replace l27 : ((([] ++ Lc17) ++ Lc19) ++ Lc27) = L27 := l27.symm
  subst l27 y27 z27
  obtain ⟨rfl, Nq27, K27, Eq27, Fq27_0, Fq27_1⟩ := hQ27
  have N27 := Fr.app N19 Nq27
  have f29 := f25.keep K27 (ninS ne_b17_b24 nin0)
  have f32 := f26.keep K27 (ninS ne_b19_b24 nin0)
  have f38 := A24.keep K27
  have Z27k := Nat.le_trans Z24 K27.1
  have G27 := gd X27 hx hby
  obtain ⟨cq39, kq39, q39a, q39b, q39c⟩ := isOf hZ rfl Eq27
  obtain ⟨_, _, ⟨T39, L39, k39, n39⟩, -, X39, ⟨Lc39, hQ39, l39, y39, z39⟩, st39⟩ := X27.virtualBack hx (y := (⟨"com/example/oceanus/oceanus/analysis/RoundingSpanArithmetic$Linear", "isConstant", "()Z"⟩ : MethodName)) (z := (⟨"com/example/oceanus/oceanus/analysis/RoundingSpanArithmetic$Linear", "isConstant", "()Z"⟩ : MethodName)) hown (mvT hZ (wd hw 26 rfl)) (mvT hZ (wd hw 27 rfl)) (notFace_of_selects (args := #[]) (mvT hZ (wd hw 29 rfl))) (mvT hZ (wd hw 29 rfl)) (mvT hZ (wd hw 28 rfl)) (by decide) (backOf (W := 0) (rm6_0 l Z a0 hw [] b24 T27.heap n0 Z27k Fq27_0 Fq27_1 f29 f32) hZ (wd hw 30 rfl) (wd hw 10 rfl) (by decide) (by decide)) q39a q39c (g := (mkF m 129 #[iv p0, iv p1, iv p2, iv p3, iv p4, iv (0 : Int32), dv x2, .second, dv x4, .second, dv x6, .second, dv x8, .second, dv x10, .second, dv x12, .second, dv x14, .second, dv x16, .second, rv b17, rv b19, .unset, .unset] [(.ref b24)])) rfl (by rw [hml]; rfl) (Steps.refl _) (argsL := []) (rest := []) (lenOf pd_4 rfl) rfl (by show 2 * 0 + _ ≤ _; exact Nat.le_of_eq rfl) (hb hby at_129) (fun _ _ => ⟨rfl, rfl, (by decide : 3 + 0 ≤ _), (by decide : 2 + 0 ≤ _)⟩)
  dsimp only [Pt.U, Pt.locs, Pt.cells, Pt.slots] at X39 l39 y39 z39 st39 hQ39
  replace l39 : (((([] ++ Lc17) ++ Lc19) ++ Lc27) ++ Lc39) = L39 := l39.symm
  subst l39 y39 z39
  obtain ⟨rfl, rfl, e39⟩ := hQ39
  simp only [List.append_nil, Nat.add_zero] at X39
  have G39 := gd X39 hx hby
  obtain ⟨fs, hr, hrun, hended, hW, hsame⟩ := X39.leave (v := some (.int (1 : Int32))) (fun h => by rw [Bd.returns] at h; cases h)
  refine ⟨_, _, pre0 _ ?_, hrun, hended, _, _, rfl, ?_, ⟨_, rfl⟩, hW, hsame.mono (by decide) (by decide)⟩
  · show Steps p.tables e below (s₁.setTop (mkF m 0 #[iv p0, iv p1, iv p2, iv p3, iv p4, .unset, .unset, .unset, .unset, .unset, .unset, .unset, .unset, .unset, .unset, .unset, .unset, .unset, .unset, .unset, .unset, .unset, .unset, .unset, .unset, .unset] [])) _
    refine miloadN 1 G0 at_0 rfl rfl ?_
    refine mbipush 3 G0 at_1 (v := (7 : Int32)) rfl rfl ?_
    refine miand 4 G0 at_3 rfl rfl ?_
    refine miconst 5 G0 at_4 (v := (5 : Int32)) rfl rfl ?_
    refine mirem 6 G0 at_5 (by decide) (irem_eq_mod _ _) rfl ?_
    refine castTop (g' := (mkF m 6 #[iv p0, iv p1, iv p2, iv p3, iv p4, .unset, .unset, .unset, .unset, .unset, .unset, .unset, .unset, .unset, .unset, .unset, .unset, .unset, .unset, .unset, .unset, .unset, .unset, .unset, .unset, .unset] [(.int (0 : Int32))])) (by rw [hpin6]) ?_
    refine mistore 8 G0 at_6 #[iv p0, iv p1, iv p2, iv p3, iv p4, iv (0 : Int32), .unset, .unset, .unset, .unset, .unset, .unset, .unset, .unset, .unset, .unset, .unset, .unset, .unset, .unset, .unset, .unset, .unset, .unset, .unset, .unset] rfl rfl ?_
    refine miloadN 9 G0 at_8 rfl rfl ?_
    refine miconst 10 G0 at_9 (v := (0 : Int32)) rfl rfl ?_
    refine miloadN 11 G0 at_10 rfl rfl ?_
    refine st1 _ ?_
    show Steps p.tables e below (T1.setTop (mkF m 14 #[iv p0, iv p1, iv p2, iv p3, iv p4, iv (0 : Int32), .unset, .unset, .unset, .unset, .unset, .unset, .unset, .unset, .unset, .unset, .unset, .unset, .unset, .unset, .unset, .unset, .unset, .unset, .unset, .unset] [(.double (rv1 p0 (0 : Int32) p3))])) _
    refine castTop (g' := (mkF m 14 #[iv p0, iv p1, iv p2, iv p3, iv p4, iv (0 : Int32), .unset, .unset, .unset, .unset, .unset, .unset, .unset, .unset, .unset, .unset, .unset, .unset, .unset, .unset, .unset, .unset, .unset, .unset, .unset, .unset] [(.double x2)])) (by rw [hx2]) ?_
    refine mdstore 16 G1 at_14 #[iv p0, iv p1, iv p2, iv p3, iv p4, iv (0 : Int32), dv x2, .second, .unset, .unset, .unset, .unset, .unset, .unset, .unset, .unset, .unset, .unset, .unset, .unset, .unset, .unset, .unset, .unset, .unset, .unset] rfl rfl ?_
    refine miloadN 17 G1 at_16 rfl rfl ?_
    refine miconst 18 G1 at_17 (v := (1 : Int32)) rfl rfl ?_
    refine miloadN 19 G1 at_18 rfl rfl ?_
    refine miconst 20 G1 at_19 (v := (1 : Int32)) rfl rfl ?_
    refine miadd 21 G1 at_20 rfl rfl ?_
    refine st3 _ ?_
    show Steps p.tables e below (T3.setTop (mkF m 24 #[iv p0, iv p1, iv p2, iv p3, iv p4, iv (0 : Int32), dv x2, .second, .unset, .unset, .unset, .unset, .unset, .unset, .unset, .unset, .unset, .unset, .unset, .unset, .unset, .unset, .unset, .unset, .unset, .unset] [(.double (rv1 p0 (1 : Int32) (p3 + (1 : Int32))))])) _
    refine castTop (g' := (mkF m 24 #[iv p0, iv p1, iv p2, iv p3, iv p4, iv (0 : Int32), dv x2, .second, .unset, .unset, .unset, .unset, .unset, .unset, .unset, .unset, .unset, .unset, .unset, .unset, .unset, .unset, .unset, .unset, .unset, .unset] [(.double x4)])) (by rw [hx4]) ?_
    refine mdstore 26 G3 at_24 #[iv p0, iv p1, iv p2, iv p3, iv p4, iv (0 : Int32), dv x2, .second, dv x4, .second, .unset, .unset, .unset, .unset, .unset, .unset, .unset, .unset, .unset, .unset, .unset, .unset, .unset, .unset, .unset, .unset] rfl rfl ?_
    refine miloadN 27 G3 at_26 rfl rfl ?_
    refine miconst 28 G3 at_27 (v := (2 : Int32)) rfl rfl ?_
    refine miloadN 29 G3 at_28 rfl rfl ?_
    refine miconst 30 G3 at_29 (v := (2 : Int32)) rfl rfl ?_
    refine miadd 31 G3 at_30 rfl rfl ?_
    refine st5 _ ?_
    show Steps p.tables e below (T5.setTop (mkF m 34 #[iv p0, iv p1, iv p2, iv p3, iv p4, iv (0 : Int32), dv x2, .second, dv x4, .second, .unset, .unset, .unset, .unset, .unset, .unset, .unset, .unset, .unset, .unset, .unset, .unset, .unset, .unset, .unset, .unset] [(.double (rv1 p0 (2 : Int32) (p3 + (2 : Int32))))])) _
    refine castTop (g' := (mkF m 34 #[iv p0, iv p1, iv p2, iv p3, iv p4, iv (0 : Int32), dv x2, .second, dv x4, .second, .unset, .unset, .unset, .unset, .unset, .unset, .unset, .unset, .unset, .unset, .unset, .unset, .unset, .unset, .unset, .unset] [(.double x6)])) (by rw [hx6]) ?_
    refine mdstore 36 G5 at_34 #[iv p0, iv p1, iv p2, iv p3, iv p4, iv (0 : Int32), dv x2, .second, dv x4, .second, dv x6, .second, .unset, .unset, .unset, .unset, .unset, .unset, .unset, .unset, .unset, .unset, .unset, .unset, .unset, .unset] rfl rfl ?_
    refine miloadN 37 G5 at_36 rfl rfl ?_
    refine miconst 38 G5 at_37 (v := (3 : Int32)) rfl rfl ?_
    refine miloadN 39 G5 at_38 rfl rfl ?_
    refine miconst 40 G5 at_39 (v := (3 : Int32)) rfl rfl ?_
    refine miadd 41 G5 at_40 rfl rfl ?_
    refine st7 _ ?_
    show Steps p.tables e below (T7.setTop (mkF m 44 #[iv p0, iv p1, iv p2, iv p3, iv p4, iv (0 : Int32), dv x2, .second, dv x4, .second, dv x6, .second, .unset, .unset, .unset, .unset, .unset, .unset, .unset, .unset, .unset, .unset, .unset, .unset, .unset, .unset] [(.double (rv1 p0 (3 : Int32) (p3 + (3 : Int32))))])) _
    refine castTop (g' := (mkF m 44 #[iv p0, iv p1, iv p2, iv p3, iv p4, iv (0 : Int32), dv x2, .second, dv x4, .second, dv x6, .second, .unset, .unset, .unset, .unset, .unset, .unset, .unset, .unset, .unset, .unset, .unset, .unset, .unset, .unset] [(.double x8)])) (by rw [hx8]) ?_
    refine mdstore 46 G7 at_44 #[iv p0, iv p1, iv p2, iv p3, iv p4, iv (0 : Int32), dv x2, .second, dv x4, .second, dv x6, .second, dv x8, .second, .unset, .unset, .unset, .unset, .unset, .unset, .unset, .unset, .unset, .unset, .unset, .unset] rfl rfl ?_
    refine miloadN 47 G7 at_46 rfl rfl ?_
    refine miconst 48 G7 at_47 (v := (0 : Int32)) rfl rfl ?_
    refine miload 50 G7 at_48 rfl rfl ?_
    refine st9 _ ?_
    show Steps p.tables e below (T9.setTop (mkF m 53 #[iv p0, iv p1, iv p2, iv p3, iv p4, iv (0 : Int32), dv x2, .second, dv x4, .second, dv x6, .second, dv x8, .second, .unset, .unset, .unset, .unset, .unset, .unset, .unset, .unset, .unset, .unset, .unset, .unset] [(.double (rv1 p1 (0 : Int32) p4))])) _
    refine castTop (g' := (mkF m 53 #[iv p0, iv p1, iv p2, iv p3, iv p4, iv (0 : Int32), dv x2, .second, dv x4, .second, dv x6, .second, dv x8, .second, .unset, .unset, .unset, .unset, .unset, .unset, .unset, .unset, .unset, .unset, .unset, .unset] [(.double x10)])) (by rw [hx10]) ?_
    refine mdstore 55 G9 at_53 #[iv p0, iv p1, iv p2, iv p3, iv p4, iv (0 : Int32), dv x2, .second, dv x4, .second, dv x6, .second, dv x8, .second, dv x10, .second, .unset, .unset, .unset, .unset, .unset, .unset, .unset, .unset, .unset, .unset] rfl rfl ?_
    refine miloadN 56 G9 at_55 rfl rfl ?_
    refine miconst 57 G9 at_56 (v := (1 : Int32)) rfl rfl ?_
    refine miload 59 G9 at_57 rfl rfl ?_
    refine miconst 60 G9 at_59 (v := (1 : Int32)) rfl rfl ?_
    refine misub 61 G9 at_60 rfl rfl ?_
    refine st11 _ ?_
    show Steps p.tables e below (T11.setTop (mkF m 64 #[iv p0, iv p1, iv p2, iv p3, iv p4, iv (0 : Int32), dv x2, .second, dv x4, .second, dv x6, .second, dv x8, .second, dv x10, .second, .unset, .unset, .unset, .unset, .unset, .unset, .unset, .unset, .unset, .unset] [(.double (rv1 p1 (1 : Int32) (p4 - (1 : Int32))))])) _
    refine castTop (g' := (mkF m 64 #[iv p0, iv p1, iv p2, iv p3, iv p4, iv (0 : Int32), dv x2, .second, dv x4, .second, dv x6, .second, dv x8, .second, dv x10, .second, .unset, .unset, .unset, .unset, .unset, .unset, .unset, .unset, .unset, .unset] [(.double x12)])) (by rw [hx12]) ?_
    refine mdstore 66 G11 at_64 #[iv p0, iv p1, iv p2, iv p3, iv p4, iv (0 : Int32), dv x2, .second, dv x4, .second, dv x6, .second, dv x8, .second, dv x10, .second, dv x12, .second, .unset, .unset, .unset, .unset, .unset, .unset, .unset, .unset] rfl rfl ?_
    refine miloadN 67 G11 at_66 rfl rfl ?_
    refine miconst 68 G11 at_67 (v := (2 : Int32)) rfl rfl ?_
    refine miload 70 G11 at_68 rfl rfl ?_
    refine miconst 71 G11 at_70 (v := (2 : Int32)) rfl rfl ?_
    refine misub 72 G11 at_71 rfl rfl ?_
    refine st13 _ ?_
    show Steps p.tables e below (T13.setTop (mkF m 75 #[iv p0, iv p1, iv p2, iv p3, iv p4, iv (0 : Int32), dv x2, .second, dv x4, .second, dv x6, .second, dv x8, .second, dv x10, .second, dv x12, .second, .unset, .unset, .unset, .unset, .unset, .unset, .unset, .unset] [(.double (rv1 p1 (2 : Int32) (p4 - (2 : Int32))))])) _
    refine castTop (g' := (mkF m 75 #[iv p0, iv p1, iv p2, iv p3, iv p4, iv (0 : Int32), dv x2, .second, dv x4, .second, dv x6, .second, dv x8, .second, dv x10, .second, dv x12, .second, .unset, .unset, .unset, .unset, .unset, .unset, .unset, .unset] [(.double x14)])) (by rw [hx14]) ?_
    refine mdstore 77 G13 at_75 #[iv p0, iv p1, iv p2, iv p3, iv p4, iv (0 : Int32), dv x2, .second, dv x4, .second, dv x6, .second, dv x8, .second, dv x10, .second, dv x12, .second, dv x14, .second, .unset, .unset, .unset, .unset, .unset, .unset] rfl rfl ?_
    refine miloadN 78 G13 at_77 rfl rfl ?_
    refine miconst 79 G13 at_78 (v := (3 : Int32)) rfl rfl ?_
    refine miload 81 G13 at_79 rfl rfl ?_
    refine miconst 82 G13 at_81 (v := (3 : Int32)) rfl rfl ?_
    refine misub 83 G13 at_82 rfl rfl ?_
    refine st15 _ ?_
    show Steps p.tables e below (T15.setTop (mkF m 86 #[iv p0, iv p1, iv p2, iv p3, iv p4, iv (0 : Int32), dv x2, .second, dv x4, .second, dv x6, .second, dv x8, .second, dv x10, .second, dv x12, .second, dv x14, .second, .unset, .unset, .unset, .unset, .unset, .unset] [(.double (rv1 p1 (3 : Int32) (p4 - (3 : Int32))))])) _
    refine castTop (g' := (mkF m 86 #[iv p0, iv p1, iv p2, iv p3, iv p4, iv (0 : Int32), dv x2, .second, dv x4, .second, dv x6, .second, dv x8, .second, dv x10, .second, dv x12, .second, dv x14, .second, .unset, .unset, .unset, .unset, .unset, .unset] [(.double x16)])) (by rw [hx16]) ?_
    refine mdstore 88 G15 at_86 #[iv p0, iv p1, iv p2, iv p3, iv p4, iv (0 : Int32), dv x2, .second, dv x4, .second, dv x6, .second, dv x8, .second, dv x10, .second, dv x12, .second, dv x14, .second, dv x16, .second, .unset, .unset, .unset, .unset] rfl rfl ?_
    refine miload 90 G15 at_88 rfl rfl ?_
    refine mdload 92 G15 at_90 rfl rfl ?_
    refine mdload 94 G15 at_92 rfl rfl ?_
    refine mdload 96 G15 at_94 rfl rfl ?_
    refine mdload 98 G15 at_96 rfl rfl ?_
    refine st17 _ ?_
    show Steps p.tables e below (T17.setTop (mkF m 101 #[iv p0, iv p1, iv p2, iv p3, iv p4, iv (0 : Int32), dv x2, .second, dv x4, .second, dv x6, .second, dv x8, .second, dv x10, .second, dv x12, .second, dv x14, .second, dv x16, .second, .unset, .unset, .unset, .unset] [(.ref b17)])) _
    refine mastore 103 G17 at_101 rfl #[iv p0, iv p1, iv p2, iv p3, iv p4, iv (0 : Int32), dv x2, .second, dv x4, .second, dv x6, .second, dv x8, .second, dv x10, .second, dv x12, .second, dv x14, .second, dv x16, .second, rv b17, .unset, .unset, .unset] rfl rfl ?_
    refine miload 105 G17 at_103 rfl rfl ?_
    refine mdload 107 G17 at_105 rfl rfl ?_
    refine mdload 109 G17 at_107 rfl rfl ?_
    refine mdload 111 G17 at_109 rfl rfl ?_
    refine mdload 113 G17 at_111 rfl rfl ?_
    refine st19 _ ?_
    show Steps p.tables e below (T19.setTop (mkF m 116 #[iv p0, iv p1, iv p2, iv p3, iv p4, iv (0 : Int32), dv x2, .second, dv x4, .second, dv x6, .second, dv x8, .second, dv x10, .second, dv x12, .second, dv x14, .second, dv x16, .second, rv b17, .unset, .unset, .unset] [(.ref b19)])) _
    refine mastore 118 G19 at_116 rfl #[iv p0, iv p1, iv p2, iv p3, iv p4, iv (0 : Int32), dv x2, .second, dv x4, .second, dv x6, .second, dv x8, .second, dv x10, .second, dv x12, .second, dv x14, .second, dv x16, .second, rv b17, rv b19, .unset, .unset] rfl rfl ?_
    refine st24 _ ?_
    show Steps p.tables e below (T24.setTop (mkF m 121 #[iv p0, iv p1, iv p2, iv p3, iv p4, iv (0 : Int32), dv x2, .second, dv x4, .second, dv x6, .second, dv x8, .second, dv x10, .second, dv x12, .second, dv x14, .second, dv x16, .second, rv b17, rv b19, .unset, .unset] [(.ref b24)])) _
    refine mdup 122 G24 at_121 rfl rfl ?_
    refine maload 124 G24 at_122 rfl rfl rfl ?_
    refine maload 126 G24 at_124 rfl rfl rfl ?_
    refine st27.trans ?_
    show Steps p.tables e below (T27.setTop (mkF m 129 #[iv p0, iv p1, iv p2, iv p3, iv p4, iv (0 : Int32), dv x2, .second, dv x4, .second, dv x6, .second, dv x8, .second, dv x10, .second, dv x12, .second, dv x14, .second, dv x16, .second, rv b17, rv b19, .unset, .unset] [(.ref b24)])) _
    refine st39.trans ?_
    show Steps p.tables e below (T39.setTop (mkF m 132 #[iv p0, iv p1, iv p2, iv p3, iv p4, iv (0 : Int32), dv x2, .second, dv x4, .second, dv x6, .second, dv x8, .second, dv x10, .second, dv x12, .second, dv x14, .second, dv x16, .second, rv b17, rv b19, .unset, .unset] [(.int (1 : Int32))])) _
    refine mistore 134 G39 at_132 #[iv p0, iv p1, iv p2, iv p3, iv p4, iv (0 : Int32), dv x2, .second, dv x4, .second, dv x6, .second, dv x8, .second, dv x10, .second, dv x12, .second, dv x14, .second, dv x16, .second, rv b17, rv b19, iv (1 : Int32), .unset] rfl rfl ?_
    refine miload 136 G39 at_134 rfl rfl ?_
    refine miconst 137 G39 at_136 (v := (1 : Int32)) rfl rfl ?_
    refine micmpYes 154 G39 at_137 (flt (by decide : ¬ ((1 : Int32) < (0 : Int32)))).2.2.2 (by decide) rfl ?_
    refine miload 156 G39 at_154 rfl rfl ?_
    refine miconst 157 G39 at_156 (v := (2 : Int32)) rfl rfl ?_
    refine micmpYes 174 G39 at_157 (flt (by decide : ¬ ((2 : Int32) < (0 : Int32)))).2.2.2 (by decide) rfl ?_
    refine miload 176 G39 at_174 rfl rfl ?_
    refine miconst 177 G39 at_176 (v := (3 : Int32)) rfl rfl ?_
    refine micmpYes 194 G39 at_177 (flt (by decide : ¬ ((3 : Int32) < (0 : Int32)))).2.2.2 (by decide) rfl ?_
    refine miconst 195 G39 at_194 (v := (1 : Int32)) rfl rfl ?_
    refine mgoto 199 G39 at_195 (by decide) rfl ?_
    refine mistore 201 G39 at_199 #[iv p0, iv p1, iv p2, iv p3, iv p4, iv (0 : Int32), dv x2, .second, dv x4, .second, dv x6, .second, dv x8, .second, dv x10, .second, dv x12, .second, dv x14, .second, dv x16, .second, rv b17, rv b19, iv (1 : Int32), iv (1 : Int32)] rfl rfl ?_
    refine miload 203 G39 at_201 rfl rfl ?_
    refine miload 205 G39 at_203 rfl rfl ?_
    refine micmpNo 208 G39 at_205 (teq (by decide : (1 : Int32) = (1 : Int32))).2 rfl ?_
    refine miconst 209 G39 at_208 (v := (1 : Int32)) rfl rfl ?_
    refine mgoto 213 G39 at_209 (by decide) rfl ?_
    exact retN X39 hx (t := .boolean) Bd.returns (by simp) (hb hby at_213) hr
  · show Q0 Z p0 p1 p2 p3 p4 h0 n0 _ T39.heap _
    rw [e39]
    exact ⟨rfl, N27⟩
theorem d2_9 : decode method_4_code 9 = .ok (.aload 9, 2) := by decide +kernel
theorem d2_11 : decode method_4_code 11 = .ok (.iconst 0, 1) := by decide +kernel
theorem d2_12 : decode method_4_code 12 = .ok (.dload_n 1, 1) := by decide +kernel
theorem d2_13 : decode method_4_code 13 = .ok (.dastore, 1) := by decide +kernel
theorem ef2_1 (m : MethodId) (d1 : UInt64) (d2 : UInt64) (d3 : UInt64) (d4 : UInt64) : entryFrame m #[(.int (1 : Int32)), (.double d1), (.double d2), (.double d3), (.double d4)] 10 = mkF m 0 #[iv (1 : Int32), dv d1, .second, dv d2, .second, dv d3, .second, dv d4, .second, .unset] [] := by first | (simp [entryFrame, mkF, argsToLocals, Value.category]; done) | rfl
abbrev room_of_2_1 : Room := { frames := 0, cells := 1, slots := 1, locals := 0 }
def Q2_1 (Z : State) (d1 : UInt64) (d2 : UInt64) (d3 : UInt64) (d4 : UInt64) (h0 : Heap) (n0 : Nat) (v : Option Value) (h : Heap) (L : List Loc) : Prop := ∃ (b : Addr) (k : ClassId), v = some (.ref b) ∧ n0 ≤ b ∧ h0.size ≤ b ∧ Fr n0 L ∧ Keep h0 h [] ∧ Arv Z h b k .double (1 : Int32) [(.double d1)] (.double (0 : UInt64))
set_option maxRecDepth 65536 in
set_option maxHeartbeats 40000000 in
theorem rm2_1 (l : Launch) (Z : State) (a0 : Array Value) (hw : ∀ d ∈ tables_1, d.before a0 Z = true) (ws : List Jvm.Cond) (d1 : UInt64) (d2 : UInt64) (d3 : UInt64) (d4 : UInt64)  (h0 : Heap) (n0 : Nat) (Z0 : n0 ≤ h0.size) :
    MetFree l (⟨"com/example/oceanus/oceanus/analysis/LinearIsConstantPinLaw", "make", "(IDDDD)[D"⟩ : MethodName) (head1 (Jvm.Cond.code (⟨"com/example/oceanus/oceanus/analysis/LinearIsConstantPinLaw", "make", "(IDDDD)[D"⟩ : MethodName) method_4_code 10 (some (.array .double)) :: ws) (room_of_2_1)) (fun a U => a = #[(.int (1 : Int32)), (.double d1), (.double d2), (.double d3), (.double d4)] ∧ Z.Warmed39 U.vm ∧ U.heap = h0) (fun _ _ _ _ _ => True) (fun _ U o U' => ∃ v L, o = .returned v ∧ Q2_1 Z d1 d2 d3 d4 h0 n0 v U'.heap L ∧ FrameEnd U o U' L (room_of_2_1).cells (room_of_2_1).slots) := by
  refine MetFree.of_bodySF (plainFor_of_name pn_2) hisR ?_
  intro p e s m args below meth c s₁ Bd hml0 hP hK
  obtain ⟨rfl, hZ, hh⟩ := hP
  have hx := Bd.exec
  have hby := Bd.bytes
  have hml : c.maxLocals = 10 := hml0
  have hown : s.vm.findClass "com/example/oceanus/oceanus/analysis/LinearIsConstantPinLaw" = some m.cls := findClass_of_methodNamed Bd.named
  have hnm := (name_of_methodNamed Bd.named Bd.method).1
  have X0 : Stand p l e (room_of_2_1) s m #[(.int (1 : Int32)), (.double d1), (.double d2), (.double d3), (.double d4)] below meth c s₁ [] 0 0 := Stand.of_body Bd
  have e0 : s₁.heap = h0 := by rw [← hh, Bd.state]; rfl
  have N0 := Fr.nil n0
  have G0 := gd X0 hx hby
  have pre0 : ∀ t, Steps p.tables e below (s₁.setTop (mkF m 0 #[iv (1 : Int32), dv d1, .second, dv d2, .second, dv d3, .second, dv d4, .second, .unset] [])) t → Steps p.tables e below (s₁.setTop (entryFrame m #[(.int (1 : Int32)), (.double d1), (.double d2), (.double d3), (.double d4)] 10)) t := fun t k => castTop (ef2_1 m d1 d2 d3 d4) k
  obtain ⟨T1, h1, k1, X1, e1, E1, A1, st1⟩ := newP X0 hx hZ (wd hw 7 rfl) e0 (g := (mkF m 1 #[iv (1 : Int32), dv d1, .second, dv d2, .second, dv d3, .second, dv d4, .second, .unset] [(.int (1 : Int32))])) rfl (hb hby d2_1) rfl (by decide) (cap := 1) (by decide) (by decide) (by decide) (by decide)
  have G1 := gd X1 hx hby
  obtain ⟨b1, g1⟩ : ∃ z, z = h0.size := ⟨_, rfl⟩
  rw [← g1] at A1 st1
  have g_b1 : n0 ≤ b1 := Nat.le_trans Z0 (Nat.le_of_eq g1.symm)
  have sz_b1 : h0.size ≤ b1 := Nat.le_trans (Keep.refl h0 []).1 (Nat.le_of_eq g1.symm)
  have Z1 := Nat.le_trans Z0 E1.1
  have K1 : Keep h0 h1 [] := (Keep.refl h0 []).ext E1
  have V_b1 : Arv Z h1 b1 k1 .double (1 : Int32) [(.double (0 : UInt64))] (.double (0 : UInt64)) := (Arv.new A1 (by decide)).pad (pad_rep [] (.double (0 : UInt64)) 1)
  obtain ⟨T2, h2, X2, e2, W2, Vs2, st2⟩ := own_stD X1 hx hby hZ e1 V_b1 (j := (0 : Int32)) (v := d1) d2_13 ⟨by decide, by decide⟩ 0 rfl (Nat.le_of_ble_eq_true rfl) #[iv (1 : Int32), dv d1, .second, dv d2, .second, dv d3, .second, dv d4, .second, rv b1] [] 14 rfl
  have G2 := gd X2 hx hby
  have N2 := Fr.snoc X2 N0 g_b1
  have Z2 := Nat.le_trans Z1 (Keep.of_wr W2).1
  have K2 : Keep h0 h2 [] := K1.wr W2 (Or.inr sz_b1)
  have V2 : Arv Z h2 b1 k1 .double (1 : Int32) [(.double d1)] (.double (0 : UInt64)) := Vs2
  obtain ⟨fs, hr, hrun, hended, hW, hsame⟩ := X2.leave (v := some (.ref b1)) (fun h => by rw [Bd.returns] at h; cases h)
  refine ⟨_, _, pre0 _ ?_, hrun, hended, _, _, rfl, ?_, ⟨_, rfl⟩, hW, hsame.mono (by decide) (by decide)⟩
  · show Steps p.tables e below (s₁.setTop (mkF m 0 #[iv (1 : Int32), dv d1, .second, dv d2, .second, dv d3, .second, dv d4, .second, .unset] [])) _
    refine miloadN 1 G0 d2_0 rfl rfl ?_
    refine st1 _ ?_
    show Steps p.tables e below (T1.setTop (mkF m 3 #[iv (1 : Int32), dv d1, .second, dv d2, .second, dv d3, .second, dv d4, .second, .unset] [(.ref b1)])) _
    refine mastore 5 G1 d2_3 rfl #[iv (1 : Int32), dv d1, .second, dv d2, .second, dv d3, .second, dv d4, .second, rv b1] rfl rfl ?_
    refine miloadN 6 G1 d2_5 rfl rfl ?_
    refine mifNo 9 G1 d2_6 ((if0 _ _).trans (tlt (by decide : (0 : Int32) < (1 : Int32))).2.2.2) rfl ?_
    refine maload 11 G1 d2_9 rfl rfl rfl ?_
    refine miconst 12 G1 d2_11 (v := (0 : Int32)) rfl rfl ?_
    refine mdloadN 13 G1 d2_12 rfl rfl ?_
    refine st2 _ ?_
    refine miloadN 15 G2 d2_14 rfl rfl ?_
    refine miconst 16 G2 d2_15 (v := (1 : Int32)) rfl rfl ?_
    refine micmpYes 24 G2 d2_16 (flt (by decide : ¬ ((1 : Int32) < (1 : Int32)))).2.2.2 (by decide) rfl ?_
    refine miloadN 25 G2 d2_24 rfl rfl ?_
    refine miconst 26 G2 d2_25 (v := (2 : Int32)) rfl rfl ?_
    refine micmpYes 35 G2 d2_26 (flt (by decide : ¬ ((2 : Int32) < (1 : Int32)))).2.2.2 (by decide) rfl ?_
    refine miloadN 36 G2 d2_35 rfl rfl ?_
    refine miconst 37 G2 d2_36 (v := (3 : Int32)) rfl rfl ?_
    refine micmpYes 46 G2 d2_37 (flt (by decide : ¬ ((3 : Int32) < (1 : Int32)))).2.2.2 (by decide) rfl ?_
    refine maload 48 G2 d2_46 rfl rfl rfl ?_
    exact retOut X2 hx Bd.returns rfl (Or.inr (Or.inr (Or.inr (Or.inr ⟨rfl, rfl, rfl⟩)))) (hb hby d2_48) hr
  · show Q2_1 Z d1 d2 d3 d4 h0 n0 _ T2.heap _
    rw [e2]
    exact ⟨b1, k1, rfl, g_b1, sz_b1, N2, K2, V2⟩
theorem ef6_1 (m : MethodId) (o0 : Addr) : entryFrame m #[(.ref o0)] 3 = mkF m 0 #[rv o0, .unset, .unset] [] := by first | (simp [entryFrame, mkF, argsToLocals, Value.category]; done) | rfl
abbrev room_of_6_1 : Room := { frames := 0, cells := 0, slots := 0, locals := 0 }
def Q6_1 (Z : State) (o0 : Addr) (w1 : Addr) (w2 : Addr) (k1 : ClassId) (a0 : UInt64) (k2 : ClassId) (c0 : UInt64) (h0 : Heap) (n0 : Nat) (v : Option Value) (h : Heap) (L : List Loc) : Prop := v = some (.int (1 : Int32)) ∧ L = [] ∧ h = h0
set_option maxRecDepth 65536 in
set_option maxHeartbeats 40000000 in
theorem rm6_1 (l : Launch) (Z : State) (a0 : Array Value) (hw : ∀ d ∈ tables_1, d.before a0 Z = true) (ws : List Jvm.Cond) (o0 : Addr) {w1 : Addr} {w2 : Addr} {k1 : ClassId} {a0 : UInt64} {k2 : ClassId} {c0 : UInt64} (h0 : Heap) (n0 : Nat) (Z0 : n0 ≤ h0.size) (F_lows_o0 : Fld Z h0 o0 "com/example/oceanus/oceanus/analysis/RoundingSpanArithmetic$Linear" "lows" "[D" (.ref w1)) (F_highs_o0 : Fld Z h0 o0 "com/example/oceanus/oceanus/analysis/RoundingSpanArithmetic$Linear" "highs" "[D" (.ref w2)) (V_w1 : Arv Z h0 w1 k1 .double (1 : Int32) [(.double a0)] (.double (0 : UInt64))) (V_w2 : Arv Z h0 w2 k2 .double (1 : Int32) [(.double c0)] (.double (0 : UInt64))) :
    MetFree l (⟨"com/example/oceanus/oceanus/analysis/RoundingSpanArithmetic$Linear", "isConstant", "()Z"⟩ : MethodName) (head1 (Jvm.Cond.code (⟨"com/example/oceanus/oceanus/analysis/RoundingSpanArithmetic$Linear", "isConstant", "()Z"⟩ : MethodName) prog_23_method_6_code 3 (some .boolean) :: ws) (room_of_6_1)) (fun a U => a = #[(.ref o0)] ∧ Z.Warmed39 U.vm ∧ U.heap = h0) (fun _ _ _ _ _ => True) (fun _ U o U' => ∃ v L, o = .returned v ∧ Q6_1 Z o0 w1 w2 k1 a0 k2 c0 h0 n0 v U'.heap L ∧ FrameEnd U o U' L (room_of_6_1).cells (room_of_6_1).slots) := by
  refine MetFree.of_bodySF (plainFor_of_name pn_6) hisR ?_
  intro p e s m args below meth c s₁ Bd hml0 hP hK
  obtain ⟨rfl, hZ, hh⟩ := hP
  have hx := Bd.exec
  have hby := Bd.bytes
  have hml : c.maxLocals = 3 := hml0
  have hown : s.vm.findClass "com/example/oceanus/oceanus/analysis/RoundingSpanArithmetic$Linear" = some m.cls := findClass_of_methodNamed Bd.named
  have hnm := (name_of_methodNamed Bd.named Bd.method).1
  have X0 : Stand p l e (room_of_6_1) s m #[(.ref o0)] below meth c s₁ [] 0 0 := Stand.of_body Bd
  have e0 : s₁.heap = h0 := by rw [← hh, Bd.state]; rfl
  have N0 := Fr.nil n0
  have G0 := gd X0 hx hby
  have pre0 : ∀ t, Steps p.tables e below (s₁.setTop (mkF m 0 #[rv o0, .unset, .unset] [])) t → Steps p.tables e below (s₁.setTop (entryFrame m #[(.ref o0)] 3)) t := fun t k => castTop (ef6_1 m o0) k
  obtain ⟨T1, X1, e1, st1⟩ := getF X0 hx hZ hown (host := "") (Or.inl (wd hw 22 rfl)) Via.refl e0 F_lows_o0 (g := (mkF m 10 #[rv o0, iv (1 : Int32), iv (0 : Int32)] [(.ref o0), (.int (0 : Int32))])) rfl rfl (hb hby d6_10)
  have G1 := gd X1 hx hby
  obtain ⟨fs, hr, hrun, hended, hW, hsame⟩ := X1.leave (v := some (.int (1 : Int32))) (fun h => by rw [Bd.returns] at h; cases h)
  refine ⟨_, _, pre0 _ ?_, hrun, hended, _, _, rfl, ?_, ⟨_, rfl⟩, hW, hsame.mono (by decide) (by decide)⟩
  · show Steps p.tables e below (s₁.setTop (mkF m 0 #[rv o0, .unset, .unset] [])) _
    refine miconst 1 G0 d6_0 (v := (1 : Int32)) rfl rfl ?_
    refine mistoreN 2 G0 d6_1 #[rv o0, iv (1 : Int32), .unset] rfl rfl ?_
    refine miconst 3 G0 d6_2 (v := (0 : Int32)) rfl rfl ?_
    refine mistoreN 4 G0 d6_3 #[rv o0, iv (1 : Int32), iv (0 : Int32)] rfl rfl ?_
    refine miloadN 5 G0 d6_4 rfl rfl ?_
    refine mifNo 8 G0 d6_5 ((if0 _ _).trans (feq (by decide : ¬ ((1 : Int32) = (0 : Int32)))).1) rfl ?_
    refine miloadN 9 G0 d6_8 rfl rfl ?_
    refine maloadN 10 G0 d6_9 rfl rfl rfl ?_
    refine st1 _ ?_
    show Steps p.tables e below (T1.setTop (mkF m 13 #[rv o0, iv (1 : Int32), iv (0 : Int32)] [(.ref w1), (.int (0 : Int32))])) _
    refine mlen 14 X1 hx hby hZ e1 V_w1 d6_13 rfl ?_
    refine miconst 15 G1 d6_14 (v := (1 : Int32)) rfl rfl ?_
    refine misub 16 G1 d6_15 (v := (0 : Int32)) rfl rfl ?_
    refine micmpYes 53 G1 d6_16 (flt (by decide : ¬ ((0 : Int32) < (0 : Int32)))).2.1 (by decide) rfl ?_
    refine miloadN 54 G1 d6_53 rfl rfl ?_
    exact retOut X1 hx Bd.returns (by first | rfl | ((repeat' split) <;> rfl)) (Or.inl ⟨rfl, by simp, _, rfl⟩) (hb hby d6_54) hr
  · show Q6_1 Z o0 w1 w2 k1 a0 k2 c0 h0 n0 _ T1.heap _
    rw [e1]
    exact ⟨rfl, rfl, rfl⟩
theorem ef0_1 (m : MethodId) (p0 : Int32) (p1 : Int32) (p2 : Int32) (p3 : Int32) (p4 : Int32) : entryFrame m #[(.int p0), (.int p1), (.int p2), (.int p3), (.int p4)] maxLocals = mkF m 0 #[iv p0, iv p1, iv p2, iv p3, iv p4, .unset, .unset, .unset, .unset, .unset, .unset, .unset, .unset, .unset, .unset, .unset, .unset, .unset, .unset, .unset, .unset, .unset, .unset, .unset, .unset, .unset] [] := by first | (simp [entryFrame, mkF, argsToLocals, Value.category, maxLocals]; done) | rfl
set_option maxRecDepth 65536 in
set_option maxHeartbeats 40000000 in
theorem rm0_1 (l : Launch) (Z : State) (a0 : Array Value) (hw : ∀ d ∈ tables_1, d.before a0 Z = true) (ws : List Jvm.Cond) (p0 : Int32) (p1 : Int32) (p2 : Int32) (p3 : Int32) (p4 : Int32)  (h0 : Heap) (n0 : Nat) (Z0 : n0 ≤ h0.size) (hpin6 : ((p2 &&& (7 : Int32)) % (5 : Int32)) = (1 : Int32)) :
    MetFree l x (head1 (Jvm.Cond.code x code maxLocals ret :: ws) room_1) (fun a U => a = #[(.int p0), (.int p1), (.int p2), (.int p3), (.int p4)] ∧ Z.Warmed39 U.vm ∧ U.heap = h0) (fun _ _ _ _ _ => True) (fun _ U o U' => ∃ v L, o = .returned v ∧ Q0 Z p0 p1 p2 p3 p4 h0 n0 v U'.heap L ∧ FrameEnd U o U' L room_1.cells room_1.slots) := by
  refine MetFree.of_bodySF (plainFor_of_name pn_0) hisR ?_
  intro p e s m args below meth c s₁ Bd hml0 hP hK
  obtain ⟨rfl, hZ, hh⟩ := hP
  have hx := Bd.exec
  have hby := Bd.bytes
  have hml : c.maxLocals = 26 := hml0
  have hown : s.vm.findClass "com/example/oceanus/oceanus/analysis/LinearIsConstantPinLaw" = some m.cls := findClass_of_methodNamed Bd.named
  have hnm := (name_of_methodNamed Bd.named Bd.method).1
  have X0 : Stand p l e room_1 s m #[(.int p0), (.int p1), (.int p2), (.int p3), (.int p4)] below meth c s₁ [] 0 0 := Stand.of_body Bd
  have e0 : s₁.heap = h0 := by rw [← hh, Bd.state]; rfl
  have N0 := Fr.nil n0
  have G0 := gd X0 hx hby
  have pre0 : ∀ t, Steps p.tables e below (s₁.setTop (mkF m 0 #[iv p0, iv p1, iv p2, iv p3, iv p4, .unset, .unset, .unset, .unset, .unset, .unset, .unset, .unset, .unset, .unset, .unset, .unset, .unset, .unset, .unset, .unset, .unset, .unset, .unset, .unset, .unset] [])) t → Steps p.tables e below (s₁.setTop (entryFrame m #[(.int p0), (.int p1), (.int p2), (.int p3), (.int p4)] maxLocals)) t := fun t k => castTop (ef0_1 m p0 p1 p2 p3 p4) k
  obtain ⟨_, _, ⟨T1, L1, k1, n1⟩, -, X1, ⟨Lc1, hQ1, l1, y1, z1⟩, st1⟩ := Jvm.LawKit.callS X0 hx (y := (⟨"com/example/oceanus/oceanus/analysis/LinearIsConstantPinLaw", "entry", "(III)D"⟩ : MethodName)) hown (mvT hZ (wd hw 0 rfl)) (mvT hZ (wd hw 1 rfl)) (mvT hZ (wd hw 2 rfl)) (mvT hZ (wd hw 3 rfl)) (by decide) (backOf (W := 0) (rm1 l Z a0 hw [] p0 (0 : Int32) p3 h0 n0 Z0 ) hZ (wd hw 3 rfl) (wd hw 2 rfl) (by decide) (by decide)) (g := (mkF m 11 #[iv p0, iv p1, iv p2, iv p3, iv p4, iv (1 : Int32), .unset, .unset, .unset, .unset, .unset, .unset, .unset, .unset, .unset, .unset, .unset, .unset, .unset, .unset, .unset, .unset, .unset, .unset, .unset, .unset] [(.int p3), (.int (0 : Int32)), (.int p0)])) rfl (by rw [hml]; rfl) (argsL := [(.int p0), (.int (0 : Int32)), (.int p3)]) (rest := []) (lenOf pd_1 rfl) rfl (by show 2 * 0 + _ ≤ _; exact Nat.le_of_eq rfl) (hb hby at_11) (fun _ _ => ⟨rfl, e0, (by decide : 0 + 0 ≤ _), (by decide : 0 + 0 ≤ _)⟩)
  dsimp only [Pt.U, Pt.locs, Pt.cells, Pt.slots] at X1 l1 y1 z1 st1 hQ1
  replace l1 : ([] ++ Lc1) = L1 := l1.symm
  subst l1 y1 z1
  obtain ⟨rfl, rfl, e1⟩ := hQ1
  simp only [List.append_nil, Nat.add_zero] at X1
  have G1 := gd X1 hx hby
  obtain ⟨x2, hx2⟩ : ∃ z : UInt64, z = (rv1 p0 (0 : Int32) p3) := ⟨_, rfl⟩
  obtain ⟨_, _, ⟨T3, L3, k3, n3⟩, -, X3, ⟨Lc3, hQ3, l3, y3, z3⟩, st3⟩ := Jvm.LawKit.callS X1 hx (y := (⟨"com/example/oceanus/oceanus/analysis/LinearIsConstantPinLaw", "entry", "(III)D"⟩ : MethodName)) hown (mvT hZ (wd hw 0 rfl)) (mvT hZ (wd hw 1 rfl)) (mvT hZ (wd hw 2 rfl)) (mvT hZ (wd hw 3 rfl)) (by decide) (backOf (W := 0) (rm1 l Z a0 hw [] p0 (1 : Int32) ((p3 + (1 : Int32))) h0 n0 Z0 ) hZ (wd hw 3 rfl) (wd hw 2 rfl) (by decide) (by decide)) (g := (mkF m 21 #[iv p0, iv p1, iv p2, iv p3, iv p4, iv (1 : Int32), dv x2, .second, .unset, .unset, .unset, .unset, .unset, .unset, .unset, .unset, .unset, .unset, .unset, .unset, .unset, .unset, .unset, .unset, .unset, .unset] [(.int (p3 + (1 : Int32))), (.int (1 : Int32)), (.int p0)])) rfl (by rw [hml]; rfl) (argsL := [(.int p0), (.int (1 : Int32)), (.int (p3 + (1 : Int32)))]) (rest := []) (lenOf pd_1 rfl) rfl (by show 2 * 0 + _ ≤ _; exact Nat.le_of_eq rfl) (hb hby at_21) (fun _ _ => ⟨rfl, e1, (by decide : 0 + 0 ≤ _), (by decide : 0 + 0 ≤ _)⟩)
  dsimp only [Pt.U, Pt.locs, Pt.cells, Pt.slots] at X3 l3 y3 z3 st3 hQ3
  replace l3 : ([] ++ Lc3) = L3 := l3.symm
  subst l3 y3 z3
  obtain ⟨rfl, rfl, e3⟩ := hQ3
  simp only [List.append_nil, Nat.add_zero] at X3
  have G3 := gd X3 hx hby
  obtain ⟨x4, hx4⟩ : ∃ z : UInt64, z = (rv1 p0 (1 : Int32) (p3 + (1 : Int32))) := ⟨_, rfl⟩
  obtain ⟨_, _, ⟨T5, L5, k5, n5⟩, -, X5, ⟨Lc5, hQ5, l5, y5, z5⟩, st5⟩ := Jvm.LawKit.callS X3 hx (y := (⟨"com/example/oceanus/oceanus/analysis/LinearIsConstantPinLaw", "entry", "(III)D"⟩ : MethodName)) hown (mvT hZ (wd hw 0 rfl)) (mvT hZ (wd hw 1 rfl)) (mvT hZ (wd hw 2 rfl)) (mvT hZ (wd hw 3 rfl)) (by decide) (backOf (W := 0) (rm1 l Z a0 hw [] p0 (2 : Int32) ((p3 + (2 : Int32))) h0 n0 Z0 ) hZ (wd hw 3 rfl) (wd hw 2 rfl) (by decide) (by decide)) (g := (mkF m 31 #[iv p0, iv p1, iv p2, iv p3, iv p4, iv (1 : Int32), dv x2, .second, dv x4, .second, .unset, .unset, .unset, .unset, .unset, .unset, .unset, .unset, .unset, .unset, .unset, .unset, .unset, .unset, .unset, .unset] [(.int (p3 + (2 : Int32))), (.int (2 : Int32)), (.int p0)])) rfl (by rw [hml]; rfl) (argsL := [(.int p0), (.int (2 : Int32)), (.int (p3 + (2 : Int32)))]) (rest := []) (lenOf pd_1 rfl) rfl (by show 2 * 0 + _ ≤ _; exact Nat.le_of_eq rfl) (hb hby at_31) (fun _ _ => ⟨rfl, e3, (by decide : 0 + 0 ≤ _), (by decide : 0 + 0 ≤ _)⟩)
  dsimp only [Pt.U, Pt.locs, Pt.cells, Pt.slots] at X5 l5 y5 z5 st5 hQ5
  replace l5 : ([] ++ Lc5) = L5 := l5.symm
  subst l5 y5 z5
  obtain ⟨rfl, rfl, e5⟩ := hQ5
  simp only [List.append_nil, Nat.add_zero] at X5
  have G5 := gd X5 hx hby
  obtain ⟨x6, hx6⟩ : ∃ z : UInt64, z = (rv1 p0 (2 : Int32) (p3 + (2 : Int32))) := ⟨_, rfl⟩
  obtain ⟨_, _, ⟨T7, L7, k7, n7⟩, -, X7, ⟨Lc7, hQ7, l7, y7, z7⟩, st7⟩ := Jvm.LawKit.callS X5 hx (y := (⟨"com/example/oceanus/oceanus/analysis/LinearIsConstantPinLaw", "entry", "(III)D"⟩ : MethodName)) hown (mvT hZ (wd hw 0 rfl)) (mvT hZ (wd hw 1 rfl)) (mvT hZ (wd hw 2 rfl)) (mvT hZ (wd hw 3 rfl)) (by decide) (backOf (W := 0) (rm1 l Z a0 hw [] p0 (3 : Int32) ((p3 + (3 : Int32))) h0 n0 Z0 ) hZ (wd hw 3 rfl) (wd hw 2 rfl) (by decide) (by decide)) (g := (mkF m 41 #[iv p0, iv p1, iv p2, iv p3, iv p4, iv (1 : Int32), dv x2, .second, dv x4, .second, dv x6, .second, .unset, .unset, .unset, .unset, .unset, .unset, .unset, .unset, .unset, .unset, .unset, .unset, .unset, .unset] [(.int (p3 + (3 : Int32))), (.int (3 : Int32)), (.int p0)])) rfl (by rw [hml]; rfl) (argsL := [(.int p0), (.int (3 : Int32)), (.int (p3 + (3 : Int32)))]) (rest := []) (lenOf pd_1 rfl) rfl (by show 2 * 0 + _ ≤ _; exact Nat.le_of_eq rfl) (hb hby at_41) (fun _ _ => ⟨rfl, e5, (by decide : 0 + 0 ≤ _), (by decide : 0 + 0 ≤ _)⟩)
  dsimp only [Pt.U, Pt.locs, Pt.cells, Pt.slots] at X7 l7 y7 z7 st7 hQ7
  replace l7 : ([] ++ Lc7) = L7 := l7.symm
  subst l7 y7 z7
  obtain ⟨rfl, rfl, e7⟩ := hQ7
  simp only [List.append_nil, Nat.add_zero] at X7
  have G7 := gd X7 hx hby
  obtain ⟨x8, hx8⟩ : ∃ z : UInt64, z = (rv1 p0 (3 : Int32) (p3 + (3 : Int32))) := ⟨_, rfl⟩
  obtain ⟨_, _, ⟨T9, L9, k9, n9⟩, -, X9, ⟨Lc9, hQ9, l9, y9, z9⟩, st9⟩ := Jvm.LawKit.callS X7 hx (y := (⟨"com/example/oceanus/oceanus/analysis/LinearIsConstantPinLaw", "entry", "(III)D"⟩ : MethodName)) hown (mvT hZ (wd hw 0 rfl)) (mvT hZ (wd hw 1 rfl)) (mvT hZ (wd hw 2 rfl)) (mvT hZ (wd hw 3 rfl)) (by decide) (backOf (W := 0) (rm1 l Z a0 hw [] p1 (0 : Int32) p4 h0 n0 Z0 ) hZ (wd hw 3 rfl) (wd hw 2 rfl) (by decide) (by decide)) (g := (mkF m 50 #[iv p0, iv p1, iv p2, iv p3, iv p4, iv (1 : Int32), dv x2, .second, dv x4, .second, dv x6, .second, dv x8, .second, .unset, .unset, .unset, .unset, .unset, .unset, .unset, .unset, .unset, .unset, .unset, .unset] [(.int p4), (.int (0 : Int32)), (.int p1)])) rfl (by rw [hml]; rfl) (argsL := [(.int p1), (.int (0 : Int32)), (.int p4)]) (rest := []) (lenOf pd_1 rfl) rfl (by show 2 * 0 + _ ≤ _; exact Nat.le_of_eq rfl) (hb hby at_50) (fun _ _ => ⟨rfl, e7, (by decide : 0 + 0 ≤ _), (by decide : 0 + 0 ≤ _)⟩)
  dsimp only [Pt.U, Pt.locs, Pt.cells, Pt.slots] at X9 l9 y9 z9 st9 hQ9
  replace l9 : ([] ++ Lc9) = L9 := l9.symm
  subst l9 y9 z9
  obtain ⟨rfl, rfl, e9⟩ := hQ9
  simp only [List.append_nil, Nat.add_zero] at X9
  have G9 := gd X9 hx hby
  obtain ⟨x10, hx10⟩ : ∃ z : UInt64, z = (rv1 p1 (0 : Int32) p4) := ⟨_, rfl⟩
  obtain ⟨_, _, ⟨T11, L11, k11, n11⟩, -, X11, ⟨Lc11, hQ11, l11, y11, z11⟩, st11⟩ := Jvm.LawKit.callS X9 hx (y := (⟨"com/example/oceanus/oceanus/analysis/LinearIsConstantPinLaw", "entry", "(III)D"⟩ : MethodName)) hown (mvT hZ (wd hw 0 rfl)) (mvT hZ (wd hw 1 rfl)) (mvT hZ (wd hw 2 rfl)) (mvT hZ (wd hw 3 rfl)) (by decide) (backOf (W := 0) (rm1 l Z a0 hw [] p1 (1 : Int32) ((p4 - (1 : Int32))) h0 n0 Z0 ) hZ (wd hw 3 rfl) (wd hw 2 rfl) (by decide) (by decide)) (g := (mkF m 61 #[iv p0, iv p1, iv p2, iv p3, iv p4, iv (1 : Int32), dv x2, .second, dv x4, .second, dv x6, .second, dv x8, .second, dv x10, .second, .unset, .unset, .unset, .unset, .unset, .unset, .unset, .unset, .unset, .unset] [(.int (p4 - (1 : Int32))), (.int (1 : Int32)), (.int p1)])) rfl (by rw [hml]; rfl) (argsL := [(.int p1), (.int (1 : Int32)), (.int (p4 - (1 : Int32)))]) (rest := []) (lenOf pd_1 rfl) rfl (by show 2 * 0 + _ ≤ _; exact Nat.le_of_eq rfl) (hb hby at_61) (fun _ _ => ⟨rfl, e9, (by decide : 0 + 0 ≤ _), (by decide : 0 + 0 ≤ _)⟩)
  dsimp only [Pt.U, Pt.locs, Pt.cells, Pt.slots] at X11 l11 y11 z11 st11 hQ11
  replace l11 : ([] ++ Lc11) = L11 := l11.symm
  subst l11 y11 z11
  obtain ⟨rfl, rfl, e11⟩ := hQ11
  simp only [List.append_nil, Nat.add_zero] at X11
  have G11 := gd X11 hx hby
  obtain ⟨x12, hx12⟩ : ∃ z : UInt64, z = (rv1 p1 (1 : Int32) (p4 - (1 : Int32))) := ⟨_, rfl⟩
  obtain ⟨_, _, ⟨T13, L13, k13, n13⟩, -, X13, ⟨Lc13, hQ13, l13, y13, z13⟩, st13⟩ := Jvm.LawKit.callS X11 hx (y := (⟨"com/example/oceanus/oceanus/analysis/LinearIsConstantPinLaw", "entry", "(III)D"⟩ : MethodName)) hown (mvT hZ (wd hw 0 rfl)) (mvT hZ (wd hw 1 rfl)) (mvT hZ (wd hw 2 rfl)) (mvT hZ (wd hw 3 rfl)) (by decide) (backOf (W := 0) (rm1 l Z a0 hw [] p1 (2 : Int32) ((p4 - (2 : Int32))) h0 n0 Z0 ) hZ (wd hw 3 rfl) (wd hw 2 rfl) (by decide) (by decide)) (g := (mkF m 72 #[iv p0, iv p1, iv p2, iv p3, iv p4, iv (1 : Int32), dv x2, .second, dv x4, .second, dv x6, .second, dv x8, .second, dv x10, .second, dv x12, .second, .unset, .unset, .unset, .unset, .unset, .unset, .unset, .unset] [(.int (p4 - (2 : Int32))), (.int (2 : Int32)), (.int p1)])) rfl (by rw [hml]; rfl) (argsL := [(.int p1), (.int (2 : Int32)), (.int (p4 - (2 : Int32)))]) (rest := []) (lenOf pd_1 rfl) rfl (by show 2 * 0 + _ ≤ _; exact Nat.le_of_eq rfl) (hb hby at_72) (fun _ _ => ⟨rfl, e11, (by decide : 0 + 0 ≤ _), (by decide : 0 + 0 ≤ _)⟩)
  dsimp only [Pt.U, Pt.locs, Pt.cells, Pt.slots] at X13 l13 y13 z13 st13 hQ13
  replace l13 : ([] ++ Lc13) = L13 := l13.symm
  subst l13 y13 z13
  obtain ⟨rfl, rfl, e13⟩ := hQ13
  simp only [List.append_nil, Nat.add_zero] at X13
  have G13 := gd X13 hx hby
  obtain ⟨x14, hx14⟩ : ∃ z : UInt64, z = (rv1 p1 (2 : Int32) (p4 - (2 : Int32))) := ⟨_, rfl⟩
  obtain ⟨_, _, ⟨T15, L15, k15, n15⟩, -, X15, ⟨Lc15, hQ15, l15, y15, z15⟩, st15⟩ := Jvm.LawKit.callS X13 hx (y := (⟨"com/example/oceanus/oceanus/analysis/LinearIsConstantPinLaw", "entry", "(III)D"⟩ : MethodName)) hown (mvT hZ (wd hw 0 rfl)) (mvT hZ (wd hw 1 rfl)) (mvT hZ (wd hw 2 rfl)) (mvT hZ (wd hw 3 rfl)) (by decide) (backOf (W := 0) (rm1 l Z a0 hw [] p1 (3 : Int32) ((p4 - (3 : Int32))) h0 n0 Z0 ) hZ (wd hw 3 rfl) (wd hw 2 rfl) (by decide) (by decide)) (g := (mkF m 83 #[iv p0, iv p1, iv p2, iv p3, iv p4, iv (1 : Int32), dv x2, .second, dv x4, .second, dv x6, .second, dv x8, .second, dv x10, .second, dv x12, .second, dv x14, .second, .unset, .unset, .unset, .unset, .unset, .unset] [(.int (p4 - (3 : Int32))), (.int (3 : Int32)), (.int p1)])) rfl (by rw [hml]; rfl) (argsL := [(.int p1), (.int (3 : Int32)), (.int (p4 - (3 : Int32)))]) (rest := []) (lenOf pd_1 rfl) rfl (by show 2 * 0 + _ ≤ _; exact Nat.le_of_eq rfl) (hb hby at_83) (fun _ _ => ⟨rfl, e13, (by decide : 0 + 0 ≤ _), (by decide : 0 + 0 ≤ _)⟩)
  dsimp only [Pt.U, Pt.locs, Pt.cells, Pt.slots] at X15 l15 y15 z15 st15 hQ15
  replace l15 : ([] ++ Lc15) = L15 := l15.symm
  subst l15 y15 z15
  obtain ⟨rfl, rfl, e15⟩ := hQ15
  simp only [List.append_nil, Nat.add_zero] at X15
  have G15 := gd X15 hx hby
  obtain ⟨x16, hx16⟩ : ∃ z : UInt64, z = (rv1 p1 (3 : Int32) (p4 - (3 : Int32))) := ⟨_, rfl⟩
  obtain ⟨_, _, ⟨T17, L17, k17, n17⟩, -, X17, ⟨Lc17, hQ17, l17, y17, z17⟩, st17⟩ := Jvm.LawKit.callS X15 hx (y := (⟨"com/example/oceanus/oceanus/analysis/LinearIsConstantPinLaw", "make", "(IDDDD)[D"⟩ : MethodName)) hown (mvT hZ (wd hw 4 rfl)) (mvT hZ (wd hw 5 rfl)) (mvT hZ (wd hw 2 rfl)) (mvT hZ (wd hw 6 rfl)) (by decide) (backOf (W := 0) (rm2_1 l Z a0 hw [] x2 x4 x6 x8 h0 n0 Z0 ) hZ (wd hw 6 rfl) (wd hw 2 rfl) (by decide) (by decide)) (g := (mkF m 98 #[iv p0, iv p1, iv p2, iv p3, iv p4, iv (1 : Int32), dv x2, .second, dv x4, .second, dv x6, .second, dv x8, .second, dv x10, .second, dv x12, .second, dv x14, .second, dv x16, .second, .unset, .unset, .unset, .unset] [(.double x8), (.double x6), (.double x4), (.double x2), (.int (1 : Int32))])) rfl (by rw [hml]; rfl) (argsL := [(.int (1 : Int32)), (.double x2), (.double x4), (.double x6), (.double x8)]) (rest := []) (lenOf pd_2 rfl) rfl (by show 2 * 0 + _ ≤ _; exact Nat.le_of_eq rfl) (hb hby at_98) (fun _ _ => ⟨rfl, e15, (by decide : 0 + 1 ≤ _), (by decide : 0 + 1 ≤ _)⟩)
  dsimp only [Pt.U, Pt.locs, Pt.cells, Pt.slots] at X17 l17 y17 z17 st17 hQ17
  replace l17 : ([] ++ Lc17) = L17 := l17.symm
  subst l17 y17 z17
  obtain ⟨b17, k17, rfl, g_b17, sz17, Nq17, K17, V_b17⟩ := hQ17
  have N17 := Fr.app N0 Nq17
  have Z17k := Nat.le_trans Z0 K17.1
  have G17 := gd X17 hx hby
  obtain ⟨_, _, ⟨T19, L19, k19, n19⟩, -, X19, ⟨Lc19, hQ19, l19, y19, z19⟩, st19⟩ := Jvm.LawKit.callS X17 hx (y := (⟨"com/example/oceanus/oceanus/analysis/LinearIsConstantPinLaw", "make", "(IDDDD)[D"⟩ : MethodName)) hown (mvT hZ (wd hw 4 rfl)) (mvT hZ (wd hw 5 rfl)) (mvT hZ (wd hw 2 rfl)) (mvT hZ (wd hw 6 rfl)) (by decide) (backOf (W := 0) (rm2_1 l Z a0 hw [] x10 x12 x14 x16 T17.heap n0 Z17k ) hZ (wd hw 6 rfl) (wd hw 2 rfl) (by decide) (by decide)) (g := (mkF m 113 #[iv p0, iv p1, iv p2, iv p3, iv p4, iv (1 : Int32), dv x2, .second, dv x4, .second, dv x6, .second, dv x8, .second, dv x10, .second, dv x12, .second, dv x14, .second, dv x16, .second, rv b17, .unset, .unset, .unset] [(.double x16), (.double x14), (.double x12), (.double x10), (.int (1 : Int32))])) rfl (by rw [hml]; rfl) (argsL := [(.int (1 : Int32)), (.double x10), (.double x12), (.double x14), (.double x16)]) (rest := []) (lenOf pd_2 rfl) rfl (by show 2 * 0 + _ ≤ _; exact Nat.le_of_eq rfl) (hb hby at_113) (fun _ _ => ⟨rfl, rfl, (by decide : 1 + 1 ≤ _), (by decide : 1 + 1 ≤ _)⟩)
  dsimp only [Pt.U, Pt.locs, Pt.cells, Pt.slots] at X19 l19 y19 z19 st19 hQ19
  replace l19 : (([] ++ Lc17) ++ Lc19) = L19 := l19.symm
  subst l19 y19 z19
  obtain ⟨b19, k19, rfl, g_b19, sz19, Nq19, K19, V_b19⟩ := hQ19
  have ne_b17_b19 : b17 ≠ b19 := Nat.ne_of_lt (Nat.lt_of_lt_of_le V_b17.lt sz19)
  have N19 := Fr.app N17 Nq19
  have f21 := V_b17.keep K19 nin0
  have Z19k := Nat.le_trans Z17k K19.1
  have G19 := gd X19 hx hby
  obtain ⟨T24, h24, X24, e24, E24, A24, D24, -, st24⟩ := newO X19 hx hZ hown (wd hw 8 rfl) (wd hw 9 rfl) (wd hw 10 rfl) rfl (g := (mkF m 118 #[iv p0, iv p1, iv p2, iv p3, iv p4, iv (1 : Int32), dv x2, .second, dv x4, .second, dv x6, .second, dv x8, .second, dv x10, .second, dv x12, .second, dv x14, .second, dv x16, .second, rv b17, rv b19, .unset, .unset] [])) rfl (hb hby at_118) (by decide) (by decide)
  have G24 := gd X24 hx hby
  obtain ⟨b24, g24⟩ : ∃ z, z = T19.heap.size := ⟨_, rfl⟩
  rw [← g24] at A24 D24 st24
  have ne_b17_b24 : b17 ≠ b24 := Nat.ne_of_lt (Nat.lt_of_lt_of_le f21.lt (Nat.le_of_eq g24.symm))
  have ne_b19_b24 : b19 ≠ b24 := Nat.ne_of_lt (Nat.lt_of_lt_of_le V_b19.lt (Nat.le_of_eq g24.symm))
  have g_b24 : n0 ≤ b24 := Nat.le_trans Z19k (Nat.le_of_eq g24.symm)
  have f25 := f21.ext E24
  have f26 := V_b19.ext E24
  have Z24 := Nat.le_trans Z19k E24.1
  have F_lows_b24 : Fld Z h24 b24 "com/example/oceanus/oceanus/analysis/RoundingSpanArithmetic$Linear" "lows" "[D" .null := D24 (Or.inr (wd hw 23 rfl)) (ty := (.array .double)) (by decide)
  have F_highs_b24 : Fld Z h24 b24 "com/example/oceanus/oceanus/analysis/RoundingSpanArithmetic$Linear" "highs" "[D" .null := D24 (Or.inr (wd hw 25 rfl)) (ty := (.array .double)) (by decide)
  obtain ⟨_, _, ⟨T27, L27, k27, n27⟩, -, X27, ⟨Lc27, hQ27, l27, y27, z27⟩, st27⟩ := X24.specialBack hx (y := (⟨"com/example/oceanus/oceanus/analysis/RoundingSpanArithmetic$Linear", "<init>", "([D[D)V"⟩ : MethodName)) rfl hown (mvT hZ (wd hw 11 rfl)) (mvT hZ (wd hw 12 rfl)) (mvT hZ (wd hw 13 rfl)) (by decide) (backOf (W := 1) (rm3 l Z a0 hw [] b24 b17 b19 h24 n0 Z24 A24 g_b24 F_lows_b24 F_highs_b24) hZ (wd hw 13 rfl) (wd hw 10 rfl) (by decide) (by decide)) (g := (mkF m 126 #[iv p0, iv p1, iv p2, iv p3, iv p4, iv (1 : Int32), dv x2, .second, dv x4, .second, dv x6, .second, dv x8, .second, dv x10, .second, dv x12, .second, dv x14, .second, dv x16, .second, rv b17, rv b19, .unset, .unset] [(.ref b19), (.ref b17), (.ref b24), (.ref b24)])) rfl (by rw [hml]; rfl) (Steps.refl _) (a := b24) (argsL := [(.ref b17), (.ref b19)]) (rest := [(.ref b24)]) (lenOf pd_3 rfl) rfl (by show 2 * 0 + _ ≤ _; exact Nat.le_of_eq rfl) (hb hby at_126) (fun _ _ => ⟨rfl, e24, (by decide : 3 + 0 ≤ _), (by decide : 4 + 0 ≤ _)⟩)
  dsimp only [Pt.U, Pt.locs, Pt.cells, Pt.slots] at X27 l27 y27 z27 st27 hQ27
  replace l27 : ((([] ++ Lc17) ++ Lc19) ++ Lc27) = L27 := l27.symm
  subst l27 y27 z27
  obtain ⟨rfl, Nq27, K27, Eq27, Fq27_0, Fq27_1⟩ := hQ27
  have N27 := Fr.app N19 Nq27
  have f29 := f25.keep K27 (ninS ne_b17_b24 nin0)
  have f32 := f26.keep K27 (ninS ne_b19_b24 nin0)
  have f38 := A24.keep K27
  have Z27k := Nat.le_trans Z24 K27.1
  have G27 := gd X27 hx hby
  obtain ⟨cq39, kq39, q39a, q39b, q39c⟩ := isOf hZ rfl Eq27
  obtain ⟨_, _, ⟨T39, L39, k39, n39⟩, -, X39, ⟨Lc39, hQ39, l39, y39, z39⟩, st39⟩ := X27.virtualBack hx (y := (⟨"com/example/oceanus/oceanus/analysis/RoundingSpanArithmetic$Linear", "isConstant", "()Z"⟩ : MethodName)) (z := (⟨"com/example/oceanus/oceanus/analysis/RoundingSpanArithmetic$Linear", "isConstant", "()Z"⟩ : MethodName)) hown (mvT hZ (wd hw 26 rfl)) (mvT hZ (wd hw 27 rfl)) (notFace_of_selects (args := #[]) (mvT hZ (wd hw 29 rfl))) (mvT hZ (wd hw 29 rfl)) (mvT hZ (wd hw 28 rfl)) (by decide) (backOf (W := 0) (rm6_1 l Z a0 hw [] b24 T27.heap n0 Z27k Fq27_0 Fq27_1 f29 f32) hZ (wd hw 30 rfl) (wd hw 10 rfl) (by decide) (by decide)) q39a q39c (g := (mkF m 129 #[iv p0, iv p1, iv p2, iv p3, iv p4, iv (1 : Int32), dv x2, .second, dv x4, .second, dv x6, .second, dv x8, .second, dv x10, .second, dv x12, .second, dv x14, .second, dv x16, .second, rv b17, rv b19, .unset, .unset] [(.ref b24)])) rfl (by rw [hml]; rfl) (Steps.refl _) (argsL := []) (rest := []) (lenOf pd_4 rfl) rfl (by show 2 * 0 + _ ≤ _; exact Nat.le_of_eq rfl) (hb hby at_129) (fun _ _ => ⟨rfl, rfl, (by decide : 3 + 0 ≤ _), (by decide : 4 + 0 ≤ _)⟩)
  dsimp only [Pt.U, Pt.locs, Pt.cells, Pt.slots] at X39 l39 y39 z39 st39 hQ39
  replace l39 : (((([] ++ Lc17) ++ Lc19) ++ Lc27) ++ Lc39) = L39 := l39.symm
  subst l39 y39 z39
  obtain ⟨rfl, rfl, e39⟩ := hQ39
  simp only [List.append_nil, Nat.add_zero] at X39
  have G39 := gd X39 hx hby
  obtain ⟨fs, hr, hrun, hended, hW, hsame⟩ := X39.leave (v := some (.int (1 : Int32))) (fun h => by rw [Bd.returns] at h; cases h)
  refine ⟨_, _, pre0 _ ?_, hrun, hended, _, _, rfl, ?_, ⟨_, rfl⟩, hW, hsame.mono (by decide) (by decide)⟩
  · show Steps p.tables e below (s₁.setTop (mkF m 0 #[iv p0, iv p1, iv p2, iv p3, iv p4, .unset, .unset, .unset, .unset, .unset, .unset, .unset, .unset, .unset, .unset, .unset, .unset, .unset, .unset, .unset, .unset, .unset, .unset, .unset, .unset, .unset] [])) _
    refine miloadN 1 G0 at_0 rfl rfl ?_
    refine mbipush 3 G0 at_1 (v := (7 : Int32)) rfl rfl ?_
    refine miand 4 G0 at_3 rfl rfl ?_
    refine miconst 5 G0 at_4 (v := (5 : Int32)) rfl rfl ?_
    refine mirem 6 G0 at_5 (by decide) (irem_eq_mod _ _) rfl ?_
    refine castTop (g' := (mkF m 6 #[iv p0, iv p1, iv p2, iv p3, iv p4, .unset, .unset, .unset, .unset, .unset, .unset, .unset, .unset, .unset, .unset, .unset, .unset, .unset, .unset, .unset, .unset, .unset, .unset, .unset, .unset, .unset] [(.int (1 : Int32))])) (by rw [hpin6]) ?_
    refine mistore 8 G0 at_6 #[iv p0, iv p1, iv p2, iv p3, iv p4, iv (1 : Int32), .unset, .unset, .unset, .unset, .unset, .unset, .unset, .unset, .unset, .unset, .unset, .unset, .unset, .unset, .unset, .unset, .unset, .unset, .unset, .unset] rfl rfl ?_
    refine miloadN 9 G0 at_8 rfl rfl ?_
    refine miconst 10 G0 at_9 (v := (0 : Int32)) rfl rfl ?_
    refine miloadN 11 G0 at_10 rfl rfl ?_
    refine st1 _ ?_
    show Steps p.tables e below (T1.setTop (mkF m 14 #[iv p0, iv p1, iv p2, iv p3, iv p4, iv (1 : Int32), .unset, .unset, .unset, .unset, .unset, .unset, .unset, .unset, .unset, .unset, .unset, .unset, .unset, .unset, .unset, .unset, .unset, .unset, .unset, .unset] [(.double (rv1 p0 (0 : Int32) p3))])) _
    refine castTop (g' := (mkF m 14 #[iv p0, iv p1, iv p2, iv p3, iv p4, iv (1 : Int32), .unset, .unset, .unset, .unset, .unset, .unset, .unset, .unset, .unset, .unset, .unset, .unset, .unset, .unset, .unset, .unset, .unset, .unset, .unset, .unset] [(.double x2)])) (by rw [hx2]) ?_
    refine mdstore 16 G1 at_14 #[iv p0, iv p1, iv p2, iv p3, iv p4, iv (1 : Int32), dv x2, .second, .unset, .unset, .unset, .unset, .unset, .unset, .unset, .unset, .unset, .unset, .unset, .unset, .unset, .unset, .unset, .unset, .unset, .unset] rfl rfl ?_
    refine miloadN 17 G1 at_16 rfl rfl ?_
    refine miconst 18 G1 at_17 (v := (1 : Int32)) rfl rfl ?_
    refine miloadN 19 G1 at_18 rfl rfl ?_
    refine miconst 20 G1 at_19 (v := (1 : Int32)) rfl rfl ?_
    refine miadd 21 G1 at_20 rfl rfl ?_
    refine st3 _ ?_
    show Steps p.tables e below (T3.setTop (mkF m 24 #[iv p0, iv p1, iv p2, iv p3, iv p4, iv (1 : Int32), dv x2, .second, .unset, .unset, .unset, .unset, .unset, .unset, .unset, .unset, .unset, .unset, .unset, .unset, .unset, .unset, .unset, .unset, .unset, .unset] [(.double (rv1 p0 (1 : Int32) (p3 + (1 : Int32))))])) _
    refine castTop (g' := (mkF m 24 #[iv p0, iv p1, iv p2, iv p3, iv p4, iv (1 : Int32), dv x2, .second, .unset, .unset, .unset, .unset, .unset, .unset, .unset, .unset, .unset, .unset, .unset, .unset, .unset, .unset, .unset, .unset, .unset, .unset] [(.double x4)])) (by rw [hx4]) ?_
    refine mdstore 26 G3 at_24 #[iv p0, iv p1, iv p2, iv p3, iv p4, iv (1 : Int32), dv x2, .second, dv x4, .second, .unset, .unset, .unset, .unset, .unset, .unset, .unset, .unset, .unset, .unset, .unset, .unset, .unset, .unset, .unset, .unset] rfl rfl ?_
    refine miloadN 27 G3 at_26 rfl rfl ?_
    refine miconst 28 G3 at_27 (v := (2 : Int32)) rfl rfl ?_
    refine miloadN 29 G3 at_28 rfl rfl ?_
    refine miconst 30 G3 at_29 (v := (2 : Int32)) rfl rfl ?_
    refine miadd 31 G3 at_30 rfl rfl ?_
    refine st5 _ ?_
    show Steps p.tables e below (T5.setTop (mkF m 34 #[iv p0, iv p1, iv p2, iv p3, iv p4, iv (1 : Int32), dv x2, .second, dv x4, .second, .unset, .unset, .unset, .unset, .unset, .unset, .unset, .unset, .unset, .unset, .unset, .unset, .unset, .unset, .unset, .unset] [(.double (rv1 p0 (2 : Int32) (p3 + (2 : Int32))))])) _
    refine castTop (g' := (mkF m 34 #[iv p0, iv p1, iv p2, iv p3, iv p4, iv (1 : Int32), dv x2, .second, dv x4, .second, .unset, .unset, .unset, .unset, .unset, .unset, .unset, .unset, .unset, .unset, .unset, .unset, .unset, .unset, .unset, .unset] [(.double x6)])) (by rw [hx6]) ?_
    refine mdstore 36 G5 at_34 #[iv p0, iv p1, iv p2, iv p3, iv p4, iv (1 : Int32), dv x2, .second, dv x4, .second, dv x6, .second, .unset, .unset, .unset, .unset, .unset, .unset, .unset, .unset, .unset, .unset, .unset, .unset, .unset, .unset] rfl rfl ?_
    refine miloadN 37 G5 at_36 rfl rfl ?_
    refine miconst 38 G5 at_37 (v := (3 : Int32)) rfl rfl ?_
    refine miloadN 39 G5 at_38 rfl rfl ?_
    refine miconst 40 G5 at_39 (v := (3 : Int32)) rfl rfl ?_
    refine miadd 41 G5 at_40 rfl rfl ?_
    refine st7 _ ?_
    show Steps p.tables e below (T7.setTop (mkF m 44 #[iv p0, iv p1, iv p2, iv p3, iv p4, iv (1 : Int32), dv x2, .second, dv x4, .second, dv x6, .second, .unset, .unset, .unset, .unset, .unset, .unset, .unset, .unset, .unset, .unset, .unset, .unset, .unset, .unset] [(.double (rv1 p0 (3 : Int32) (p3 + (3 : Int32))))])) _
    refine castTop (g' := (mkF m 44 #[iv p0, iv p1, iv p2, iv p3, iv p4, iv (1 : Int32), dv x2, .second, dv x4, .second, dv x6, .second, .unset, .unset, .unset, .unset, .unset, .unset, .unset, .unset, .unset, .unset, .unset, .unset, .unset, .unset] [(.double x8)])) (by rw [hx8]) ?_
    refine mdstore 46 G7 at_44 #[iv p0, iv p1, iv p2, iv p3, iv p4, iv (1 : Int32), dv x2, .second, dv x4, .second, dv x6, .second, dv x8, .second, .unset, .unset, .unset, .unset, .unset, .unset, .unset, .unset, .unset, .unset, .unset, .unset] rfl rfl ?_
    refine miloadN 47 G7 at_46 rfl rfl ?_
    refine miconst 48 G7 at_47 (v := (0 : Int32)) rfl rfl ?_
    refine miload 50 G7 at_48 rfl rfl ?_
    refine st9 _ ?_
    show Steps p.tables e below (T9.setTop (mkF m 53 #[iv p0, iv p1, iv p2, iv p3, iv p4, iv (1 : Int32), dv x2, .second, dv x4, .second, dv x6, .second, dv x8, .second, .unset, .unset, .unset, .unset, .unset, .unset, .unset, .unset, .unset, .unset, .unset, .unset] [(.double (rv1 p1 (0 : Int32) p4))])) _
    refine castTop (g' := (mkF m 53 #[iv p0, iv p1, iv p2, iv p3, iv p4, iv (1 : Int32), dv x2, .second, dv x4, .second, dv x6, .second, dv x8, .second, .unset, .unset, .unset, .unset, .unset, .unset, .unset, .unset, .unset, .unset, .unset, .unset] [(.double x10)])) (by rw [hx10]) ?_
    refine mdstore 55 G9 at_53 #[iv p0, iv p1, iv p2, iv p3, iv p4, iv (1 : Int32), dv x2, .second, dv x4, .second, dv x6, .second, dv x8, .second, dv x10, .second, .unset, .unset, .unset, .unset, .unset, .unset, .unset, .unset, .unset, .unset] rfl rfl ?_
    refine miloadN 56 G9 at_55 rfl rfl ?_
    refine miconst 57 G9 at_56 (v := (1 : Int32)) rfl rfl ?_
    refine miload 59 G9 at_57 rfl rfl ?_
    refine miconst 60 G9 at_59 (v := (1 : Int32)) rfl rfl ?_
    refine misub 61 G9 at_60 rfl rfl ?_
    refine st11 _ ?_
    show Steps p.tables e below (T11.setTop (mkF m 64 #[iv p0, iv p1, iv p2, iv p3, iv p4, iv (1 : Int32), dv x2, .second, dv x4, .second, dv x6, .second, dv x8, .second, dv x10, .second, .unset, .unset, .unset, .unset, .unset, .unset, .unset, .unset, .unset, .unset] [(.double (rv1 p1 (1 : Int32) (p4 - (1 : Int32))))])) _
    refine castTop (g' := (mkF m 64 #[iv p0, iv p1, iv p2, iv p3, iv p4, iv (1 : Int32), dv x2, .second, dv x4, .second, dv x6, .second, dv x8, .second, dv x10, .second, .unset, .unset, .unset, .unset, .unset, .unset, .unset, .unset, .unset, .unset] [(.double x12)])) (by rw [hx12]) ?_
    refine mdstore 66 G11 at_64 #[iv p0, iv p1, iv p2, iv p3, iv p4, iv (1 : Int32), dv x2, .second, dv x4, .second, dv x6, .second, dv x8, .second, dv x10, .second, dv x12, .second, .unset, .unset, .unset, .unset, .unset, .unset, .unset, .unset] rfl rfl ?_
    refine miloadN 67 G11 at_66 rfl rfl ?_
    refine miconst 68 G11 at_67 (v := (2 : Int32)) rfl rfl ?_
    refine miload 70 G11 at_68 rfl rfl ?_
    refine miconst 71 G11 at_70 (v := (2 : Int32)) rfl rfl ?_
    refine misub 72 G11 at_71 rfl rfl ?_
    refine st13 _ ?_
    show Steps p.tables e below (T13.setTop (mkF m 75 #[iv p0, iv p1, iv p2, iv p3, iv p4, iv (1 : Int32), dv x2, .second, dv x4, .second, dv x6, .second, dv x8, .second, dv x10, .second, dv x12, .second, .unset, .unset, .unset, .unset, .unset, .unset, .unset, .unset] [(.double (rv1 p1 (2 : Int32) (p4 - (2 : Int32))))])) _
    refine castTop (g' := (mkF m 75 #[iv p0, iv p1, iv p2, iv p3, iv p4, iv (1 : Int32), dv x2, .second, dv x4, .second, dv x6, .second, dv x8, .second, dv x10, .second, dv x12, .second, .unset, .unset, .unset, .unset, .unset, .unset, .unset, .unset] [(.double x14)])) (by rw [hx14]) ?_
    refine mdstore 77 G13 at_75 #[iv p0, iv p1, iv p2, iv p3, iv p4, iv (1 : Int32), dv x2, .second, dv x4, .second, dv x6, .second, dv x8, .second, dv x10, .second, dv x12, .second, dv x14, .second, .unset, .unset, .unset, .unset, .unset, .unset] rfl rfl ?_
    refine miloadN 78 G13 at_77 rfl rfl ?_
    refine miconst 79 G13 at_78 (v := (3 : Int32)) rfl rfl ?_
    refine miload 81 G13 at_79 rfl rfl ?_
    refine miconst 82 G13 at_81 (v := (3 : Int32)) rfl rfl ?_
    refine misub 83 G13 at_82 rfl rfl ?_
    refine st15 _ ?_
    show Steps p.tables e below (T15.setTop (mkF m 86 #[iv p0, iv p1, iv p2, iv p3, iv p4, iv (1 : Int32), dv x2, .second, dv x4, .second, dv x6, .second, dv x8, .second, dv x10, .second, dv x12, .second, dv x14, .second, .unset, .unset, .unset, .unset, .unset, .unset] [(.double (rv1 p1 (3 : Int32) (p4 - (3 : Int32))))])) _
    refine castTop (g' := (mkF m 86 #[iv p0, iv p1, iv p2, iv p3, iv p4, iv (1 : Int32), dv x2, .second, dv x4, .second, dv x6, .second, dv x8, .second, dv x10, .second, dv x12, .second, dv x14, .second, .unset, .unset, .unset, .unset, .unset, .unset] [(.double x16)])) (by rw [hx16]) ?_
    refine mdstore 88 G15 at_86 #[iv p0, iv p1, iv p2, iv p3, iv p4, iv (1 : Int32), dv x2, .second, dv x4, .second, dv x6, .second, dv x8, .second, dv x10, .second, dv x12, .second, dv x14, .second, dv x16, .second, .unset, .unset, .unset, .unset] rfl rfl ?_
    refine miload 90 G15 at_88 rfl rfl ?_
    refine mdload 92 G15 at_90 rfl rfl ?_
    refine mdload 94 G15 at_92 rfl rfl ?_
    refine mdload 96 G15 at_94 rfl rfl ?_
    refine mdload 98 G15 at_96 rfl rfl ?_
    refine st17 _ ?_
    show Steps p.tables e below (T17.setTop (mkF m 101 #[iv p0, iv p1, iv p2, iv p3, iv p4, iv (1 : Int32), dv x2, .second, dv x4, .second, dv x6, .second, dv x8, .second, dv x10, .second, dv x12, .second, dv x14, .second, dv x16, .second, .unset, .unset, .unset, .unset] [(.ref b17)])) _
    refine mastore 103 G17 at_101 rfl #[iv p0, iv p1, iv p2, iv p3, iv p4, iv (1 : Int32), dv x2, .second, dv x4, .second, dv x6, .second, dv x8, .second, dv x10, .second, dv x12, .second, dv x14, .second, dv x16, .second, rv b17, .unset, .unset, .unset] rfl rfl ?_
    refine miload 105 G17 at_103 rfl rfl ?_
    refine mdload 107 G17 at_105 rfl rfl ?_
    refine mdload 109 G17 at_107 rfl rfl ?_
    refine mdload 111 G17 at_109 rfl rfl ?_
    refine mdload 113 G17 at_111 rfl rfl ?_
    refine st19 _ ?_
    show Steps p.tables e below (T19.setTop (mkF m 116 #[iv p0, iv p1, iv p2, iv p3, iv p4, iv (1 : Int32), dv x2, .second, dv x4, .second, dv x6, .second, dv x8, .second, dv x10, .second, dv x12, .second, dv x14, .second, dv x16, .second, rv b17, .unset, .unset, .unset] [(.ref b19)])) _
    refine mastore 118 G19 at_116 rfl #[iv p0, iv p1, iv p2, iv p3, iv p4, iv (1 : Int32), dv x2, .second, dv x4, .second, dv x6, .second, dv x8, .second, dv x10, .second, dv x12, .second, dv x14, .second, dv x16, .second, rv b17, rv b19, .unset, .unset] rfl rfl ?_
    refine st24 _ ?_
    show Steps p.tables e below (T24.setTop (mkF m 121 #[iv p0, iv p1, iv p2, iv p3, iv p4, iv (1 : Int32), dv x2, .second, dv x4, .second, dv x6, .second, dv x8, .second, dv x10, .second, dv x12, .second, dv x14, .second, dv x16, .second, rv b17, rv b19, .unset, .unset] [(.ref b24)])) _
    refine mdup 122 G24 at_121 rfl rfl ?_
    refine maload 124 G24 at_122 rfl rfl rfl ?_
    refine maload 126 G24 at_124 rfl rfl rfl ?_
    refine st27.trans ?_
    show Steps p.tables e below (T27.setTop (mkF m 129 #[iv p0, iv p1, iv p2, iv p3, iv p4, iv (1 : Int32), dv x2, .second, dv x4, .second, dv x6, .second, dv x8, .second, dv x10, .second, dv x12, .second, dv x14, .second, dv x16, .second, rv b17, rv b19, .unset, .unset] [(.ref b24)])) _
    refine st39.trans ?_
    show Steps p.tables e below (T39.setTop (mkF m 132 #[iv p0, iv p1, iv p2, iv p3, iv p4, iv (1 : Int32), dv x2, .second, dv x4, .second, dv x6, .second, dv x8, .second, dv x10, .second, dv x12, .second, dv x14, .second, dv x16, .second, rv b17, rv b19, .unset, .unset] [(.int (1 : Int32))])) _
    refine mistore 134 G39 at_132 #[iv p0, iv p1, iv p2, iv p3, iv p4, iv (1 : Int32), dv x2, .second, dv x4, .second, dv x6, .second, dv x8, .second, dv x10, .second, dv x12, .second, dv x14, .second, dv x16, .second, rv b17, rv b19, iv (1 : Int32), .unset] rfl rfl ?_
    refine miload 136 G39 at_134 rfl rfl ?_
    refine miconst 137 G39 at_136 (v := (1 : Int32)) rfl rfl ?_
    refine micmpYes 154 G39 at_137 (flt (by decide : ¬ ((1 : Int32) < (1 : Int32)))).2.2.2 (by decide) rfl ?_
    refine miload 156 G39 at_154 rfl rfl ?_
    refine miconst 157 G39 at_156 (v := (2 : Int32)) rfl rfl ?_
    refine micmpYes 174 G39 at_157 (flt (by decide : ¬ ((2 : Int32) < (1 : Int32)))).2.2.2 (by decide) rfl ?_
    refine miload 176 G39 at_174 rfl rfl ?_
    refine miconst 177 G39 at_176 (v := (3 : Int32)) rfl rfl ?_
    refine micmpYes 194 G39 at_177 (flt (by decide : ¬ ((3 : Int32) < (1 : Int32)))).2.2.2 (by decide) rfl ?_
    refine miconst 195 G39 at_194 (v := (1 : Int32)) rfl rfl ?_
    refine mgoto 199 G39 at_195 (by decide) rfl ?_
    refine mistore 201 G39 at_199 #[iv p0, iv p1, iv p2, iv p3, iv p4, iv (1 : Int32), dv x2, .second, dv x4, .second, dv x6, .second, dv x8, .second, dv x10, .second, dv x12, .second, dv x14, .second, dv x16, .second, rv b17, rv b19, iv (1 : Int32), iv (1 : Int32)] rfl rfl ?_
    refine miload 203 G39 at_201 rfl rfl ?_
    refine miload 205 G39 at_203 rfl rfl ?_
    refine micmpNo 208 G39 at_205 (teq (by decide : (1 : Int32) = (1 : Int32))).2 rfl ?_
    refine miconst 209 G39 at_208 (v := (1 : Int32)) rfl rfl ?_
    refine mgoto 213 G39 at_209 (by decide) rfl ?_
    exact retN X39 hx (t := .boolean) Bd.returns (by simp) (hb hby at_213) hr
  · show Q0 Z p0 p1 p2 p3 p4 h0 n0 _ T39.heap _
    rw [e39]
    exact ⟨rfl, N27⟩
theorem d2_19 : decode method_4_code 19 = .ok (.aload 9, 2) := by decide +kernel
theorem d2_21 : decode method_4_code 21 = .ok (.iconst 1, 1) := by decide +kernel
theorem d2_22 : decode method_4_code 22 = .ok (.dload_n 3, 1) := by decide +kernel
theorem d2_23 : decode method_4_code 23 = .ok (.dastore, 1) := by decide +kernel
theorem ef2_2 (m : MethodId) (d1 : UInt64) (d2 : UInt64) (d3 : UInt64) (d4 : UInt64) : entryFrame m #[(.int (2 : Int32)), (.double d1), (.double d2), (.double d3), (.double d4)] 10 = mkF m 0 #[iv (2 : Int32), dv d1, .second, dv d2, .second, dv d3, .second, dv d4, .second, .unset] [] := by first | (simp [entryFrame, mkF, argsToLocals, Value.category]; done) | rfl
abbrev room_of_2_2 : Room := { frames := 0, cells := 1, slots := 2, locals := 0 }
def Q2_2 (Z : State) (d1 : UInt64) (d2 : UInt64) (d3 : UInt64) (d4 : UInt64) (h0 : Heap) (n0 : Nat) (v : Option Value) (h : Heap) (L : List Loc) : Prop := ∃ (b : Addr) (k : ClassId), v = some (.ref b) ∧ n0 ≤ b ∧ h0.size ≤ b ∧ Fr n0 L ∧ Keep h0 h [] ∧ Arv Z h b k .double (2 : Int32) [(.double d1), (.double d2)] (.double (0 : UInt64))
set_option maxRecDepth 65536 in
set_option maxHeartbeats 40000000 in
theorem rm2_2 (l : Launch) (Z : State) (a0 : Array Value) (hw : ∀ d ∈ tables_1, d.before a0 Z = true) (ws : List Jvm.Cond) (d1 : UInt64) (d2 : UInt64) (d3 : UInt64) (d4 : UInt64)  (h0 : Heap) (n0 : Nat) (Z0 : n0 ≤ h0.size) :
    MetFree l (⟨"com/example/oceanus/oceanus/analysis/LinearIsConstantPinLaw", "make", "(IDDDD)[D"⟩ : MethodName) (head1 (Jvm.Cond.code (⟨"com/example/oceanus/oceanus/analysis/LinearIsConstantPinLaw", "make", "(IDDDD)[D"⟩ : MethodName) method_4_code 10 (some (.array .double)) :: ws) (room_of_2_2)) (fun a U => a = #[(.int (2 : Int32)), (.double d1), (.double d2), (.double d3), (.double d4)] ∧ Z.Warmed39 U.vm ∧ U.heap = h0) (fun _ _ _ _ _ => True) (fun _ U o U' => ∃ v L, o = .returned v ∧ Q2_2 Z d1 d2 d3 d4 h0 n0 v U'.heap L ∧ FrameEnd U o U' L (room_of_2_2).cells (room_of_2_2).slots) := by
  refine MetFree.of_bodySF (plainFor_of_name pn_2) hisR ?_
  intro p e s m args below meth c s₁ Bd hml0 hP hK
  obtain ⟨rfl, hZ, hh⟩ := hP
  have hx := Bd.exec
  have hby := Bd.bytes
  have hml : c.maxLocals = 10 := hml0
  have hown : s.vm.findClass "com/example/oceanus/oceanus/analysis/LinearIsConstantPinLaw" = some m.cls := findClass_of_methodNamed Bd.named
  have hnm := (name_of_methodNamed Bd.named Bd.method).1
  have X0 : Stand p l e (room_of_2_2) s m #[(.int (2 : Int32)), (.double d1), (.double d2), (.double d3), (.double d4)] below meth c s₁ [] 0 0 := Stand.of_body Bd
  have e0 : s₁.heap = h0 := by rw [← hh, Bd.state]; rfl
  have N0 := Fr.nil n0
  have G0 := gd X0 hx hby
  have pre0 : ∀ t, Steps p.tables e below (s₁.setTop (mkF m 0 #[iv (2 : Int32), dv d1, .second, dv d2, .second, dv d3, .second, dv d4, .second, .unset] [])) t → Steps p.tables e below (s₁.setTop (entryFrame m #[(.int (2 : Int32)), (.double d1), (.double d2), (.double d3), (.double d4)] 10)) t := fun t k => castTop (ef2_2 m d1 d2 d3 d4) k
  obtain ⟨T1, h1, k1, X1, e1, E1, A1, st1⟩ := newP X0 hx hZ (wd hw 7 rfl) e0 (g := (mkF m 1 #[iv (2 : Int32), dv d1, .second, dv d2, .second, dv d3, .second, dv d4, .second, .unset] [(.int (2 : Int32))])) rfl (hb hby d2_1) rfl (by decide) (cap := 2) (by decide) (by decide) (by decide) (by decide)
  have G1 := gd X1 hx hby
  obtain ⟨b1, g1⟩ : ∃ z, z = h0.size := ⟨_, rfl⟩
  rw [← g1] at A1 st1
  have g_b1 : n0 ≤ b1 := Nat.le_trans Z0 (Nat.le_of_eq g1.symm)
  have sz_b1 : h0.size ≤ b1 := Nat.le_trans (Keep.refl h0 []).1 (Nat.le_of_eq g1.symm)
  have Z1 := Nat.le_trans Z0 E1.1
  have K1 : Keep h0 h1 [] := (Keep.refl h0 []).ext E1
  have V_b1 : Arv Z h1 b1 k1 .double (2 : Int32) [(.double (0 : UInt64)), (.double (0 : UInt64))] (.double (0 : UInt64)) := (Arv.new A1 (by decide)).pad (pad_rep [] (.double (0 : UInt64)) 2)
  obtain ⟨T2, h2, X2, e2, W2, Vs2, st2⟩ := own_stD X1 hx hby hZ e1 V_b1 (j := (0 : Int32)) (v := d1) d2_13 ⟨by decide, by decide⟩ 0 rfl (Nat.le_of_ble_eq_true rfl) #[iv (2 : Int32), dv d1, .second, dv d2, .second, dv d3, .second, dv d4, .second, rv b1] [] 14 rfl
  have G2 := gd X2 hx hby
  have N2 := Fr.snoc X2 N0 g_b1
  have Z2 := Nat.le_trans Z1 (Keep.of_wr W2).1
  have K2 : Keep h0 h2 [] := K1.wr W2 (Or.inr sz_b1)
  have V2 : Arv Z h2 b1 k1 .double (2 : Int32) [(.double d1), (.double (0 : UInt64))] (.double (0 : UInt64)) := Vs2
  obtain ⟨T6, h6, X6, e6, W6, Vs6, st6⟩ := own_stD X2 hx hby hZ e2 V2 (j := (1 : Int32)) (v := d2) d2_23 ⟨by decide, by decide⟩ 1 rfl (Nat.le_of_ble_eq_true rfl) #[iv (2 : Int32), dv d1, .second, dv d2, .second, dv d3, .second, dv d4, .second, rv b1] [] 24 rfl
  have G6 := gd X6 hx hby
  have N6 := Fr.snoc X6 N2 g_b1
  have Z6 := Nat.le_trans Z2 (Keep.of_wr W6).1
  have K6 : Keep h0 h6 [] := K2.wr W6 (Or.inr sz_b1)
  have V6 : Arv Z h6 b1 k1 .double (2 : Int32) [(.double d1), (.double d2)] (.double (0 : UInt64)) := Vs6
  obtain ⟨fs, hr, hrun, hended, hW, hsame⟩ := X6.leave (v := some (.ref b1)) (fun h => by rw [Bd.returns] at h; cases h)
  refine ⟨_, _, pre0 _ ?_, hrun, hended, _, _, rfl, ?_, ⟨_, rfl⟩, hW, hsame.mono (by decide) (by decide)⟩
  · show Steps p.tables e below (s₁.setTop (mkF m 0 #[iv (2 : Int32), dv d1, .second, dv d2, .second, dv d3, .second, dv d4, .second, .unset] [])) _
    refine miloadN 1 G0 d2_0 rfl rfl ?_
    refine st1 _ ?_
    show Steps p.tables e below (T1.setTop (mkF m 3 #[iv (2 : Int32), dv d1, .second, dv d2, .second, dv d3, .second, dv d4, .second, .unset] [(.ref b1)])) _
    refine mastore 5 G1 d2_3 rfl #[iv (2 : Int32), dv d1, .second, dv d2, .second, dv d3, .second, dv d4, .second, rv b1] rfl rfl ?_
    refine miloadN 6 G1 d2_5 rfl rfl ?_
    refine mifNo 9 G1 d2_6 ((if0 _ _).trans (tlt (by decide : (0 : Int32) < (2 : Int32))).2.2.2) rfl ?_
    refine maload 11 G1 d2_9 rfl rfl rfl ?_
    refine miconst 12 G1 d2_11 (v := (0 : Int32)) rfl rfl ?_
    refine mdloadN 13 G1 d2_12 rfl rfl ?_
    refine st2 _ ?_
    refine miloadN 15 G2 d2_14 rfl rfl ?_
    refine miconst 16 G2 d2_15 (v := (1 : Int32)) rfl rfl ?_
    refine micmpNo 19 G2 d2_16 (tlt (by decide : (1 : Int32) < (2 : Int32))).2.2.2 rfl ?_
    refine maload 21 G2 d2_19 rfl rfl rfl ?_
    refine miconst 22 G2 d2_21 (v := (1 : Int32)) rfl rfl ?_
    refine mdloadN 23 G2 d2_22 rfl rfl ?_
    refine st6 _ ?_
    refine miloadN 25 G6 d2_24 rfl rfl ?_
    refine miconst 26 G6 d2_25 (v := (2 : Int32)) rfl rfl ?_
    refine micmpYes 35 G6 d2_26 (flt (by decide : ¬ ((2 : Int32) < (2 : Int32)))).2.2.2 (by decide) rfl ?_
    refine miloadN 36 G6 d2_35 rfl rfl ?_
    refine miconst 37 G6 d2_36 (v := (3 : Int32)) rfl rfl ?_
    refine micmpYes 46 G6 d2_37 (flt (by decide : ¬ ((3 : Int32) < (2 : Int32)))).2.2.2 (by decide) rfl ?_
    refine maload 48 G6 d2_46 rfl rfl rfl ?_
    exact retOut X6 hx Bd.returns rfl (Or.inr (Or.inr (Or.inr (Or.inr ⟨rfl, rfl, rfl⟩)))) (hb hby d2_48) hr
  · show Q2_2 Z d1 d2 d3 d4 h0 n0 _ T6.heap _
    rw [e6]
    exact ⟨b1, k1, rfl, g_b1, sz_b1, N6, K6, V6⟩
theorem d6_19 : decode prog_23_method_6_code 19 = .ok (.aload_n 0, 1) := by decide +kernel
theorem d6_20 : decode prog_23_method_6_code 20 = .ok (.getfield 7, 3) := by decide +kernel
theorem d6_23 : decode prog_23_method_6_code 23 = .ok (.iload_n 2, 1) := by decide +kernel
theorem d6_24 : decode prog_23_method_6_code 24 = .ok (.daload, 1) := by decide +kernel
theorem d6_25 : decode prog_23_method_6_code 25 = .ok (.dconst 0, 1) := by decide +kernel
theorem d6_26 : decode prog_23_method_6_code 26 = .ok (.dcmp .l, 1) := by decide +kernel
theorem d6_27 : decode prog_23_method_6_code 27 = .ok (.ifCond .ne 18, 3) := by decide +kernel
theorem d6_30 : decode prog_23_method_6_code 30 = .ok (.aload_n 0, 1) := by decide +kernel
theorem d6_31 : decode prog_23_method_6_code 31 = .ok (.getfield 13, 3) := by decide +kernel
theorem d6_34 : decode prog_23_method_6_code 34 = .ok (.iload_n 2, 1) := by decide +kernel
theorem d6_35 : decode prog_23_method_6_code 35 = .ok (.daload, 1) := by decide +kernel
theorem d6_36 : decode prog_23_method_6_code 36 = .ok (.dconst 0, 1) := by decide +kernel
theorem d6_37 : decode prog_23_method_6_code 37 = .ok (.dcmp .l, 1) := by decide +kernel
theorem d6_38 : decode prog_23_method_6_code 38 = .ok (.ifCond .ne 7, 3) := by decide +kernel
theorem d6_41 : decode prog_23_method_6_code 41 = .ok (.iconst 1, 1) := by decide +kernel
theorem d6_42 : decode prog_23_method_6_code 42 = .ok (.goto 4, 3) := by decide +kernel
theorem d6_45 : decode prog_23_method_6_code 45 = .ok (.iconst 0, 1) := by decide +kernel
theorem d6_46 : decode prog_23_method_6_code 46 = .ok (.istore_n 1, 1) := by decide +kernel
theorem d6_47 : decode prog_23_method_6_code 47 = .ok (.iinc 2 1, 3) := by decide +kernel
theorem d6_50 : decode prog_23_method_6_code 50 = .ok (.goto (-46), 3) := by decide +kernel
theorem ef6_2 (m : MethodId) (o0 : Addr) : entryFrame m #[(.ref o0)] 3 = mkF m 0 #[rv o0, .unset, .unset] [] := by first | (simp [entryFrame, mkF, argsToLocals, Value.category]; done) | rfl
abbrev room_of_6_2 : Room := { frames := 0, cells := 0, slots := 0, locals := 0 }
def rv6_2 (a0 : UInt64) (c0 : UInt64) : Int32 := (if (cmpValue (FP.dcmp a0 (0 : UInt64)) .l) = (0 : Int32) then (if (cmpValue (FP.dcmp c0 (0 : UInt64)) .l) = (0 : Int32) then (1 : Int32) else (0 : Int32)) else (0 : Int32))
def Q6_2 (Z : State) (o0 : Addr) (w1 : Addr) (w2 : Addr) (k1 : ClassId) (a0 : UInt64) (a1 : UInt64) (k2 : ClassId) (c0 : UInt64) (c1 : UInt64) (h0 : Heap) (n0 : Nat) (v : Option Value) (h : Heap) (L : List Loc) : Prop := v = some (.int (rv6_2 a0 c0)) ∧ L = [] ∧ h = h0
set_option maxRecDepth 65536 in
set_option maxHeartbeats 40000000 in
theorem rm6_2 (l : Launch) (Z : State) (a0 : Array Value) (hw : ∀ d ∈ tables_1, d.before a0 Z = true) (ws : List Jvm.Cond) (o0 : Addr) {w1 : Addr} {w2 : Addr} {k1 : ClassId} {a0 : UInt64} {a1 : UInt64} {k2 : ClassId} {c0 : UInt64} {c1 : UInt64} (h0 : Heap) (n0 : Nat) (Z0 : n0 ≤ h0.size) (F_lows_o0 : Fld Z h0 o0 "com/example/oceanus/oceanus/analysis/RoundingSpanArithmetic$Linear" "lows" "[D" (.ref w1)) (F_highs_o0 : Fld Z h0 o0 "com/example/oceanus/oceanus/analysis/RoundingSpanArithmetic$Linear" "highs" "[D" (.ref w2)) (V_w1 : Arv Z h0 w1 k1 .double (2 : Int32) [(.double a0), (.double a1)] (.double (0 : UInt64))) (V_w2 : Arv Z h0 w2 k2 .double (2 : Int32) [(.double c0), (.double c1)] (.double (0 : UInt64))) :
    MetFree l (⟨"com/example/oceanus/oceanus/analysis/RoundingSpanArithmetic$Linear", "isConstant", "()Z"⟩ : MethodName) (head1 (Jvm.Cond.code (⟨"com/example/oceanus/oceanus/analysis/RoundingSpanArithmetic$Linear", "isConstant", "()Z"⟩ : MethodName) prog_23_method_6_code 3 (some .boolean) :: ws) (room_of_6_2)) (fun a U => a = #[(.ref o0)] ∧ Z.Warmed39 U.vm ∧ U.heap = h0) (fun _ _ _ _ _ => True) (fun _ U o U' => ∃ v L, o = .returned v ∧ Q6_2 Z o0 w1 w2 k1 a0 a1 k2 c0 c1 h0 n0 v U'.heap L ∧ FrameEnd U o U' L (room_of_6_2).cells (room_of_6_2).slots) := by
  refine MetFree.of_bodySF (plainFor_of_name pn_6) hisR ?_
  intro p e s m args below meth c s₁ Bd hml0 hP hK
  obtain ⟨rfl, hZ, hh⟩ := hP
  have hx := Bd.exec
  have hby := Bd.bytes
  have hml : c.maxLocals = 3 := hml0
  have hown : s.vm.findClass "com/example/oceanus/oceanus/analysis/RoundingSpanArithmetic$Linear" = some m.cls := findClass_of_methodNamed Bd.named
  have hnm := (name_of_methodNamed Bd.named Bd.method).1
  have X0 : Stand p l e (room_of_6_2) s m #[(.ref o0)] below meth c s₁ [] 0 0 := Stand.of_body Bd
  have e0 : s₁.heap = h0 := by rw [← hh, Bd.state]; rfl
  have N0 := Fr.nil n0
  have G0 := gd X0 hx hby
  have pre0 : ∀ t, Steps p.tables e below (s₁.setTop (mkF m 0 #[rv o0, .unset, .unset] [])) t → Steps p.tables e below (s₁.setTop (entryFrame m #[(.ref o0)] 3)) t := fun t k => castTop (ef6_2 m o0) k
  obtain ⟨T1, X1, e1, st1⟩ := getF X0 hx hZ hown (host := "") (Or.inl (wd hw 22 rfl)) Via.refl e0 F_lows_o0 (g := (mkF m 10 #[rv o0, iv (1 : Int32), iv (0 : Int32)] [(.ref o0), (.int (0 : Int32))])) rfl rfl (hb hby d6_10)
  have G1 := gd X1 hx hby
  obtain ⟨T2, X2, e2, st2⟩ := getF X1 hx hZ hown (host := "") (Or.inl (wd hw 22 rfl)) Via.refl e1 F_lows_o0 (g := (mkF m 20 #[rv o0, iv (1 : Int32), iv (0 : Int32)] [(.ref o0)])) rfl rfl (hb hby d6_20)
  have G2 := gd X2 hx hby
  obtain ⟨T4, X4, e4, st4⟩ : ∃ T' : State, Stand p l e (room_of_6_2) s m #[(.ref o0)] below meth c T' [] 0 0 ∧ T'.heap = h0 ∧ ∀ target, Steps p.tables e below (T'.setTop (mkF m 4 #[rv o0, iv (if (cmpValue (FP.dcmp a0 (0 : UInt64)) .l) = (0 : Int32) then (if (cmpValue (FP.dcmp c0 (0 : UInt64)) .l) = (0 : Int32) then (1 : Int32) else (0 : Int32)) else (0 : Int32)), iv (1 : Int32)] [])) target → Steps p.tables e below (T2.setTop (mkF m 27 #[rv o0, iv (1 : Int32), iv (0 : Int32)] [(.int (cmpValue (FP.dcmp a0 (0 : UInt64)) .l))])) target := by
    by_cases hc27_3 : (cmpValue (FP.dcmp a0 (0 : UInt64)) .l) = (0 : Int32)
    · obtain ⟨T5, X5, e5, st5⟩ := getF X2 hx hZ hown (host := "") (Or.inl (wd hw 24 rfl)) Via.refl e2 F_highs_o0 (g := (mkF m 31 #[rv o0, iv (1 : Int32), iv (0 : Int32)] [(.ref o0)])) rfl rfl (hb hby d6_31)
      have G5 := gd X5 hx hby
      by_cases hc38_6 : (cmpValue (FP.dcmp c0 (0 : UInt64)) .l) = (0 : Int32)
      · refine ⟨T5, X5, e5, fun target kt => ?_⟩
        refine mifNo 30 G2 d6_27 ((if0 _ _).trans (teq hc27_3).2) rfl ?_
        refine maloadN 31 G2 d6_30 rfl rfl rfl ?_
        refine st5 _ ?_
        show Steps p.tables e below (T5.setTop (mkF m 34 #[rv o0, iv (1 : Int32), iv (0 : Int32)] [(.ref w2)])) _
        refine miloadN 35 G5 d6_34 rfl rfl ?_
        refine mdaload 36 X5 hx hby hZ e5 V_w2 (v := c0) d6_35 ⟨by decide, by decide⟩ rfl rfl ?_
        refine mdconst0 37 G5 d6_36 (v := (0 : UInt64)) rfl rfl ?_
        refine mdcmp 38 G5 d6_37 rfl ?_
        refine mifNo 41 G5 d6_38 ((if0 _ _).trans (teq hc38_6).2) rfl ?_
        refine miconst 42 G5 d6_41 (v := (1 : Int32)) rfl rfl ?_
        refine mgoto 46 G5 d6_42 (by decide) rfl ?_
        refine mistoreN 47 G5 d6_46 #[rv o0, iv (1 : Int32), iv (0 : Int32)] rfl rfl ?_
        refine miinc 50 G5 d6_47 rfl #[rv o0, iv (1 : Int32), iv (1 : Int32)] rfl rfl ?_
        refine mgoto 4 G5 d6_50 (by decide) rfl ?_
        exact castTop (g' := (mkF m 4 #[rv o0, iv (if (cmpValue (FP.dcmp a0 (0 : UInt64)) .l) = (0 : Int32) then (if (cmpValue (FP.dcmp c0 (0 : UInt64)) .l) = (0 : Int32) then (1 : Int32) else (0 : Int32)) else (0 : Int32)), iv (1 : Int32)] [])) (by simp only [if_pos hc27_3, if_pos hc38_6]) kt
      · refine ⟨T5, X5, e5, fun target kt => ?_⟩
        refine mifNo 30 G2 d6_27 ((if0 _ _).trans (teq hc27_3).2) rfl ?_
        refine maloadN 31 G2 d6_30 rfl rfl rfl ?_
        refine st5 _ ?_
        show Steps p.tables e below (T5.setTop (mkF m 34 #[rv o0, iv (1 : Int32), iv (0 : Int32)] [(.ref w2)])) _
        refine miloadN 35 G5 d6_34 rfl rfl ?_
        refine mdaload 36 X5 hx hby hZ e5 V_w2 (v := c0) d6_35 ⟨by decide, by decide⟩ rfl rfl ?_
        refine mdconst0 37 G5 d6_36 (v := (0 : UInt64)) rfl rfl ?_
        refine mdcmp 38 G5 d6_37 rfl ?_
        refine mifYes 45 G5 d6_38 ((if0 _ _).trans (feq hc38_6).2) (by decide) rfl ?_
        refine miconst 46 G5 d6_45 (v := (0 : Int32)) rfl rfl ?_
        refine mistoreN 47 G5 d6_46 #[rv o0, iv (0 : Int32), iv (0 : Int32)] rfl rfl ?_
        refine miinc 50 G5 d6_47 rfl #[rv o0, iv (0 : Int32), iv (1 : Int32)] rfl rfl ?_
        refine mgoto 4 G5 d6_50 (by decide) rfl ?_
        exact castTop (g' := (mkF m 4 #[rv o0, iv (if (cmpValue (FP.dcmp a0 (0 : UInt64)) .l) = (0 : Int32) then (if (cmpValue (FP.dcmp c0 (0 : UInt64)) .l) = (0 : Int32) then (1 : Int32) else (0 : Int32)) else (0 : Int32)), iv (1 : Int32)] [])) (by simp only [if_pos hc27_3, if_neg hc38_6]) kt
    · refine ⟨T2, X2, e2, fun target kt => ?_⟩
      refine mifYes 45 G2 d6_27 ((if0 _ _).trans (feq hc27_3).2) (by decide) rfl ?_
      refine miconst 46 G2 d6_45 (v := (0 : Int32)) rfl rfl ?_
      refine mistoreN 47 G2 d6_46 #[rv o0, iv (0 : Int32), iv (0 : Int32)] rfl rfl ?_
      refine miinc 50 G2 d6_47 rfl #[rv o0, iv (0 : Int32), iv (1 : Int32)] rfl rfl ?_
      refine mgoto 4 G2 d6_50 (by decide) rfl ?_
      exact castTop (g' := (mkF m 4 #[rv o0, iv (if (cmpValue (FP.dcmp a0 (0 : UInt64)) .l) = (0 : Int32) then (if (cmpValue (FP.dcmp c0 (0 : UInt64)) .l) = (0 : Int32) then (1 : Int32) else (0 : Int32)) else (0 : Int32)), iv (1 : Int32)] [])) (by simp only [if_neg hc27_3]) kt
  have G4 := gd X4 hx hby
  obtain ⟨T8, X8, e8, st8⟩ : ∃ T' : State, Stand p l e (room_of_6_2) s m #[(.ref o0)] below meth c T' [] 0 0 ∧ T'.heap = h0 ∧ ∀ target, Steps p.tables e below (T'.setTop (mkF m 53 #[rv o0, iv (if (cmpValue (FP.dcmp a0 (0 : UInt64)) .l) = (0 : Int32) then (if (cmpValue (FP.dcmp c0 (0 : UInt64)) .l) = (0 : Int32) then (1 : Int32) else (0 : Int32)) else (0 : Int32)), iv (1 : Int32)] [])) target → Steps p.tables e below (T4.setTop (mkF m 5 #[rv o0, iv (if (cmpValue (FP.dcmp a0 (0 : UInt64)) .l) = (0 : Int32) then (if (cmpValue (FP.dcmp c0 (0 : UInt64)) .l) = (0 : Int32) then (1 : Int32) else (0 : Int32)) else (0 : Int32)), iv (1 : Int32)] [(.int (if (cmpValue (FP.dcmp a0 (0 : UInt64)) .l) = (0 : Int32) then (if (cmpValue (FP.dcmp c0 (0 : UInt64)) .l) = (0 : Int32) then (1 : Int32) else (0 : Int32)) else (0 : Int32)))])) target := by
    by_cases hc5_7 : (if (cmpValue (FP.dcmp a0 (0 : UInt64)) .l) = (0 : Int32) then (if (cmpValue (FP.dcmp c0 (0 : UInt64)) .l) = (0 : Int32) then (1 : Int32) else (0 : Int32)) else (0 : Int32)) = (0 : Int32)
    · refine ⟨T4, X4, e4, fun target kt => ?_⟩
      refine mifYes 53 G4 d6_5 ((if0 _ _).trans (teq hc5_7).1) (by decide) rfl ?_
      exact kt
    · obtain ⟨T9, X9, e9, st9⟩ := getF X4 hx hZ hown (host := "") (Or.inl (wd hw 22 rfl)) Via.refl e4 F_lows_o0 (g := (mkF m 10 #[rv o0, iv (if (cmpValue (FP.dcmp a0 (0 : UInt64)) .l) = (0 : Int32) then (if (cmpValue (FP.dcmp c0 (0 : UInt64)) .l) = (0 : Int32) then (1 : Int32) else (0 : Int32)) else (0 : Int32)), iv (1 : Int32)] [(.ref o0), (.int (1 : Int32))])) rfl rfl (hb hby d6_10)
      have G9 := gd X9 hx hby
      refine ⟨T9, X9, e9, fun target kt => ?_⟩
      refine mifNo 8 G4 d6_5 ((if0 _ _).trans (feq hc5_7).1) rfl ?_
      refine miloadN 9 G4 d6_8 rfl rfl ?_
      refine maloadN 10 G4 d6_9 rfl rfl rfl ?_
      refine st9 _ ?_
      show Steps p.tables e below (T9.setTop (mkF m 13 #[rv o0, iv (if (cmpValue (FP.dcmp a0 (0 : UInt64)) .l) = (0 : Int32) then (if (cmpValue (FP.dcmp c0 (0 : UInt64)) .l) = (0 : Int32) then (1 : Int32) else (0 : Int32)) else (0 : Int32)), iv (1 : Int32)] [(.ref w1), (.int (1 : Int32))])) _
      refine mlen 14 X9 hx hby hZ e9 V_w1 d6_13 rfl ?_
      refine miconst 15 G9 d6_14 (v := (1 : Int32)) rfl rfl ?_
      refine misub 16 G9 d6_15 (v := (1 : Int32)) rfl rfl ?_
      refine micmpYes 53 G9 d6_16 (flt (by decide : ¬ ((1 : Int32) < (1 : Int32)))).2.1 (by decide) rfl ?_
      exact kt
  have G8 := gd X8 hx hby
  obtain ⟨fs, hr, hrun, hended, hW, hsame⟩ := X8.leave (v := some (.int (if (cmpValue (FP.dcmp a0 (0 : UInt64)) .l) = (0 : Int32) then (if (cmpValue (FP.dcmp c0 (0 : UInt64)) .l) = (0 : Int32) then (1 : Int32) else (0 : Int32)) else (0 : Int32)))) (fun h => by rw [Bd.returns] at h; cases h)
  refine ⟨_, _, pre0 _ ?_, hrun, hended, _, _, rfl, ?_, ⟨_, rfl⟩, hW, hsame.mono (by decide) (by decide)⟩
  · show Steps p.tables e below (s₁.setTop (mkF m 0 #[rv o0, .unset, .unset] [])) _
    refine miconst 1 G0 d6_0 (v := (1 : Int32)) rfl rfl ?_
    refine mistoreN 2 G0 d6_1 #[rv o0, iv (1 : Int32), .unset] rfl rfl ?_
    refine miconst 3 G0 d6_2 (v := (0 : Int32)) rfl rfl ?_
    refine mistoreN 4 G0 d6_3 #[rv o0, iv (1 : Int32), iv (0 : Int32)] rfl rfl ?_
    refine miloadN 5 G0 d6_4 rfl rfl ?_
    refine mifNo 8 G0 d6_5 ((if0 _ _).trans (feq (by decide : ¬ ((1 : Int32) = (0 : Int32)))).1) rfl ?_
    refine miloadN 9 G0 d6_8 rfl rfl ?_
    refine maloadN 10 G0 d6_9 rfl rfl rfl ?_
    refine st1 _ ?_
    show Steps p.tables e below (T1.setTop (mkF m 13 #[rv o0, iv (1 : Int32), iv (0 : Int32)] [(.ref w1), (.int (0 : Int32))])) _
    refine mlen 14 X1 hx hby hZ e1 V_w1 d6_13 rfl ?_
    refine miconst 15 G1 d6_14 (v := (1 : Int32)) rfl rfl ?_
    refine misub 16 G1 d6_15 (v := (1 : Int32)) rfl rfl ?_
    refine micmpNo 19 G1 d6_16 (tlt (by decide : (0 : Int32) < (1 : Int32))).2.1 rfl ?_
    refine maloadN 20 G1 d6_19 rfl rfl rfl ?_
    refine st2 _ ?_
    show Steps p.tables e below (T2.setTop (mkF m 23 #[rv o0, iv (1 : Int32), iv (0 : Int32)] [(.ref w1)])) _
    refine miloadN 24 G2 d6_23 rfl rfl ?_
    refine mdaload 25 X2 hx hby hZ e2 V_w1 (v := a0) d6_24 ⟨by decide, by decide⟩ rfl rfl ?_
    refine mdconst0 26 G2 d6_25 (v := (0 : UInt64)) rfl rfl ?_
    refine mdcmp 27 G2 d6_26 rfl ?_
    refine st4 _ ?_
    refine miloadN 5 G4 d6_4 rfl rfl ?_
    refine st8 _ ?_
    refine miloadN 54 G8 d6_53 rfl rfl ?_
    exact retOut X8 hx Bd.returns (by first | rfl | ((repeat' split) <;> rfl)) (Or.inl ⟨rfl, by simp, _, rfl⟩) (hb hby d6_54) hr
  · show Q6_2 Z o0 w1 w2 k1 a0 a1 k2 c0 c1 h0 n0 _ T8.heap _
    rw [e8]
    exact ⟨by simp only [rv6_2], rfl, rfl⟩
theorem ef0_2 (m : MethodId) (p0 : Int32) (p1 : Int32) (p2 : Int32) (p3 : Int32) (p4 : Int32) : entryFrame m #[(.int p0), (.int p1), (.int p2), (.int p3), (.int p4)] maxLocals = mkF m 0 #[iv p0, iv p1, iv p2, iv p3, iv p4, .unset, .unset, .unset, .unset, .unset, .unset, .unset, .unset, .unset, .unset, .unset, .unset, .unset, .unset, .unset, .unset, .unset, .unset, .unset, .unset, .unset] [] := by first | (simp [entryFrame, mkF, argsToLocals, Value.category, maxLocals]; done) | rfl
theorem own_rm0_2_end (p0 : Int32) (p1 : Int32) (p2 : Int32) (p3 : Int32) (p4 : Int32) (x2 : UInt64) (hx2 : x2 = (rv1 p0 (0 : Int32) p3)) (x4 : UInt64) (hx4 : x4 = (rv1 p0 (1 : Int32) (p3 + (1 : Int32)))) (x6 : UInt64) (hx6 : x6 = (rv1 p0 (2 : Int32) (p3 + (2 : Int32)))) (x8 : UInt64) (hx8 : x8 = (rv1 p0 (3 : Int32) (p3 + (3 : Int32)))) (x10 : UInt64) (hx10 : x10 = (rv1 p1 (0 : Int32) p4)) (x12 : UInt64) (hx12 : x12 = (rv1 p1 (1 : Int32) (p4 - (1 : Int32)))) (x14 : UInt64) (hx14 : x14 = (rv1 p1 (2 : Int32) (p4 - (2 : Int32)))) (x16 : UInt64) (hx16 : x16 = (rv1 p1 (3 : Int32) (p4 - (3 : Int32)))) (x40 : Int32) (hx40 : x40 = (rv6_2 x2 x10)) (x43 : Int32) (hx43 : x43 = (if (cmpValue (FP.dcmp x2 (0 : UInt64)) .l) = (0 : Int32) then (if (cmpValue (FP.dcmp x10 (0 : UInt64)) .l) = (0 : Int32) then (1 : Int32) else (0 : Int32)) else (0 : Int32))) (x47 : Int32) (hx47 : x47 = (if x40 = x43 then (1 : Int32) else (0 : Int32))) (hpin6 : (((p2 &&& (7 : Int32)) % (5 : Int32)) = (2 : Int32))) : x47 = 1 := by subst_vars; simp only [rv6_2]; (repeat' split) <;> simp_all
set_option maxRecDepth 65536 in
set_option maxHeartbeats 40000000 in
theorem rm0_2 (l : Launch) (Z : State) (a0 : Array Value) (hw : ∀ d ∈ tables_1, d.before a0 Z = true) (ws : List Jvm.Cond) (p0 : Int32) (p1 : Int32) (p2 : Int32) (p3 : Int32) (p4 : Int32)  (h0 : Heap) (n0 : Nat) (Z0 : n0 ≤ h0.size) (hpin6 : ((p2 &&& (7 : Int32)) % (5 : Int32)) = (2 : Int32)) :
    MetFree l x (head1 (Jvm.Cond.code x code maxLocals ret :: ws) room_1) (fun a U => a = #[(.int p0), (.int p1), (.int p2), (.int p3), (.int p4)] ∧ Z.Warmed39 U.vm ∧ U.heap = h0) (fun _ _ _ _ _ => True) (fun _ U o U' => ∃ v L, o = .returned v ∧ Q0 Z p0 p1 p2 p3 p4 h0 n0 v U'.heap L ∧ FrameEnd U o U' L room_1.cells room_1.slots) := by
  refine MetFree.of_bodySF (plainFor_of_name pn_0) hisR ?_
  intro p e s m args below meth c s₁ Bd hml0 hP hK
  obtain ⟨rfl, hZ, hh⟩ := hP
  have hx := Bd.exec
  have hby := Bd.bytes
  have hml : c.maxLocals = 26 := hml0
  have hown : s.vm.findClass "com/example/oceanus/oceanus/analysis/LinearIsConstantPinLaw" = some m.cls := findClass_of_methodNamed Bd.named
  have hnm := (name_of_methodNamed Bd.named Bd.method).1
  have X0 : Stand p l e room_1 s m #[(.int p0), (.int p1), (.int p2), (.int p3), (.int p4)] below meth c s₁ [] 0 0 := Stand.of_body Bd
  have e0 : s₁.heap = h0 := by rw [← hh, Bd.state]; rfl
  have N0 := Fr.nil n0
  have G0 := gd X0 hx hby
  have pre0 : ∀ t, Steps p.tables e below (s₁.setTop (mkF m 0 #[iv p0, iv p1, iv p2, iv p3, iv p4, .unset, .unset, .unset, .unset, .unset, .unset, .unset, .unset, .unset, .unset, .unset, .unset, .unset, .unset, .unset, .unset, .unset, .unset, .unset, .unset, .unset] [])) t → Steps p.tables e below (s₁.setTop (entryFrame m #[(.int p0), (.int p1), (.int p2), (.int p3), (.int p4)] maxLocals)) t := fun t k => castTop (ef0_2 m p0 p1 p2 p3 p4) k
  obtain ⟨_, _, ⟨T1, L1, k1, n1⟩, -, X1, ⟨Lc1, hQ1, l1, y1, z1⟩, st1⟩ := Jvm.LawKit.callS X0 hx (y := (⟨"com/example/oceanus/oceanus/analysis/LinearIsConstantPinLaw", "entry", "(III)D"⟩ : MethodName)) hown (mvT hZ (wd hw 0 rfl)) (mvT hZ (wd hw 1 rfl)) (mvT hZ (wd hw 2 rfl)) (mvT hZ (wd hw 3 rfl)) (by decide) (backOf (W := 0) (rm1 l Z a0 hw [] p0 (0 : Int32) p3 h0 n0 Z0 ) hZ (wd hw 3 rfl) (wd hw 2 rfl) (by decide) (by decide)) (g := (mkF m 11 #[iv p0, iv p1, iv p2, iv p3, iv p4, iv (2 : Int32), .unset, .unset, .unset, .unset, .unset, .unset, .unset, .unset, .unset, .unset, .unset, .unset, .unset, .unset, .unset, .unset, .unset, .unset, .unset, .unset] [(.int p3), (.int (0 : Int32)), (.int p0)])) rfl (by rw [hml]; rfl) (argsL := [(.int p0), (.int (0 : Int32)), (.int p3)]) (rest := []) (lenOf pd_1 rfl) rfl (by show 2 * 0 + _ ≤ _; exact Nat.le_of_eq rfl) (hb hby at_11) (fun _ _ => ⟨rfl, e0, (by decide : 0 + 0 ≤ _), (by decide : 0 + 0 ≤ _)⟩)
  dsimp only [Pt.U, Pt.locs, Pt.cells, Pt.slots] at X1 l1 y1 z1 st1 hQ1
  replace l1 : ([] ++ Lc1) = L1 := l1.symm
  subst l1 y1 z1
  obtain ⟨rfl, rfl, e1⟩ := hQ1
  simp only [List.append_nil, Nat.add_zero] at X1
  have G1 := gd X1 hx hby
  obtain ⟨x2, hx2⟩ : ∃ z : UInt64, z = (rv1 p0 (0 : Int32) p3) := ⟨_, rfl⟩
  obtain ⟨_, _, ⟨T3, L3, k3, n3⟩, -, X3, ⟨Lc3, hQ3, l3, y3, z3⟩, st3⟩ := Jvm.LawKit.callS X1 hx (y := (⟨"com/example/oceanus/oceanus/analysis/LinearIsConstantPinLaw", "entry", "(III)D"⟩ : MethodName)) hown (mvT hZ (wd hw 0 rfl)) (mvT hZ (wd hw 1 rfl)) (mvT hZ (wd hw 2 rfl)) (mvT hZ (wd hw 3 rfl)) (by decide) (backOf (W := 0) (rm1 l Z a0 hw [] p0 (1 : Int32) ((p3 + (1 : Int32))) h0 n0 Z0 ) hZ (wd hw 3 rfl) (wd hw 2 rfl) (by decide) (by decide)) (g := (mkF m 21 #[iv p0, iv p1, iv p2, iv p3, iv p4, iv (2 : Int32), dv x2, .second, .unset, .unset, .unset, .unset, .unset, .unset, .unset, .unset, .unset, .unset, .unset, .unset, .unset, .unset, .unset, .unset, .unset, .unset] [(.int (p3 + (1 : Int32))), (.int (1 : Int32)), (.int p0)])) rfl (by rw [hml]; rfl) (argsL := [(.int p0), (.int (1 : Int32)), (.int (p3 + (1 : Int32)))]) (rest := []) (lenOf pd_1 rfl) rfl (by show 2 * 0 + _ ≤ _; exact Nat.le_of_eq rfl) (hb hby at_21) (fun _ _ => ⟨rfl, e1, (by decide : 0 + 0 ≤ _), (by decide : 0 + 0 ≤ _)⟩)
  dsimp only [Pt.U, Pt.locs, Pt.cells, Pt.slots] at X3 l3 y3 z3 st3 hQ3
  replace l3 : ([] ++ Lc3) = L3 := l3.symm
  subst l3 y3 z3
  obtain ⟨rfl, rfl, e3⟩ := hQ3
  simp only [List.append_nil, Nat.add_zero] at X3
  have G3 := gd X3 hx hby
  obtain ⟨x4, hx4⟩ : ∃ z : UInt64, z = (rv1 p0 (1 : Int32) (p3 + (1 : Int32))) := ⟨_, rfl⟩
  obtain ⟨_, _, ⟨T5, L5, k5, n5⟩, -, X5, ⟨Lc5, hQ5, l5, y5, z5⟩, st5⟩ := Jvm.LawKit.callS X3 hx (y := (⟨"com/example/oceanus/oceanus/analysis/LinearIsConstantPinLaw", "entry", "(III)D"⟩ : MethodName)) hown (mvT hZ (wd hw 0 rfl)) (mvT hZ (wd hw 1 rfl)) (mvT hZ (wd hw 2 rfl)) (mvT hZ (wd hw 3 rfl)) (by decide) (backOf (W := 0) (rm1 l Z a0 hw [] p0 (2 : Int32) ((p3 + (2 : Int32))) h0 n0 Z0 ) hZ (wd hw 3 rfl) (wd hw 2 rfl) (by decide) (by decide)) (g := (mkF m 31 #[iv p0, iv p1, iv p2, iv p3, iv p4, iv (2 : Int32), dv x2, .second, dv x4, .second, .unset, .unset, .unset, .unset, .unset, .unset, .unset, .unset, .unset, .unset, .unset, .unset, .unset, .unset, .unset, .unset] [(.int (p3 + (2 : Int32))), (.int (2 : Int32)), (.int p0)])) rfl (by rw [hml]; rfl) (argsL := [(.int p0), (.int (2 : Int32)), (.int (p3 + (2 : Int32)))]) (rest := []) (lenOf pd_1 rfl) rfl (by show 2 * 0 + _ ≤ _; exact Nat.le_of_eq rfl) (hb hby at_31) (fun _ _ => ⟨rfl, e3, (by decide : 0 + 0 ≤ _), (by decide : 0 + 0 ≤ _)⟩)
  dsimp only [Pt.U, Pt.locs, Pt.cells, Pt.slots] at X5 l5 y5 z5 st5 hQ5
  replace l5 : ([] ++ Lc5) = L5 := l5.symm
  subst l5 y5 z5
  obtain ⟨rfl, rfl, e5⟩ := hQ5
  simp only [List.append_nil, Nat.add_zero] at X5
  have G5 := gd X5 hx hby
  obtain ⟨x6, hx6⟩ : ∃ z : UInt64, z = (rv1 p0 (2 : Int32) (p3 + (2 : Int32))) := ⟨_, rfl⟩
  obtain ⟨_, _, ⟨T7, L7, k7, n7⟩, -, X7, ⟨Lc7, hQ7, l7, y7, z7⟩, st7⟩ := Jvm.LawKit.callS X5 hx (y := (⟨"com/example/oceanus/oceanus/analysis/LinearIsConstantPinLaw", "entry", "(III)D"⟩ : MethodName)) hown (mvT hZ (wd hw 0 rfl)) (mvT hZ (wd hw 1 rfl)) (mvT hZ (wd hw 2 rfl)) (mvT hZ (wd hw 3 rfl)) (by decide) (backOf (W := 0) (rm1 l Z a0 hw [] p0 (3 : Int32) ((p3 + (3 : Int32))) h0 n0 Z0 ) hZ (wd hw 3 rfl) (wd hw 2 rfl) (by decide) (by decide)) (g := (mkF m 41 #[iv p0, iv p1, iv p2, iv p3, iv p4, iv (2 : Int32), dv x2, .second, dv x4, .second, dv x6, .second, .unset, .unset, .unset, .unset, .unset, .unset, .unset, .unset, .unset, .unset, .unset, .unset, .unset, .unset] [(.int (p3 + (3 : Int32))), (.int (3 : Int32)), (.int p0)])) rfl (by rw [hml]; rfl) (argsL := [(.int p0), (.int (3 : Int32)), (.int (p3 + (3 : Int32)))]) (rest := []) (lenOf pd_1 rfl) rfl (by show 2 * 0 + _ ≤ _; exact Nat.le_of_eq rfl) (hb hby at_41) (fun _ _ => ⟨rfl, e5, (by decide : 0 + 0 ≤ _), (by decide : 0 + 0 ≤ _)⟩)
  dsimp only [Pt.U, Pt.locs, Pt.cells, Pt.slots] at X7 l7 y7 z7 st7 hQ7
  replace l7 : ([] ++ Lc7) = L7 := l7.symm
  subst l7 y7 z7
  obtain ⟨rfl, rfl, e7⟩ := hQ7
  simp only [List.append_nil, Nat.add_zero] at X7
  have G7 := gd X7 hx hby
  obtain ⟨x8, hx8⟩ : ∃ z : UInt64, z = (rv1 p0 (3 : Int32) (p3 + (3 : Int32))) := ⟨_, rfl⟩
  obtain ⟨_, _, ⟨T9, L9, k9, n9⟩, -, X9, ⟨Lc9, hQ9, l9, y9, z9⟩, st9⟩ := Jvm.LawKit.callS X7 hx (y := (⟨"com/example/oceanus/oceanus/analysis/LinearIsConstantPinLaw", "entry", "(III)D"⟩ : MethodName)) hown (mvT hZ (wd hw 0 rfl)) (mvT hZ (wd hw 1 rfl)) (mvT hZ (wd hw 2 rfl)) (mvT hZ (wd hw 3 rfl)) (by decide) (backOf (W := 0) (rm1 l Z a0 hw [] p1 (0 : Int32) p4 h0 n0 Z0 ) hZ (wd hw 3 rfl) (wd hw 2 rfl) (by decide) (by decide)) (g := (mkF m 50 #[iv p0, iv p1, iv p2, iv p3, iv p4, iv (2 : Int32), dv x2, .second, dv x4, .second, dv x6, .second, dv x8, .second, .unset, .unset, .unset, .unset, .unset, .unset, .unset, .unset, .unset, .unset, .unset, .unset] [(.int p4), (.int (0 : Int32)), (.int p1)])) rfl (by rw [hml]; rfl) (argsL := [(.int p1), (.int (0 : Int32)), (.int p4)]) (rest := []) (lenOf pd_1 rfl) rfl (by show 2 * 0 + _ ≤ _; exact Nat.le_of_eq rfl) (hb hby at_50) (fun _ _ => ⟨rfl, e7, (by decide : 0 + 0 ≤ _), (by decide : 0 + 0 ≤ _)⟩)
  dsimp only [Pt.U, Pt.locs, Pt.cells, Pt.slots] at X9 l9 y9 z9 st9 hQ9
  replace l9 : ([] ++ Lc9) = L9 := l9.symm
  subst l9 y9 z9
  obtain ⟨rfl, rfl, e9⟩ := hQ9
  simp only [List.append_nil, Nat.add_zero] at X9
  have G9 := gd X9 hx hby
  obtain ⟨x10, hx10⟩ : ∃ z : UInt64, z = (rv1 p1 (0 : Int32) p4) := ⟨_, rfl⟩
  obtain ⟨_, _, ⟨T11, L11, k11, n11⟩, -, X11, ⟨Lc11, hQ11, l11, y11, z11⟩, st11⟩ := Jvm.LawKit.callS X9 hx (y := (⟨"com/example/oceanus/oceanus/analysis/LinearIsConstantPinLaw", "entry", "(III)D"⟩ : MethodName)) hown (mvT hZ (wd hw 0 rfl)) (mvT hZ (wd hw 1 rfl)) (mvT hZ (wd hw 2 rfl)) (mvT hZ (wd hw 3 rfl)) (by decide) (backOf (W := 0) (rm1 l Z a0 hw [] p1 (1 : Int32) ((p4 - (1 : Int32))) h0 n0 Z0 ) hZ (wd hw 3 rfl) (wd hw 2 rfl) (by decide) (by decide)) (g := (mkF m 61 #[iv p0, iv p1, iv p2, iv p3, iv p4, iv (2 : Int32), dv x2, .second, dv x4, .second, dv x6, .second, dv x8, .second, dv x10, .second, .unset, .unset, .unset, .unset, .unset, .unset, .unset, .unset, .unset, .unset] [(.int (p4 - (1 : Int32))), (.int (1 : Int32)), (.int p1)])) rfl (by rw [hml]; rfl) (argsL := [(.int p1), (.int (1 : Int32)), (.int (p4 - (1 : Int32)))]) (rest := []) (lenOf pd_1 rfl) rfl (by show 2 * 0 + _ ≤ _; exact Nat.le_of_eq rfl) (hb hby at_61) (fun _ _ => ⟨rfl, e9, (by decide : 0 + 0 ≤ _), (by decide : 0 + 0 ≤ _)⟩)
  dsimp only [Pt.U, Pt.locs, Pt.cells, Pt.slots] at X11 l11 y11 z11 st11 hQ11
  replace l11 : ([] ++ Lc11) = L11 := l11.symm
  subst l11 y11 z11
  obtain ⟨rfl, rfl, e11⟩ := hQ11
  simp only [List.append_nil, Nat.add_zero] at X11
  have G11 := gd X11 hx hby
  obtain ⟨x12, hx12⟩ : ∃ z : UInt64, z = (rv1 p1 (1 : Int32) (p4 - (1 : Int32))) := ⟨_, rfl⟩
  obtain ⟨_, _, ⟨T13, L13, k13, n13⟩, -, X13, ⟨Lc13, hQ13, l13, y13, z13⟩, st13⟩ := Jvm.LawKit.callS X11 hx (y := (⟨"com/example/oceanus/oceanus/analysis/LinearIsConstantPinLaw", "entry", "(III)D"⟩ : MethodName)) hown (mvT hZ (wd hw 0 rfl)) (mvT hZ (wd hw 1 rfl)) (mvT hZ (wd hw 2 rfl)) (mvT hZ (wd hw 3 rfl)) (by decide) (backOf (W := 0) (rm1 l Z a0 hw [] p1 (2 : Int32) ((p4 - (2 : Int32))) h0 n0 Z0 ) hZ (wd hw 3 rfl) (wd hw 2 rfl) (by decide) (by decide)) (g := (mkF m 72 #[iv p0, iv p1, iv p2, iv p3, iv p4, iv (2 : Int32), dv x2, .second, dv x4, .second, dv x6, .second, dv x8, .second, dv x10, .second, dv x12, .second, .unset, .unset, .unset, .unset, .unset, .unset, .unset, .unset] [(.int (p4 - (2 : Int32))), (.int (2 : Int32)), (.int p1)])) rfl (by rw [hml]; rfl) (argsL := [(.int p1), (.int (2 : Int32)), (.int (p4 - (2 : Int32)))]) (rest := []) (lenOf pd_1 rfl) rfl (by show 2 * 0 + _ ≤ _; exact Nat.le_of_eq rfl) (hb hby at_72) (fun _ _ => ⟨rfl, e11, (by decide : 0 + 0 ≤ _), (by decide : 0 + 0 ≤ _)⟩)
  dsimp only [Pt.U, Pt.locs, Pt.cells, Pt.slots] at X13 l13 y13 z13 st13 hQ13
  replace l13 : ([] ++ Lc13) = L13 := l13.symm
  subst l13 y13 z13
  obtain ⟨rfl, rfl, e13⟩ := hQ13
  simp only [List.append_nil, Nat.add_zero] at X13
  have G13 := gd X13 hx hby
  obtain ⟨x14, hx14⟩ : ∃ z : UInt64, z = (rv1 p1 (2 : Int32) (p4 - (2 : Int32))) := ⟨_, rfl⟩
  obtain ⟨_, _, ⟨T15, L15, k15, n15⟩, -, X15, ⟨Lc15, hQ15, l15, y15, z15⟩, st15⟩ := Jvm.LawKit.callS X13 hx (y := (⟨"com/example/oceanus/oceanus/analysis/LinearIsConstantPinLaw", "entry", "(III)D"⟩ : MethodName)) hown (mvT hZ (wd hw 0 rfl)) (mvT hZ (wd hw 1 rfl)) (mvT hZ (wd hw 2 rfl)) (mvT hZ (wd hw 3 rfl)) (by decide) (backOf (W := 0) (rm1 l Z a0 hw [] p1 (3 : Int32) ((p4 - (3 : Int32))) h0 n0 Z0 ) hZ (wd hw 3 rfl) (wd hw 2 rfl) (by decide) (by decide)) (g := (mkF m 83 #[iv p0, iv p1, iv p2, iv p3, iv p4, iv (2 : Int32), dv x2, .second, dv x4, .second, dv x6, .second, dv x8, .second, dv x10, .second, dv x12, .second, dv x14, .second, .unset, .unset, .unset, .unset, .unset, .unset] [(.int (p4 - (3 : Int32))), (.int (3 : Int32)), (.int p1)])) rfl (by rw [hml]; rfl) (argsL := [(.int p1), (.int (3 : Int32)), (.int (p4 - (3 : Int32)))]) (rest := []) (lenOf pd_1 rfl) rfl (by show 2 * 0 + _ ≤ _; exact Nat.le_of_eq rfl) (hb hby at_83) (fun _ _ => ⟨rfl, e13, (by decide : 0 + 0 ≤ _), (by decide : 0 + 0 ≤ _)⟩)
  dsimp only [Pt.U, Pt.locs, Pt.cells, Pt.slots] at X15 l15 y15 z15 st15 hQ15
  replace l15 : ([] ++ Lc15) = L15 := l15.symm
  subst l15 y15 z15
  obtain ⟨rfl, rfl, e15⟩ := hQ15
  simp only [List.append_nil, Nat.add_zero] at X15
  have G15 := gd X15 hx hby
  obtain ⟨x16, hx16⟩ : ∃ z : UInt64, z = (rv1 p1 (3 : Int32) (p4 - (3 : Int32))) := ⟨_, rfl⟩
  obtain ⟨_, _, ⟨T17, L17, k17, n17⟩, -, X17, ⟨Lc17, hQ17, l17, y17, z17⟩, st17⟩ := Jvm.LawKit.callS X15 hx (y := (⟨"com/example/oceanus/oceanus/analysis/LinearIsConstantPinLaw", "make", "(IDDDD)[D"⟩ : MethodName)) hown (mvT hZ (wd hw 4 rfl)) (mvT hZ (wd hw 5 rfl)) (mvT hZ (wd hw 2 rfl)) (mvT hZ (wd hw 6 rfl)) (by decide) (backOf (W := 0) (rm2_2 l Z a0 hw [] x2 x4 x6 x8 h0 n0 Z0 ) hZ (wd hw 6 rfl) (wd hw 2 rfl) (by decide) (by decide)) (g := (mkF m 98 #[iv p0, iv p1, iv p2, iv p3, iv p4, iv (2 : Int32), dv x2, .second, dv x4, .second, dv x6, .second, dv x8, .second, dv x10, .second, dv x12, .second, dv x14, .second, dv x16, .second, .unset, .unset, .unset, .unset] [(.double x8), (.double x6), (.double x4), (.double x2), (.int (2 : Int32))])) rfl (by rw [hml]; rfl) (argsL := [(.int (2 : Int32)), (.double x2), (.double x4), (.double x6), (.double x8)]) (rest := []) (lenOf pd_2 rfl) rfl (by show 2 * 0 + _ ≤ _; exact Nat.le_of_eq rfl) (hb hby at_98) (fun _ _ => ⟨rfl, e15, (by decide : 0 + 1 ≤ _), (by decide : 0 + 2 ≤ _)⟩)
  dsimp only [Pt.U, Pt.locs, Pt.cells, Pt.slots] at X17 l17 y17 z17 st17 hQ17
  replace l17 : ([] ++ Lc17) = L17 := l17.symm
  subst l17 y17 z17
  obtain ⟨b17, k17, rfl, g_b17, sz17, Nq17, K17, V_b17⟩ := hQ17
  have N17 := Fr.app N0 Nq17
  have Z17k := Nat.le_trans Z0 K17.1
  have G17 := gd X17 hx hby
  obtain ⟨_, _, ⟨T19, L19, k19, n19⟩, -, X19, ⟨Lc19, hQ19, l19, y19, z19⟩, st19⟩ := Jvm.LawKit.callS X17 hx (y := (⟨"com/example/oceanus/oceanus/analysis/LinearIsConstantPinLaw", "make", "(IDDDD)[D"⟩ : MethodName)) hown (mvT hZ (wd hw 4 rfl)) (mvT hZ (wd hw 5 rfl)) (mvT hZ (wd hw 2 rfl)) (mvT hZ (wd hw 6 rfl)) (by decide) (backOf (W := 0) (rm2_2 l Z a0 hw [] x10 x12 x14 x16 T17.heap n0 Z17k ) hZ (wd hw 6 rfl) (wd hw 2 rfl) (by decide) (by decide)) (g := (mkF m 113 #[iv p0, iv p1, iv p2, iv p3, iv p4, iv (2 : Int32), dv x2, .second, dv x4, .second, dv x6, .second, dv x8, .second, dv x10, .second, dv x12, .second, dv x14, .second, dv x16, .second, rv b17, .unset, .unset, .unset] [(.double x16), (.double x14), (.double x12), (.double x10), (.int (2 : Int32))])) rfl (by rw [hml]; rfl) (argsL := [(.int (2 : Int32)), (.double x10), (.double x12), (.double x14), (.double x16)]) (rest := []) (lenOf pd_2 rfl) rfl (by show 2 * 0 + _ ≤ _; exact Nat.le_of_eq rfl) (hb hby at_113) (fun _ _ => ⟨rfl, rfl, (by decide : 1 + 1 ≤ _), (by decide : 2 + 2 ≤ _)⟩)
  dsimp only [Pt.U, Pt.locs, Pt.cells, Pt.slots] at X19 l19 y19 z19 st19 hQ19
  replace l19 : (([] ++ Lc17) ++ Lc19) = L19 := l19.symm
  subst l19 y19 z19
  obtain ⟨b19, k19, rfl, g_b19, sz19, Nq19, K19, V_b19⟩ := hQ19
  have ne_b17_b19 : b17 ≠ b19 := Nat.ne_of_lt (Nat.lt_of_lt_of_le V_b17.lt sz19)
  have N19 := Fr.app N17 Nq19
  have f21 := V_b17.keep K19 nin0
  have Z19k := Nat.le_trans Z17k K19.1
  have G19 := gd X19 hx hby
  obtain ⟨T24, h24, X24, e24, E24, A24, D24, -, st24⟩ := newO X19 hx hZ hown (wd hw 8 rfl) (wd hw 9 rfl) (wd hw 10 rfl) rfl (g := (mkF m 118 #[iv p0, iv p1, iv p2, iv p3, iv p4, iv (2 : Int32), dv x2, .second, dv x4, .second, dv x6, .second, dv x8, .second, dv x10, .second, dv x12, .second, dv x14, .second, dv x16, .second, rv b17, rv b19, .unset, .unset] [])) rfl (hb hby at_118) (by decide) (by decide)
  have G24 := gd X24 hx hby
  obtain ⟨b24, g24⟩ : ∃ z, z = T19.heap.size := ⟨_, rfl⟩
  rw [← g24] at A24 D24 st24
  have ne_b17_b24 : b17 ≠ b24 := Nat.ne_of_lt (Nat.lt_of_lt_of_le f21.lt (Nat.le_of_eq g24.symm))
  have ne_b19_b24 : b19 ≠ b24 := Nat.ne_of_lt (Nat.lt_of_lt_of_le V_b19.lt (Nat.le_of_eq g24.symm))
  have g_b24 : n0 ≤ b24 := Nat.le_trans Z19k (Nat.le_of_eq g24.symm)
  have f25 := f21.ext E24
  have f26 := V_b19.ext E24
  have Z24 := Nat.le_trans Z19k E24.1
  have F_lows_b24 : Fld Z h24 b24 "com/example/oceanus/oceanus/analysis/RoundingSpanArithmetic$Linear" "lows" "[D" .null := D24 (Or.inr (wd hw 23 rfl)) (ty := (.array .double)) (by decide)
  have F_highs_b24 : Fld Z h24 b24 "com/example/oceanus/oceanus/analysis/RoundingSpanArithmetic$Linear" "highs" "[D" .null := D24 (Or.inr (wd hw 25 rfl)) (ty := (.array .double)) (by decide)
  obtain ⟨_, _, ⟨T27, L27, k27, n27⟩, -, X27, ⟨Lc27, hQ27, l27, y27, z27⟩, st27⟩ := X24.specialBack hx (y := (⟨"com/example/oceanus/oceanus/analysis/RoundingSpanArithmetic$Linear", "<init>", "([D[D)V"⟩ : MethodName)) rfl hown (mvT hZ (wd hw 11 rfl)) (mvT hZ (wd hw 12 rfl)) (mvT hZ (wd hw 13 rfl)) (by decide) (backOf (W := 1) (rm3 l Z a0 hw [] b24 b17 b19 h24 n0 Z24 A24 g_b24 F_lows_b24 F_highs_b24) hZ (wd hw 13 rfl) (wd hw 10 rfl) (by decide) (by decide)) (g := (mkF m 126 #[iv p0, iv p1, iv p2, iv p3, iv p4, iv (2 : Int32), dv x2, .second, dv x4, .second, dv x6, .second, dv x8, .second, dv x10, .second, dv x12, .second, dv x14, .second, dv x16, .second, rv b17, rv b19, .unset, .unset] [(.ref b19), (.ref b17), (.ref b24), (.ref b24)])) rfl (by rw [hml]; rfl) (Steps.refl _) (a := b24) (argsL := [(.ref b17), (.ref b19)]) (rest := [(.ref b24)]) (lenOf pd_3 rfl) rfl (by show 2 * 0 + _ ≤ _; exact Nat.le_of_eq rfl) (hb hby at_126) (fun _ _ => ⟨rfl, e24, (by decide : 3 + 0 ≤ _), (by decide : 6 + 0 ≤ _)⟩)
  dsimp only [Pt.U, Pt.locs, Pt.cells, Pt.slots] at X27 l27 y27 z27 st27 hQ27
  replace l27 : ((([] ++ Lc17) ++ Lc19) ++ Lc27) = L27 := l27.symm
  subst l27 y27 z27
  obtain ⟨rfl, Nq27, K27, Eq27, Fq27_0, Fq27_1⟩ := hQ27
  have N27 := Fr.app N19 Nq27
  have f29 := f25.keep K27 (ninS ne_b17_b24 nin0)
  have f32 := f26.keep K27 (ninS ne_b19_b24 nin0)
  have f38 := A24.keep K27
  have Z27k := Nat.le_trans Z24 K27.1
  have G27 := gd X27 hx hby
  obtain ⟨cq39, kq39, q39a, q39b, q39c⟩ := isOf hZ rfl Eq27
  obtain ⟨_, _, ⟨T39, L39, k39, n39⟩, -, X39, ⟨Lc39, hQ39, l39, y39, z39⟩, st39⟩ := X27.virtualBack hx (y := (⟨"com/example/oceanus/oceanus/analysis/RoundingSpanArithmetic$Linear", "isConstant", "()Z"⟩ : MethodName)) (z := (⟨"com/example/oceanus/oceanus/analysis/RoundingSpanArithmetic$Linear", "isConstant", "()Z"⟩ : MethodName)) hown (mvT hZ (wd hw 26 rfl)) (mvT hZ (wd hw 27 rfl)) (notFace_of_selects (args := #[]) (mvT hZ (wd hw 29 rfl))) (mvT hZ (wd hw 29 rfl)) (mvT hZ (wd hw 28 rfl)) (by decide) (backOf (W := 0) (rm6_2 l Z a0 hw [] b24 T27.heap n0 Z27k Fq27_0 Fq27_1 f29 f32) hZ (wd hw 30 rfl) (wd hw 10 rfl) (by decide) (by decide)) q39a q39c (g := (mkF m 129 #[iv p0, iv p1, iv p2, iv p3, iv p4, iv (2 : Int32), dv x2, .second, dv x4, .second, dv x6, .second, dv x8, .second, dv x10, .second, dv x12, .second, dv x14, .second, dv x16, .second, rv b17, rv b19, .unset, .unset] [(.ref b24)])) rfl (by rw [hml]; rfl) (Steps.refl _) (argsL := []) (rest := []) (lenOf pd_4 rfl) rfl (by show 2 * 0 + _ ≤ _; exact Nat.le_of_eq rfl) (hb hby at_129) (fun _ _ => ⟨rfl, rfl, (by decide : 3 + 0 ≤ _), (by decide : 6 + 0 ≤ _)⟩)
  dsimp only [Pt.U, Pt.locs, Pt.cells, Pt.slots] at X39 l39 y39 z39 st39 hQ39
  replace l39 : (((([] ++ Lc17) ++ Lc19) ++ Lc27) ++ Lc39) = L39 := l39.symm
  subst l39 y39 z39
  obtain ⟨rfl, rfl, e39⟩ := hQ39
  simp only [List.append_nil, Nat.add_zero] at X39
  have G39 := gd X39 hx hby
  obtain ⟨x40, hx40⟩ : ∃ z : Int32, z = (rv6_2 x2 x10) := ⟨_, rfl⟩
  obtain ⟨x43, hx43⟩ : ∃ z : Int32, z = (if (cmpValue (FP.dcmp x2 (0 : UInt64)) .l) = (0 : Int32) then (if (cmpValue (FP.dcmp x10 (0 : UInt64)) .l) = (0 : Int32) then (1 : Int32) else (0 : Int32)) else (0 : Int32)) := ⟨_, rfl⟩
  obtain ⟨T42, X42, e42, st42⟩ : ∃ T' : State, Stand p l e room_1 s m #[(.int p0), (.int p1), (.int p2), (.int p3), (.int p4)] below meth c T' ((([] ++ Lc17) ++ Lc19) ++ Lc27) 3 6 ∧ T'.heap = T27.heap ∧ ∀ target, Steps p.tables e below (T'.setTop (mkF m 199 #[iv p0, iv p1, iv p2, iv p3, iv p4, iv (2 : Int32), dv x2, .second, dv x4, .second, dv x6, .second, dv x8, .second, dv x10, .second, dv x12, .second, dv x14, .second, dv x16, .second, rv b17, rv b19, iv x40, .unset] [(.int x43)])) target → Steps p.tables e below (T39.setTop (mkF m 144 #[iv p0, iv p1, iv p2, iv p3, iv p4, iv (2 : Int32), dv x2, .second, dv x4, .second, dv x6, .second, dv x8, .second, dv x10, .second, dv x12, .second, dv x14, .second, dv x16, .second, rv b17, rv b19, iv x40, .unset] [(.int (cmpValue (FP.dcmp x2 (0 : UInt64)) .l))])) target := by
    by_cases hc144_41 : (cmpValue (FP.dcmp x2 (0 : UInt64)) .l) = (0 : Int32)
    · by_cases hc151_44 : (cmpValue (FP.dcmp x10 (0 : UInt64)) .l) = (0 : Int32)
      · refine ⟨T39, X39, e39, fun target kt => ?_⟩
        refine mifNo 147 G39 at_144 ((if0 _ _).trans (teq hc144_41).2) rfl ?_
        refine mdload 149 G39 at_147 rfl rfl ?_
        refine mdconst0 150 G39 at_149 (v := (0 : UInt64)) rfl rfl ?_
        refine mdcmp 151 G39 at_150 rfl ?_
        refine mifNo 154 G39 at_151 ((if0 _ _).trans (teq hc151_44).2) rfl ?_
        refine miload 156 G39 at_154 rfl rfl ?_
        refine miconst 157 G39 at_156 (v := (2 : Int32)) rfl rfl ?_
        refine micmpYes 174 G39 at_157 (flt (by decide : ¬ ((2 : Int32) < (2 : Int32)))).2.2.2 (by decide) rfl ?_
        refine miload 176 G39 at_174 rfl rfl ?_
        refine miconst 177 G39 at_176 (v := (3 : Int32)) rfl rfl ?_
        refine micmpYes 194 G39 at_177 (flt (by decide : ¬ ((3 : Int32) < (2 : Int32)))).2.2.2 (by decide) rfl ?_
        refine miconst 195 G39 at_194 (v := (1 : Int32)) rfl rfl ?_
        refine mgoto 199 G39 at_195 (by decide) rfl ?_
        exact castTop (g' := (mkF m 199 #[iv p0, iv p1, iv p2, iv p3, iv p4, iv (2 : Int32), dv x2, .second, dv x4, .second, dv x6, .second, dv x8, .second, dv x10, .second, dv x12, .second, dv x14, .second, dv x16, .second, rv b17, rv b19, iv x40, .unset] [(.int x43)])) (by simp only [hx43, if_pos hc144_41, if_pos hc151_44]) kt
      · refine ⟨T39, X39, e39, fun target kt => ?_⟩
        refine mifNo 147 G39 at_144 ((if0 _ _).trans (teq hc144_41).2) rfl ?_
        refine mdload 149 G39 at_147 rfl rfl ?_
        refine mdconst0 150 G39 at_149 (v := (0 : UInt64)) rfl rfl ?_
        refine mdcmp 151 G39 at_150 rfl ?_
        refine mifYes 198 G39 at_151 ((if0 _ _).trans (feq hc151_44).2) (by decide) rfl ?_
        refine miconst 199 G39 at_198 (v := (0 : Int32)) rfl rfl ?_
        exact castTop (g' := (mkF m 199 #[iv p0, iv p1, iv p2, iv p3, iv p4, iv (2 : Int32), dv x2, .second, dv x4, .second, dv x6, .second, dv x8, .second, dv x10, .second, dv x12, .second, dv x14, .second, dv x16, .second, rv b17, rv b19, iv x40, .unset] [(.int x43)])) (by simp only [hx43, if_pos hc144_41, if_neg hc151_44]) kt
    · refine ⟨T39, X39, e39, fun target kt => ?_⟩
      refine mifYes 198 G39 at_144 ((if0 _ _).trans (feq hc144_41).2) (by decide) rfl ?_
      refine miconst 199 G39 at_198 (v := (0 : Int32)) rfl rfl ?_
      exact castTop (g' := (mkF m 199 #[iv p0, iv p1, iv p2, iv p3, iv p4, iv (2 : Int32), dv x2, .second, dv x4, .second, dv x6, .second, dv x8, .second, dv x10, .second, dv x12, .second, dv x14, .second, dv x16, .second, rv b17, rv b19, iv x40, .unset] [(.int x43)])) (by simp only [hx43, if_neg hc144_41]) kt
  have G42 := gd X42 hx hby
  obtain ⟨x47, hx47⟩ : ∃ z : Int32, z = (if x40 = x43 then (1 : Int32) else (0 : Int32)) := ⟨_, rfl⟩
  obtain ⟨T46, X46, e46, st46⟩ : ∃ T' : State, Stand p l e room_1 s m #[(.int p0), (.int p1), (.int p2), (.int p3), (.int p4)] below meth c T' ((([] ++ Lc17) ++ Lc19) ++ Lc27) 3 6 ∧ T'.heap = T27.heap ∧ ∀ target, Steps p.tables e below (T'.setTop (mkF m 213 #[iv p0, iv p1, iv p2, iv p3, iv p4, iv (2 : Int32), dv x2, .second, dv x4, .second, dv x6, .second, dv x8, .second, dv x10, .second, dv x12, .second, dv x14, .second, dv x16, .second, rv b17, rv b19, iv x40, iv x43] [(.int x47)])) target → Steps p.tables e below (T42.setTop (mkF m 205 #[iv p0, iv p1, iv p2, iv p3, iv p4, iv (2 : Int32), dv x2, .second, dv x4, .second, dv x6, .second, dv x8, .second, dv x10, .second, dv x12, .second, dv x14, .second, dv x16, .second, rv b17, rv b19, iv x40, iv x43] [(.int x43), (.int x40)])) target := by
    by_cases hc205_45 : x40 = x43
    · refine ⟨T42, X42, e42, fun target kt => ?_⟩
      refine micmpNo 208 G42 at_205 (teq hc205_45).2 rfl ?_
      refine miconst 209 G42 at_208 (v := (1 : Int32)) rfl rfl ?_
      refine mgoto 213 G42 at_209 (by decide) rfl ?_
      exact castTop (g' := (mkF m 213 #[iv p0, iv p1, iv p2, iv p3, iv p4, iv (2 : Int32), dv x2, .second, dv x4, .second, dv x6, .second, dv x8, .second, dv x10, .second, dv x12, .second, dv x14, .second, dv x16, .second, rv b17, rv b19, iv x40, iv x43] [(.int x47)])) (by simp only [hx47, if_pos hc205_45]) kt
    · refine ⟨T42, X42, e42, fun target kt => ?_⟩
      refine micmpYes 212 G42 at_205 (feq hc205_45).2 (by decide) rfl ?_
      refine miconst 213 G42 at_212 (v := (0 : Int32)) rfl rfl ?_
      exact castTop (g' := (mkF m 213 #[iv p0, iv p1, iv p2, iv p3, iv p4, iv (2 : Int32), dv x2, .second, dv x4, .second, dv x6, .second, dv x8, .second, dv x10, .second, dv x12, .second, dv x14, .second, dv x16, .second, rv b17, rv b19, iv x40, iv x43] [(.int x47)])) (by simp only [hx47, if_neg hc205_45]) kt
  have G46 := gd X46 hx hby
  have hend : x47 = 1 := (own_rm0_2_end p0 p1 p2 p3 p4 x2 hx2 x4 hx4 x6 hx6 x8 hx8 x10 hx10 x12 hx12 x14 hx14 x16 hx16 x40 hx40 x43 hx43 x47 hx47 hpin6)
  obtain ⟨fs, hr, hrun, hended, hW, hsame⟩ := X46.leave (v := some (.int (1 : Int32))) (fun h => by rw [Bd.returns] at h; cases h)
  refine ⟨_, _, pre0 _ ?_, hrun, hended, _, _, rfl, ?_, ⟨_, rfl⟩, hW, hsame.mono (by decide) (by decide)⟩
  · show Steps p.tables e below (s₁.setTop (mkF m 0 #[iv p0, iv p1, iv p2, iv p3, iv p4, .unset, .unset, .unset, .unset, .unset, .unset, .unset, .unset, .unset, .unset, .unset, .unset, .unset, .unset, .unset, .unset, .unset, .unset, .unset, .unset, .unset] [])) _
    refine miloadN 1 G0 at_0 rfl rfl ?_
    refine mbipush 3 G0 at_1 (v := (7 : Int32)) rfl rfl ?_
    refine miand 4 G0 at_3 rfl rfl ?_
    refine miconst 5 G0 at_4 (v := (5 : Int32)) rfl rfl ?_
    refine mirem 6 G0 at_5 (by decide) (irem_eq_mod _ _) rfl ?_
    refine castTop (g' := (mkF m 6 #[iv p0, iv p1, iv p2, iv p3, iv p4, .unset, .unset, .unset, .unset, .unset, .unset, .unset, .unset, .unset, .unset, .unset, .unset, .unset, .unset, .unset, .unset, .unset, .unset, .unset, .unset, .unset] [(.int (2 : Int32))])) (by rw [hpin6]) ?_
    refine mistore 8 G0 at_6 #[iv p0, iv p1, iv p2, iv p3, iv p4, iv (2 : Int32), .unset, .unset, .unset, .unset, .unset, .unset, .unset, .unset, .unset, .unset, .unset, .unset, .unset, .unset, .unset, .unset, .unset, .unset, .unset, .unset] rfl rfl ?_
    refine miloadN 9 G0 at_8 rfl rfl ?_
    refine miconst 10 G0 at_9 (v := (0 : Int32)) rfl rfl ?_
    refine miloadN 11 G0 at_10 rfl rfl ?_
    refine st1 _ ?_
    show Steps p.tables e below (T1.setTop (mkF m 14 #[iv p0, iv p1, iv p2, iv p3, iv p4, iv (2 : Int32), .unset, .unset, .unset, .unset, .unset, .unset, .unset, .unset, .unset, .unset, .unset, .unset, .unset, .unset, .unset, .unset, .unset, .unset, .unset, .unset] [(.double (rv1 p0 (0 : Int32) p3))])) _
    refine castTop (g' := (mkF m 14 #[iv p0, iv p1, iv p2, iv p3, iv p4, iv (2 : Int32), .unset, .unset, .unset, .unset, .unset, .unset, .unset, .unset, .unset, .unset, .unset, .unset, .unset, .unset, .unset, .unset, .unset, .unset, .unset, .unset] [(.double x2)])) (by rw [hx2]) ?_
    refine mdstore 16 G1 at_14 #[iv p0, iv p1, iv p2, iv p3, iv p4, iv (2 : Int32), dv x2, .second, .unset, .unset, .unset, .unset, .unset, .unset, .unset, .unset, .unset, .unset, .unset, .unset, .unset, .unset, .unset, .unset, .unset, .unset] rfl rfl ?_
    refine miloadN 17 G1 at_16 rfl rfl ?_
    refine miconst 18 G1 at_17 (v := (1 : Int32)) rfl rfl ?_
    refine miloadN 19 G1 at_18 rfl rfl ?_
    refine miconst 20 G1 at_19 (v := (1 : Int32)) rfl rfl ?_
    refine miadd 21 G1 at_20 rfl rfl ?_
    refine st3 _ ?_
    show Steps p.tables e below (T3.setTop (mkF m 24 #[iv p0, iv p1, iv p2, iv p3, iv p4, iv (2 : Int32), dv x2, .second, .unset, .unset, .unset, .unset, .unset, .unset, .unset, .unset, .unset, .unset, .unset, .unset, .unset, .unset, .unset, .unset, .unset, .unset] [(.double (rv1 p0 (1 : Int32) (p3 + (1 : Int32))))])) _
    refine castTop (g' := (mkF m 24 #[iv p0, iv p1, iv p2, iv p3, iv p4, iv (2 : Int32), dv x2, .second, .unset, .unset, .unset, .unset, .unset, .unset, .unset, .unset, .unset, .unset, .unset, .unset, .unset, .unset, .unset, .unset, .unset, .unset] [(.double x4)])) (by rw [hx4]) ?_
    refine mdstore 26 G3 at_24 #[iv p0, iv p1, iv p2, iv p3, iv p4, iv (2 : Int32), dv x2, .second, dv x4, .second, .unset, .unset, .unset, .unset, .unset, .unset, .unset, .unset, .unset, .unset, .unset, .unset, .unset, .unset, .unset, .unset] rfl rfl ?_
    refine miloadN 27 G3 at_26 rfl rfl ?_
    refine miconst 28 G3 at_27 (v := (2 : Int32)) rfl rfl ?_
    refine miloadN 29 G3 at_28 rfl rfl ?_
    refine miconst 30 G3 at_29 (v := (2 : Int32)) rfl rfl ?_
    refine miadd 31 G3 at_30 rfl rfl ?_
    refine st5 _ ?_
    show Steps p.tables e below (T5.setTop (mkF m 34 #[iv p0, iv p1, iv p2, iv p3, iv p4, iv (2 : Int32), dv x2, .second, dv x4, .second, .unset, .unset, .unset, .unset, .unset, .unset, .unset, .unset, .unset, .unset, .unset, .unset, .unset, .unset, .unset, .unset] [(.double (rv1 p0 (2 : Int32) (p3 + (2 : Int32))))])) _
    refine castTop (g' := (mkF m 34 #[iv p0, iv p1, iv p2, iv p3, iv p4, iv (2 : Int32), dv x2, .second, dv x4, .second, .unset, .unset, .unset, .unset, .unset, .unset, .unset, .unset, .unset, .unset, .unset, .unset, .unset, .unset, .unset, .unset] [(.double x6)])) (by rw [hx6]) ?_
    refine mdstore 36 G5 at_34 #[iv p0, iv p1, iv p2, iv p3, iv p4, iv (2 : Int32), dv x2, .second, dv x4, .second, dv x6, .second, .unset, .unset, .unset, .unset, .unset, .unset, .unset, .unset, .unset, .unset, .unset, .unset, .unset, .unset] rfl rfl ?_
    refine miloadN 37 G5 at_36 rfl rfl ?_
    refine miconst 38 G5 at_37 (v := (3 : Int32)) rfl rfl ?_
    refine miloadN 39 G5 at_38 rfl rfl ?_
    refine miconst 40 G5 at_39 (v := (3 : Int32)) rfl rfl ?_
    refine miadd 41 G5 at_40 rfl rfl ?_
    refine st7 _ ?_
    show Steps p.tables e below (T7.setTop (mkF m 44 #[iv p0, iv p1, iv p2, iv p3, iv p4, iv (2 : Int32), dv x2, .second, dv x4, .second, dv x6, .second, .unset, .unset, .unset, .unset, .unset, .unset, .unset, .unset, .unset, .unset, .unset, .unset, .unset, .unset] [(.double (rv1 p0 (3 : Int32) (p3 + (3 : Int32))))])) _
    refine castTop (g' := (mkF m 44 #[iv p0, iv p1, iv p2, iv p3, iv p4, iv (2 : Int32), dv x2, .second, dv x4, .second, dv x6, .second, .unset, .unset, .unset, .unset, .unset, .unset, .unset, .unset, .unset, .unset, .unset, .unset, .unset, .unset] [(.double x8)])) (by rw [hx8]) ?_
    refine mdstore 46 G7 at_44 #[iv p0, iv p1, iv p2, iv p3, iv p4, iv (2 : Int32), dv x2, .second, dv x4, .second, dv x6, .second, dv x8, .second, .unset, .unset, .unset, .unset, .unset, .unset, .unset, .unset, .unset, .unset, .unset, .unset] rfl rfl ?_
    refine miloadN 47 G7 at_46 rfl rfl ?_
    refine miconst 48 G7 at_47 (v := (0 : Int32)) rfl rfl ?_
    refine miload 50 G7 at_48 rfl rfl ?_
    refine st9 _ ?_
    show Steps p.tables e below (T9.setTop (mkF m 53 #[iv p0, iv p1, iv p2, iv p3, iv p4, iv (2 : Int32), dv x2, .second, dv x4, .second, dv x6, .second, dv x8, .second, .unset, .unset, .unset, .unset, .unset, .unset, .unset, .unset, .unset, .unset, .unset, .unset] [(.double (rv1 p1 (0 : Int32) p4))])) _
    refine castTop (g' := (mkF m 53 #[iv p0, iv p1, iv p2, iv p3, iv p4, iv (2 : Int32), dv x2, .second, dv x4, .second, dv x6, .second, dv x8, .second, .unset, .unset, .unset, .unset, .unset, .unset, .unset, .unset, .unset, .unset, .unset, .unset] [(.double x10)])) (by rw [hx10]) ?_
    refine mdstore 55 G9 at_53 #[iv p0, iv p1, iv p2, iv p3, iv p4, iv (2 : Int32), dv x2, .second, dv x4, .second, dv x6, .second, dv x8, .second, dv x10, .second, .unset, .unset, .unset, .unset, .unset, .unset, .unset, .unset, .unset, .unset] rfl rfl ?_
    refine miloadN 56 G9 at_55 rfl rfl ?_
    refine miconst 57 G9 at_56 (v := (1 : Int32)) rfl rfl ?_
    refine miload 59 G9 at_57 rfl rfl ?_
    refine miconst 60 G9 at_59 (v := (1 : Int32)) rfl rfl ?_
    refine misub 61 G9 at_60 rfl rfl ?_
    refine st11 _ ?_
    show Steps p.tables e below (T11.setTop (mkF m 64 #[iv p0, iv p1, iv p2, iv p3, iv p4, iv (2 : Int32), dv x2, .second, dv x4, .second, dv x6, .second, dv x8, .second, dv x10, .second, .unset, .unset, .unset, .unset, .unset, .unset, .unset, .unset, .unset, .unset] [(.double (rv1 p1 (1 : Int32) (p4 - (1 : Int32))))])) _
    refine castTop (g' := (mkF m 64 #[iv p0, iv p1, iv p2, iv p3, iv p4, iv (2 : Int32), dv x2, .second, dv x4, .second, dv x6, .second, dv x8, .second, dv x10, .second, .unset, .unset, .unset, .unset, .unset, .unset, .unset, .unset, .unset, .unset] [(.double x12)])) (by rw [hx12]) ?_
    refine mdstore 66 G11 at_64 #[iv p0, iv p1, iv p2, iv p3, iv p4, iv (2 : Int32), dv x2, .second, dv x4, .second, dv x6, .second, dv x8, .second, dv x10, .second, dv x12, .second, .unset, .unset, .unset, .unset, .unset, .unset, .unset, .unset] rfl rfl ?_
    refine miloadN 67 G11 at_66 rfl rfl ?_
    refine miconst 68 G11 at_67 (v := (2 : Int32)) rfl rfl ?_
    refine miload 70 G11 at_68 rfl rfl ?_
    refine miconst 71 G11 at_70 (v := (2 : Int32)) rfl rfl ?_
    refine misub 72 G11 at_71 rfl rfl ?_
    refine st13 _ ?_
    show Steps p.tables e below (T13.setTop (mkF m 75 #[iv p0, iv p1, iv p2, iv p3, iv p4, iv (2 : Int32), dv x2, .second, dv x4, .second, dv x6, .second, dv x8, .second, dv x10, .second, dv x12, .second, .unset, .unset, .unset, .unset, .unset, .unset, .unset, .unset] [(.double (rv1 p1 (2 : Int32) (p4 - (2 : Int32))))])) _
    refine castTop (g' := (mkF m 75 #[iv p0, iv p1, iv p2, iv p3, iv p4, iv (2 : Int32), dv x2, .second, dv x4, .second, dv x6, .second, dv x8, .second, dv x10, .second, dv x12, .second, .unset, .unset, .unset, .unset, .unset, .unset, .unset, .unset] [(.double x14)])) (by rw [hx14]) ?_
    refine mdstore 77 G13 at_75 #[iv p0, iv p1, iv p2, iv p3, iv p4, iv (2 : Int32), dv x2, .second, dv x4, .second, dv x6, .second, dv x8, .second, dv x10, .second, dv x12, .second, dv x14, .second, .unset, .unset, .unset, .unset, .unset, .unset] rfl rfl ?_
    refine miloadN 78 G13 at_77 rfl rfl ?_
    refine miconst 79 G13 at_78 (v := (3 : Int32)) rfl rfl ?_
    refine miload 81 G13 at_79 rfl rfl ?_
    refine miconst 82 G13 at_81 (v := (3 : Int32)) rfl rfl ?_
    refine misub 83 G13 at_82 rfl rfl ?_
    refine st15 _ ?_
    show Steps p.tables e below (T15.setTop (mkF m 86 #[iv p0, iv p1, iv p2, iv p3, iv p4, iv (2 : Int32), dv x2, .second, dv x4, .second, dv x6, .second, dv x8, .second, dv x10, .second, dv x12, .second, dv x14, .second, .unset, .unset, .unset, .unset, .unset, .unset] [(.double (rv1 p1 (3 : Int32) (p4 - (3 : Int32))))])) _
    refine castTop (g' := (mkF m 86 #[iv p0, iv p1, iv p2, iv p3, iv p4, iv (2 : Int32), dv x2, .second, dv x4, .second, dv x6, .second, dv x8, .second, dv x10, .second, dv x12, .second, dv x14, .second, .unset, .unset, .unset, .unset, .unset, .unset] [(.double x16)])) (by rw [hx16]) ?_
    refine mdstore 88 G15 at_86 #[iv p0, iv p1, iv p2, iv p3, iv p4, iv (2 : Int32), dv x2, .second, dv x4, .second, dv x6, .second, dv x8, .second, dv x10, .second, dv x12, .second, dv x14, .second, dv x16, .second, .unset, .unset, .unset, .unset] rfl rfl ?_
    refine miload 90 G15 at_88 rfl rfl ?_
    refine mdload 92 G15 at_90 rfl rfl ?_
    refine mdload 94 G15 at_92 rfl rfl ?_
    refine mdload 96 G15 at_94 rfl rfl ?_
    refine mdload 98 G15 at_96 rfl rfl ?_
    refine st17 _ ?_
    show Steps p.tables e below (T17.setTop (mkF m 101 #[iv p0, iv p1, iv p2, iv p3, iv p4, iv (2 : Int32), dv x2, .second, dv x4, .second, dv x6, .second, dv x8, .second, dv x10, .second, dv x12, .second, dv x14, .second, dv x16, .second, .unset, .unset, .unset, .unset] [(.ref b17)])) _
    refine mastore 103 G17 at_101 rfl #[iv p0, iv p1, iv p2, iv p3, iv p4, iv (2 : Int32), dv x2, .second, dv x4, .second, dv x6, .second, dv x8, .second, dv x10, .second, dv x12, .second, dv x14, .second, dv x16, .second, rv b17, .unset, .unset, .unset] rfl rfl ?_
    refine miload 105 G17 at_103 rfl rfl ?_
    refine mdload 107 G17 at_105 rfl rfl ?_
    refine mdload 109 G17 at_107 rfl rfl ?_
    refine mdload 111 G17 at_109 rfl rfl ?_
    refine mdload 113 G17 at_111 rfl rfl ?_
    refine st19 _ ?_
    show Steps p.tables e below (T19.setTop (mkF m 116 #[iv p0, iv p1, iv p2, iv p3, iv p4, iv (2 : Int32), dv x2, .second, dv x4, .second, dv x6, .second, dv x8, .second, dv x10, .second, dv x12, .second, dv x14, .second, dv x16, .second, rv b17, .unset, .unset, .unset] [(.ref b19)])) _
    refine mastore 118 G19 at_116 rfl #[iv p0, iv p1, iv p2, iv p3, iv p4, iv (2 : Int32), dv x2, .second, dv x4, .second, dv x6, .second, dv x8, .second, dv x10, .second, dv x12, .second, dv x14, .second, dv x16, .second, rv b17, rv b19, .unset, .unset] rfl rfl ?_
    refine st24 _ ?_
    show Steps p.tables e below (T24.setTop (mkF m 121 #[iv p0, iv p1, iv p2, iv p3, iv p4, iv (2 : Int32), dv x2, .second, dv x4, .second, dv x6, .second, dv x8, .second, dv x10, .second, dv x12, .second, dv x14, .second, dv x16, .second, rv b17, rv b19, .unset, .unset] [(.ref b24)])) _
    refine mdup 122 G24 at_121 rfl rfl ?_
    refine maload 124 G24 at_122 rfl rfl rfl ?_
    refine maload 126 G24 at_124 rfl rfl rfl ?_
    refine st27.trans ?_
    show Steps p.tables e below (T27.setTop (mkF m 129 #[iv p0, iv p1, iv p2, iv p3, iv p4, iv (2 : Int32), dv x2, .second, dv x4, .second, dv x6, .second, dv x8, .second, dv x10, .second, dv x12, .second, dv x14, .second, dv x16, .second, rv b17, rv b19, .unset, .unset] [(.ref b24)])) _
    refine st39.trans ?_
    show Steps p.tables e below (T39.setTop (mkF m 132 #[iv p0, iv p1, iv p2, iv p3, iv p4, iv (2 : Int32), dv x2, .second, dv x4, .second, dv x6, .second, dv x8, .second, dv x10, .second, dv x12, .second, dv x14, .second, dv x16, .second, rv b17, rv b19, .unset, .unset] [(.int (rv6_2 x2 x10))])) _
    refine castTop (g' := (mkF m 132 #[iv p0, iv p1, iv p2, iv p3, iv p4, iv (2 : Int32), dv x2, .second, dv x4, .second, dv x6, .second, dv x8, .second, dv x10, .second, dv x12, .second, dv x14, .second, dv x16, .second, rv b17, rv b19, .unset, .unset] [(.int x40)])) (by rw [hx40]) ?_
    refine mistore 134 G39 at_132 #[iv p0, iv p1, iv p2, iv p3, iv p4, iv (2 : Int32), dv x2, .second, dv x4, .second, dv x6, .second, dv x8, .second, dv x10, .second, dv x12, .second, dv x14, .second, dv x16, .second, rv b17, rv b19, iv x40, .unset] rfl rfl ?_
    refine miload 136 G39 at_134 rfl rfl ?_
    refine miconst 137 G39 at_136 (v := (1 : Int32)) rfl rfl ?_
    refine micmpNo 140 G39 at_137 (tlt (by decide : (1 : Int32) < (2 : Int32))).2.2.2 rfl ?_
    refine mdload 142 G39 at_140 rfl rfl ?_
    refine mdconst0 143 G39 at_142 (v := (0 : UInt64)) rfl rfl ?_
    refine mdcmp 144 G39 at_143 rfl ?_
    refine st42 _ ?_
    refine mistore 201 G42 at_199 #[iv p0, iv p1, iv p2, iv p3, iv p4, iv (2 : Int32), dv x2, .second, dv x4, .second, dv x6, .second, dv x8, .second, dv x10, .second, dv x12, .second, dv x14, .second, dv x16, .second, rv b17, rv b19, iv x40, iv x43] rfl rfl ?_
    refine miload 203 G42 at_201 rfl rfl ?_
    refine miload 205 G42 at_203 rfl rfl ?_
    refine st46 _ ?_
    refine castTop (g' := (mkF m 213 #[iv p0, iv p1, iv p2, iv p3, iv p4, iv (2 : Int32), dv x2, .second, dv x4, .second, dv x6, .second, dv x8, .second, dv x10, .second, dv x12, .second, dv x14, .second, dv x16, .second, rv b17, rv b19, iv x40, iv x43] [(.int (1 : Int32))])) (by rw [hend]) ?_
    exact retN X46 hx (t := .boolean) Bd.returns (by simp) (hb hby at_213) hr
  · show Q0 Z p0 p1 p2 p3 p4 h0 n0 _ T46.heap _
    rw [e46]
    exact ⟨rfl, N27⟩
theorem d2_29 : decode method_4_code 29 = .ok (.aload 9, 2) := by decide +kernel
theorem d2_31 : decode method_4_code 31 = .ok (.iconst 2, 1) := by decide +kernel
theorem d2_32 : decode method_4_code 32 = .ok (.dload 5, 2) := by decide +kernel
theorem d2_34 : decode method_4_code 34 = .ok (.dastore, 1) := by decide +kernel
theorem ef2_3 (m : MethodId) (d1 : UInt64) (d2 : UInt64) (d3 : UInt64) (d4 : UInt64) : entryFrame m #[(.int (3 : Int32)), (.double d1), (.double d2), (.double d3), (.double d4)] 10 = mkF m 0 #[iv (3 : Int32), dv d1, .second, dv d2, .second, dv d3, .second, dv d4, .second, .unset] [] := by first | (simp [entryFrame, mkF, argsToLocals, Value.category]; done) | rfl
abbrev room_of_2_3 : Room := { frames := 0, cells := 1, slots := 3, locals := 0 }
def Q2_3 (Z : State) (d1 : UInt64) (d2 : UInt64) (d3 : UInt64) (d4 : UInt64) (h0 : Heap) (n0 : Nat) (v : Option Value) (h : Heap) (L : List Loc) : Prop := ∃ (b : Addr) (k : ClassId), v = some (.ref b) ∧ n0 ≤ b ∧ h0.size ≤ b ∧ Fr n0 L ∧ Keep h0 h [] ∧ Arv Z h b k .double (3 : Int32) [(.double d1), (.double d2), (.double d3)] (.double (0 : UInt64))
set_option maxRecDepth 65536 in
set_option maxHeartbeats 40000000 in
theorem rm2_3 (l : Launch) (Z : State) (a0 : Array Value) (hw : ∀ d ∈ tables_1, d.before a0 Z = true) (ws : List Jvm.Cond) (d1 : UInt64) (d2 : UInt64) (d3 : UInt64) (d4 : UInt64)  (h0 : Heap) (n0 : Nat) (Z0 : n0 ≤ h0.size) :
    MetFree l (⟨"com/example/oceanus/oceanus/analysis/LinearIsConstantPinLaw", "make", "(IDDDD)[D"⟩ : MethodName) (head1 (Jvm.Cond.code (⟨"com/example/oceanus/oceanus/analysis/LinearIsConstantPinLaw", "make", "(IDDDD)[D"⟩ : MethodName) method_4_code 10 (some (.array .double)) :: ws) (room_of_2_3)) (fun a U => a = #[(.int (3 : Int32)), (.double d1), (.double d2), (.double d3), (.double d4)] ∧ Z.Warmed39 U.vm ∧ U.heap = h0) (fun _ _ _ _ _ => True) (fun _ U o U' => ∃ v L, o = .returned v ∧ Q2_3 Z d1 d2 d3 d4 h0 n0 v U'.heap L ∧ FrameEnd U o U' L (room_of_2_3).cells (room_of_2_3).slots) := by
  refine MetFree.of_bodySF (plainFor_of_name pn_2) hisR ?_
  intro p e s m args below meth c s₁ Bd hml0 hP hK
  obtain ⟨rfl, hZ, hh⟩ := hP
  have hx := Bd.exec
  have hby := Bd.bytes
  have hml : c.maxLocals = 10 := hml0
  have hown : s.vm.findClass "com/example/oceanus/oceanus/analysis/LinearIsConstantPinLaw" = some m.cls := findClass_of_methodNamed Bd.named
  have hnm := (name_of_methodNamed Bd.named Bd.method).1
  have X0 : Stand p l e (room_of_2_3) s m #[(.int (3 : Int32)), (.double d1), (.double d2), (.double d3), (.double d4)] below meth c s₁ [] 0 0 := Stand.of_body Bd
  have e0 : s₁.heap = h0 := by rw [← hh, Bd.state]; rfl
  have N0 := Fr.nil n0
  have G0 := gd X0 hx hby
  have pre0 : ∀ t, Steps p.tables e below (s₁.setTop (mkF m 0 #[iv (3 : Int32), dv d1, .second, dv d2, .second, dv d3, .second, dv d4, .second, .unset] [])) t → Steps p.tables e below (s₁.setTop (entryFrame m #[(.int (3 : Int32)), (.double d1), (.double d2), (.double d3), (.double d4)] 10)) t := fun t k => castTop (ef2_3 m d1 d2 d3 d4) k
  obtain ⟨T1, h1, k1, X1, e1, E1, A1, st1⟩ := newP X0 hx hZ (wd hw 7 rfl) e0 (g := (mkF m 1 #[iv (3 : Int32), dv d1, .second, dv d2, .second, dv d3, .second, dv d4, .second, .unset] [(.int (3 : Int32))])) rfl (hb hby d2_1) rfl (by decide) (cap := 3) (by decide) (by decide) (by decide) (by decide)
  have G1 := gd X1 hx hby
  obtain ⟨b1, g1⟩ : ∃ z, z = h0.size := ⟨_, rfl⟩
  rw [← g1] at A1 st1
  have g_b1 : n0 ≤ b1 := Nat.le_trans Z0 (Nat.le_of_eq g1.symm)
  have sz_b1 : h0.size ≤ b1 := Nat.le_trans (Keep.refl h0 []).1 (Nat.le_of_eq g1.symm)
  have Z1 := Nat.le_trans Z0 E1.1
  have K1 : Keep h0 h1 [] := (Keep.refl h0 []).ext E1
  have V_b1 : Arv Z h1 b1 k1 .double (3 : Int32) [(.double (0 : UInt64)), (.double (0 : UInt64)), (.double (0 : UInt64))] (.double (0 : UInt64)) := (Arv.new A1 (by decide)).pad (pad_rep [] (.double (0 : UInt64)) 3)
  obtain ⟨T2, h2, X2, e2, W2, Vs2, st2⟩ := own_stD X1 hx hby hZ e1 V_b1 (j := (0 : Int32)) (v := d1) d2_13 ⟨by decide, by decide⟩ 0 rfl (Nat.le_of_ble_eq_true rfl) #[iv (3 : Int32), dv d1, .second, dv d2, .second, dv d3, .second, dv d4, .second, rv b1] [] 14 rfl
  have G2 := gd X2 hx hby
  have N2 := Fr.snoc X2 N0 g_b1
  have Z2 := Nat.le_trans Z1 (Keep.of_wr W2).1
  have K2 : Keep h0 h2 [] := K1.wr W2 (Or.inr sz_b1)
  have V2 : Arv Z h2 b1 k1 .double (3 : Int32) [(.double d1), (.double (0 : UInt64)), (.double (0 : UInt64))] (.double (0 : UInt64)) := Vs2
  obtain ⟨T6, h6, X6, e6, W6, Vs6, st6⟩ := own_stD X2 hx hby hZ e2 V2 (j := (1 : Int32)) (v := d2) d2_23 ⟨by decide, by decide⟩ 1 rfl (Nat.le_of_ble_eq_true rfl) #[iv (3 : Int32), dv d1, .second, dv d2, .second, dv d3, .second, dv d4, .second, rv b1] [] 24 rfl
  have G6 := gd X6 hx hby
  have N6 := Fr.snoc X6 N2 g_b1
  have Z6 := Nat.le_trans Z2 (Keep.of_wr W6).1
  have K6 : Keep h0 h6 [] := K2.wr W6 (Or.inr sz_b1)
  have V6 : Arv Z h6 b1 k1 .double (3 : Int32) [(.double d1), (.double d2), (.double (0 : UInt64))] (.double (0 : UInt64)) := Vs6
  obtain ⟨T10, h10, X10, e10, W10, Vs10, st10⟩ := own_stD X6 hx hby hZ e6 V6 (j := (2 : Int32)) (v := d3) d2_34 ⟨by decide, by decide⟩ 2 rfl (Nat.le_of_ble_eq_true rfl) #[iv (3 : Int32), dv d1, .second, dv d2, .second, dv d3, .second, dv d4, .second, rv b1] [] 35 rfl
  have G10 := gd X10 hx hby
  have N10 := Fr.snoc X10 N6 g_b1
  have Z10 := Nat.le_trans Z6 (Keep.of_wr W10).1
  have K10 : Keep h0 h10 [] := K6.wr W10 (Or.inr sz_b1)
  have V10 : Arv Z h10 b1 k1 .double (3 : Int32) [(.double d1), (.double d2), (.double d3)] (.double (0 : UInt64)) := Vs10
  obtain ⟨fs, hr, hrun, hended, hW, hsame⟩ := X10.leave (v := some (.ref b1)) (fun h => by rw [Bd.returns] at h; cases h)
  refine ⟨_, _, pre0 _ ?_, hrun, hended, _, _, rfl, ?_, ⟨_, rfl⟩, hW, hsame.mono (by decide) (by decide)⟩
  · show Steps p.tables e below (s₁.setTop (mkF m 0 #[iv (3 : Int32), dv d1, .second, dv d2, .second, dv d3, .second, dv d4, .second, .unset] [])) _
    refine miloadN 1 G0 d2_0 rfl rfl ?_
    refine st1 _ ?_
    show Steps p.tables e below (T1.setTop (mkF m 3 #[iv (3 : Int32), dv d1, .second, dv d2, .second, dv d3, .second, dv d4, .second, .unset] [(.ref b1)])) _
    refine mastore 5 G1 d2_3 rfl #[iv (3 : Int32), dv d1, .second, dv d2, .second, dv d3, .second, dv d4, .second, rv b1] rfl rfl ?_
    refine miloadN 6 G1 d2_5 rfl rfl ?_
    refine mifNo 9 G1 d2_6 ((if0 _ _).trans (tlt (by decide : (0 : Int32) < (3 : Int32))).2.2.2) rfl ?_
    refine maload 11 G1 d2_9 rfl rfl rfl ?_
    refine miconst 12 G1 d2_11 (v := (0 : Int32)) rfl rfl ?_
    refine mdloadN 13 G1 d2_12 rfl rfl ?_
    refine st2 _ ?_
    refine miloadN 15 G2 d2_14 rfl rfl ?_
    refine miconst 16 G2 d2_15 (v := (1 : Int32)) rfl rfl ?_
    refine micmpNo 19 G2 d2_16 (tlt (by decide : (1 : Int32) < (3 : Int32))).2.2.2 rfl ?_
    refine maload 21 G2 d2_19 rfl rfl rfl ?_
    refine miconst 22 G2 d2_21 (v := (1 : Int32)) rfl rfl ?_
    refine mdloadN 23 G2 d2_22 rfl rfl ?_
    refine st6 _ ?_
    refine miloadN 25 G6 d2_24 rfl rfl ?_
    refine miconst 26 G6 d2_25 (v := (2 : Int32)) rfl rfl ?_
    refine micmpNo 29 G6 d2_26 (tlt (by decide : (2 : Int32) < (3 : Int32))).2.2.2 rfl ?_
    refine maload 31 G6 d2_29 rfl rfl rfl ?_
    refine miconst 32 G6 d2_31 (v := (2 : Int32)) rfl rfl ?_
    refine mdload 34 G6 d2_32 rfl rfl ?_
    refine st10 _ ?_
    refine miloadN 36 G10 d2_35 rfl rfl ?_
    refine miconst 37 G10 d2_36 (v := (3 : Int32)) rfl rfl ?_
    refine micmpYes 46 G10 d2_37 (flt (by decide : ¬ ((3 : Int32) < (3 : Int32)))).2.2.2 (by decide) rfl ?_
    refine maload 48 G10 d2_46 rfl rfl rfl ?_
    exact retOut X10 hx Bd.returns rfl (Or.inr (Or.inr (Or.inr (Or.inr ⟨rfl, rfl, rfl⟩)))) (hb hby d2_48) hr
  · show Q2_3 Z d1 d2 d3 d4 h0 n0 _ T10.heap _
    rw [e10]
    exact ⟨b1, k1, rfl, g_b1, sz_b1, N10, K10, V10⟩
theorem ef6_3 (m : MethodId) (o0 : Addr) : entryFrame m #[(.ref o0)] 3 = mkF m 0 #[rv o0, .unset, .unset] [] := by first | (simp [entryFrame, mkF, argsToLocals, Value.category]; done) | rfl
abbrev room_of_6_3 : Room := { frames := 0, cells := 0, slots := 0, locals := 0 }
def rv6_3 (a0 : UInt64) (a1 : UInt64) (c0 : UInt64) (c1 : UInt64) : Int32 := (if (if (cmpValue (FP.dcmp a0 (0 : UInt64)) .l) = (0 : Int32) then (if (cmpValue (FP.dcmp c0 (0 : UInt64)) .l) = (0 : Int32) then (1 : Int32) else (0 : Int32)) else (0 : Int32)) = (0 : Int32) then (if (cmpValue (FP.dcmp a0 (0 : UInt64)) .l) = (0 : Int32) then (if (cmpValue (FP.dcmp c0 (0 : UInt64)) .l) = (0 : Int32) then (1 : Int32) else (0 : Int32)) else (0 : Int32)) else (if (cmpValue (FP.dcmp a1 (0 : UInt64)) .l) = (0 : Int32) then (if (cmpValue (FP.dcmp c1 (0 : UInt64)) .l) = (0 : Int32) then (1 : Int32) else (0 : Int32)) else (0 : Int32)))
def Q6_3 (Z : State) (o0 : Addr) (w1 : Addr) (w2 : Addr) (k1 : ClassId) (a0 : UInt64) (a1 : UInt64) (a2 : UInt64) (k2 : ClassId) (c0 : UInt64) (c1 : UInt64) (c2 : UInt64) (h0 : Heap) (n0 : Nat) (v : Option Value) (h : Heap) (L : List Loc) : Prop := v = some (.int (rv6_3 a0 a1 c0 c1)) ∧ L = [] ∧ h = h0
set_option maxRecDepth 65536 in
set_option maxHeartbeats 40000000 in
theorem rm6_3 (l : Launch) (Z : State) (a0 : Array Value) (hw : ∀ d ∈ tables_1, d.before a0 Z = true) (ws : List Jvm.Cond) (o0 : Addr) {w1 : Addr} {w2 : Addr} {k1 : ClassId} {a0 : UInt64} {a1 : UInt64} {a2 : UInt64} {k2 : ClassId} {c0 : UInt64} {c1 : UInt64} {c2 : UInt64} (h0 : Heap) (n0 : Nat) (Z0 : n0 ≤ h0.size) (F_lows_o0 : Fld Z h0 o0 "com/example/oceanus/oceanus/analysis/RoundingSpanArithmetic$Linear" "lows" "[D" (.ref w1)) (F_highs_o0 : Fld Z h0 o0 "com/example/oceanus/oceanus/analysis/RoundingSpanArithmetic$Linear" "highs" "[D" (.ref w2)) (V_w1 : Arv Z h0 w1 k1 .double (3 : Int32) [(.double a0), (.double a1), (.double a2)] (.double (0 : UInt64))) (V_w2 : Arv Z h0 w2 k2 .double (3 : Int32) [(.double c0), (.double c1), (.double c2)] (.double (0 : UInt64))) :
    MetFree l (⟨"com/example/oceanus/oceanus/analysis/RoundingSpanArithmetic$Linear", "isConstant", "()Z"⟩ : MethodName) (head1 (Jvm.Cond.code (⟨"com/example/oceanus/oceanus/analysis/RoundingSpanArithmetic$Linear", "isConstant", "()Z"⟩ : MethodName) prog_23_method_6_code 3 (some .boolean) :: ws) (room_of_6_3)) (fun a U => a = #[(.ref o0)] ∧ Z.Warmed39 U.vm ∧ U.heap = h0) (fun _ _ _ _ _ => True) (fun _ U o U' => ∃ v L, o = .returned v ∧ Q6_3 Z o0 w1 w2 k1 a0 a1 a2 k2 c0 c1 c2 h0 n0 v U'.heap L ∧ FrameEnd U o U' L (room_of_6_3).cells (room_of_6_3).slots) := by
  refine MetFree.of_bodySF (plainFor_of_name pn_6) hisR ?_
  intro p e s m args below meth c s₁ Bd hml0 hP hK
  obtain ⟨rfl, hZ, hh⟩ := hP
  have hx := Bd.exec
  have hby := Bd.bytes
  have hml : c.maxLocals = 3 := hml0
  have hown : s.vm.findClass "com/example/oceanus/oceanus/analysis/RoundingSpanArithmetic$Linear" = some m.cls := findClass_of_methodNamed Bd.named
  have hnm := (name_of_methodNamed Bd.named Bd.method).1
  have X0 : Stand p l e (room_of_6_3) s m #[(.ref o0)] below meth c s₁ [] 0 0 := Stand.of_body Bd
  have e0 : s₁.heap = h0 := by rw [← hh, Bd.state]; rfl
  have N0 := Fr.nil n0
  have G0 := gd X0 hx hby
  have pre0 : ∀ t, Steps p.tables e below (s₁.setTop (mkF m 0 #[rv o0, .unset, .unset] [])) t → Steps p.tables e below (s₁.setTop (entryFrame m #[(.ref o0)] 3)) t := fun t k => castTop (ef6_3 m o0) k
  obtain ⟨T1, X1, e1, st1⟩ := getF X0 hx hZ hown (host := "") (Or.inl (wd hw 22 rfl)) Via.refl e0 F_lows_o0 (g := (mkF m 10 #[rv o0, iv (1 : Int32), iv (0 : Int32)] [(.ref o0), (.int (0 : Int32))])) rfl rfl (hb hby d6_10)
  have G1 := gd X1 hx hby
  obtain ⟨T2, X2, e2, st2⟩ := getF X1 hx hZ hown (host := "") (Or.inl (wd hw 22 rfl)) Via.refl e1 F_lows_o0 (g := (mkF m 20 #[rv o0, iv (1 : Int32), iv (0 : Int32)] [(.ref o0)])) rfl rfl (hb hby d6_20)
  have G2 := gd X2 hx hby
  obtain ⟨T4, X4, e4, st4⟩ : ∃ T' : State, Stand p l e (room_of_6_3) s m #[(.ref o0)] below meth c T' [] 0 0 ∧ T'.heap = h0 ∧ ∀ target, Steps p.tables e below (T'.setTop (mkF m 4 #[rv o0, iv (if (cmpValue (FP.dcmp a0 (0 : UInt64)) .l) = (0 : Int32) then (if (cmpValue (FP.dcmp c0 (0 : UInt64)) .l) = (0 : Int32) then (1 : Int32) else (0 : Int32)) else (0 : Int32)), iv (1 : Int32)] [])) target → Steps p.tables e below (T2.setTop (mkF m 27 #[rv o0, iv (1 : Int32), iv (0 : Int32)] [(.int (cmpValue (FP.dcmp a0 (0 : UInt64)) .l))])) target := by
    by_cases hc27_3 : (cmpValue (FP.dcmp a0 (0 : UInt64)) .l) = (0 : Int32)
    · obtain ⟨T5, X5, e5, st5⟩ := getF X2 hx hZ hown (host := "") (Or.inl (wd hw 24 rfl)) Via.refl e2 F_highs_o0 (g := (mkF m 31 #[rv o0, iv (1 : Int32), iv (0 : Int32)] [(.ref o0)])) rfl rfl (hb hby d6_31)
      have G5 := gd X5 hx hby
      by_cases hc38_6 : (cmpValue (FP.dcmp c0 (0 : UInt64)) .l) = (0 : Int32)
      · refine ⟨T5, X5, e5, fun target kt => ?_⟩
        refine mifNo 30 G2 d6_27 ((if0 _ _).trans (teq hc27_3).2) rfl ?_
        refine maloadN 31 G2 d6_30 rfl rfl rfl ?_
        refine st5 _ ?_
        show Steps p.tables e below (T5.setTop (mkF m 34 #[rv o0, iv (1 : Int32), iv (0 : Int32)] [(.ref w2)])) _
        refine miloadN 35 G5 d6_34 rfl rfl ?_
        refine mdaload 36 X5 hx hby hZ e5 V_w2 (v := c0) d6_35 ⟨by decide, by decide⟩ rfl rfl ?_
        refine mdconst0 37 G5 d6_36 (v := (0 : UInt64)) rfl rfl ?_
        refine mdcmp 38 G5 d6_37 rfl ?_
        refine mifNo 41 G5 d6_38 ((if0 _ _).trans (teq hc38_6).2) rfl ?_
        refine miconst 42 G5 d6_41 (v := (1 : Int32)) rfl rfl ?_
        refine mgoto 46 G5 d6_42 (by decide) rfl ?_
        refine mistoreN 47 G5 d6_46 #[rv o0, iv (1 : Int32), iv (0 : Int32)] rfl rfl ?_
        refine miinc 50 G5 d6_47 rfl #[rv o0, iv (1 : Int32), iv (1 : Int32)] rfl rfl ?_
        refine mgoto 4 G5 d6_50 (by decide) rfl ?_
        exact castTop (g' := (mkF m 4 #[rv o0, iv (if (cmpValue (FP.dcmp a0 (0 : UInt64)) .l) = (0 : Int32) then (if (cmpValue (FP.dcmp c0 (0 : UInt64)) .l) = (0 : Int32) then (1 : Int32) else (0 : Int32)) else (0 : Int32)), iv (1 : Int32)] [])) (by simp only [if_pos hc27_3, if_pos hc38_6]) kt
      · refine ⟨T5, X5, e5, fun target kt => ?_⟩
        refine mifNo 30 G2 d6_27 ((if0 _ _).trans (teq hc27_3).2) rfl ?_
        refine maloadN 31 G2 d6_30 rfl rfl rfl ?_
        refine st5 _ ?_
        show Steps p.tables e below (T5.setTop (mkF m 34 #[rv o0, iv (1 : Int32), iv (0 : Int32)] [(.ref w2)])) _
        refine miloadN 35 G5 d6_34 rfl rfl ?_
        refine mdaload 36 X5 hx hby hZ e5 V_w2 (v := c0) d6_35 ⟨by decide, by decide⟩ rfl rfl ?_
        refine mdconst0 37 G5 d6_36 (v := (0 : UInt64)) rfl rfl ?_
        refine mdcmp 38 G5 d6_37 rfl ?_
        refine mifYes 45 G5 d6_38 ((if0 _ _).trans (feq hc38_6).2) (by decide) rfl ?_
        refine miconst 46 G5 d6_45 (v := (0 : Int32)) rfl rfl ?_
        refine mistoreN 47 G5 d6_46 #[rv o0, iv (0 : Int32), iv (0 : Int32)] rfl rfl ?_
        refine miinc 50 G5 d6_47 rfl #[rv o0, iv (0 : Int32), iv (1 : Int32)] rfl rfl ?_
        refine mgoto 4 G5 d6_50 (by decide) rfl ?_
        exact castTop (g' := (mkF m 4 #[rv o0, iv (if (cmpValue (FP.dcmp a0 (0 : UInt64)) .l) = (0 : Int32) then (if (cmpValue (FP.dcmp c0 (0 : UInt64)) .l) = (0 : Int32) then (1 : Int32) else (0 : Int32)) else (0 : Int32)), iv (1 : Int32)] [])) (by simp only [if_pos hc27_3, if_neg hc38_6]) kt
    · refine ⟨T2, X2, e2, fun target kt => ?_⟩
      refine mifYes 45 G2 d6_27 ((if0 _ _).trans (feq hc27_3).2) (by decide) rfl ?_
      refine miconst 46 G2 d6_45 (v := (0 : Int32)) rfl rfl ?_
      refine mistoreN 47 G2 d6_46 #[rv o0, iv (0 : Int32), iv (0 : Int32)] rfl rfl ?_
      refine miinc 50 G2 d6_47 rfl #[rv o0, iv (0 : Int32), iv (1 : Int32)] rfl rfl ?_
      refine mgoto 4 G2 d6_50 (by decide) rfl ?_
      exact castTop (g' := (mkF m 4 #[rv o0, iv (if (cmpValue (FP.dcmp a0 (0 : UInt64)) .l) = (0 : Int32) then (if (cmpValue (FP.dcmp c0 (0 : UInt64)) .l) = (0 : Int32) then (1 : Int32) else (0 : Int32)) else (0 : Int32)), iv (1 : Int32)] [])) (by simp only [if_neg hc27_3]) kt
  have G4 := gd X4 hx hby
  obtain ⟨T8, X8, e8, st8⟩ : ∃ T' : State, Stand p l e (room_of_6_3) s m #[(.ref o0)] below meth c T' [] 0 0 ∧ T'.heap = h0 ∧ ∀ target, Steps p.tables e below (T'.setTop (mkF m 53 #[rv o0, iv (if (if (cmpValue (FP.dcmp a0 (0 : UInt64)) .l) = (0 : Int32) then (if (cmpValue (FP.dcmp c0 (0 : UInt64)) .l) = (0 : Int32) then (1 : Int32) else (0 : Int32)) else (0 : Int32)) = (0 : Int32) then (if (cmpValue (FP.dcmp a0 (0 : UInt64)) .l) = (0 : Int32) then (if (cmpValue (FP.dcmp c0 (0 : UInt64)) .l) = (0 : Int32) then (1 : Int32) else (0 : Int32)) else (0 : Int32)) else (if (cmpValue (FP.dcmp a1 (0 : UInt64)) .l) = (0 : Int32) then (if (cmpValue (FP.dcmp c1 (0 : UInt64)) .l) = (0 : Int32) then (1 : Int32) else (0 : Int32)) else (0 : Int32))), iv (if (if (cmpValue (FP.dcmp a0 (0 : UInt64)) .l) = (0 : Int32) then (if (cmpValue (FP.dcmp c0 (0 : UInt64)) .l) = (0 : Int32) then (1 : Int32) else (0 : Int32)) else (0 : Int32)) = (0 : Int32) then (1 : Int32) else (2 : Int32))] [])) target → Steps p.tables e below (T4.setTop (mkF m 5 #[rv o0, iv (if (cmpValue (FP.dcmp a0 (0 : UInt64)) .l) = (0 : Int32) then (if (cmpValue (FP.dcmp c0 (0 : UInt64)) .l) = (0 : Int32) then (1 : Int32) else (0 : Int32)) else (0 : Int32)), iv (1 : Int32)] [(.int (if (cmpValue (FP.dcmp a0 (0 : UInt64)) .l) = (0 : Int32) then (if (cmpValue (FP.dcmp c0 (0 : UInt64)) .l) = (0 : Int32) then (1 : Int32) else (0 : Int32)) else (0 : Int32)))])) target := by
    by_cases hc5_7 : (if (cmpValue (FP.dcmp a0 (0 : UInt64)) .l) = (0 : Int32) then (if (cmpValue (FP.dcmp c0 (0 : UInt64)) .l) = (0 : Int32) then (1 : Int32) else (0 : Int32)) else (0 : Int32)) = (0 : Int32)
    · refine ⟨T4, X4, e4, fun target kt => ?_⟩
      refine mifYes 53 G4 d6_5 ((if0 _ _).trans (teq hc5_7).1) (by decide) rfl ?_
      exact castTop (g' := (mkF m 53 #[rv o0, iv (if (if (cmpValue (FP.dcmp a0 (0 : UInt64)) .l) = (0 : Int32) then (if (cmpValue (FP.dcmp c0 (0 : UInt64)) .l) = (0 : Int32) then (1 : Int32) else (0 : Int32)) else (0 : Int32)) = (0 : Int32) then (if (cmpValue (FP.dcmp a0 (0 : UInt64)) .l) = (0 : Int32) then (if (cmpValue (FP.dcmp c0 (0 : UInt64)) .l) = (0 : Int32) then (1 : Int32) else (0 : Int32)) else (0 : Int32)) else (if (cmpValue (FP.dcmp a1 (0 : UInt64)) .l) = (0 : Int32) then (if (cmpValue (FP.dcmp c1 (0 : UInt64)) .l) = (0 : Int32) then (1 : Int32) else (0 : Int32)) else (0 : Int32))), iv (if (if (cmpValue (FP.dcmp a0 (0 : UInt64)) .l) = (0 : Int32) then (if (cmpValue (FP.dcmp c0 (0 : UInt64)) .l) = (0 : Int32) then (1 : Int32) else (0 : Int32)) else (0 : Int32)) = (0 : Int32) then (1 : Int32) else (2 : Int32))] [])) (by simp only [if_pos hc5_7]) kt
    · obtain ⟨T9, X9, e9, st9⟩ := getF X4 hx hZ hown (host := "") (Or.inl (wd hw 22 rfl)) Via.refl e4 F_lows_o0 (g := (mkF m 10 #[rv o0, iv (if (cmpValue (FP.dcmp a0 (0 : UInt64)) .l) = (0 : Int32) then (if (cmpValue (FP.dcmp c0 (0 : UInt64)) .l) = (0 : Int32) then (1 : Int32) else (0 : Int32)) else (0 : Int32)), iv (1 : Int32)] [(.ref o0), (.int (1 : Int32))])) rfl rfl (hb hby d6_10)
      have G9 := gd X9 hx hby
      obtain ⟨T10, X10, e10, st10⟩ := getF X9 hx hZ hown (host := "") (Or.inl (wd hw 22 rfl)) Via.refl e9 F_lows_o0 (g := (mkF m 20 #[rv o0, iv (if (cmpValue (FP.dcmp a0 (0 : UInt64)) .l) = (0 : Int32) then (if (cmpValue (FP.dcmp c0 (0 : UInt64)) .l) = (0 : Int32) then (1 : Int32) else (0 : Int32)) else (0 : Int32)), iv (1 : Int32)] [(.ref o0)])) rfl rfl (hb hby d6_20)
      have G10 := gd X10 hx hby
      obtain ⟨T12, X12, e12, st12⟩ : ∃ T' : State, Stand p l e (room_of_6_3) s m #[(.ref o0)] below meth c T' [] 0 0 ∧ T'.heap = h0 ∧ ∀ target, Steps p.tables e below (T'.setTop (mkF m 4 #[rv o0, iv (if (cmpValue (FP.dcmp a1 (0 : UInt64)) .l) = (0 : Int32) then (if (cmpValue (FP.dcmp c1 (0 : UInt64)) .l) = (0 : Int32) then (1 : Int32) else (0 : Int32)) else (0 : Int32)), iv (2 : Int32)] [])) target → Steps p.tables e below (T10.setTop (mkF m 27 #[rv o0, iv (if (cmpValue (FP.dcmp a0 (0 : UInt64)) .l) = (0 : Int32) then (if (cmpValue (FP.dcmp c0 (0 : UInt64)) .l) = (0 : Int32) then (1 : Int32) else (0 : Int32)) else (0 : Int32)), iv (1 : Int32)] [(.int (cmpValue (FP.dcmp a1 (0 : UInt64)) .l))])) target := by
        by_cases hc27_11 : (cmpValue (FP.dcmp a1 (0 : UInt64)) .l) = (0 : Int32)
        · obtain ⟨T13, X13, e13, st13⟩ := getF X10 hx hZ hown (host := "") (Or.inl (wd hw 24 rfl)) Via.refl e10 F_highs_o0 (g := (mkF m 31 #[rv o0, iv (if (cmpValue (FP.dcmp a0 (0 : UInt64)) .l) = (0 : Int32) then (if (cmpValue (FP.dcmp c0 (0 : UInt64)) .l) = (0 : Int32) then (1 : Int32) else (0 : Int32)) else (0 : Int32)), iv (1 : Int32)] [(.ref o0)])) rfl rfl (hb hby d6_31)
          have G13 := gd X13 hx hby
          by_cases hc38_14 : (cmpValue (FP.dcmp c1 (0 : UInt64)) .l) = (0 : Int32)
          · refine ⟨T13, X13, e13, fun target kt => ?_⟩
            refine mifNo 30 G10 d6_27 ((if0 _ _).trans (teq hc27_11).2) rfl ?_
            refine maloadN 31 G10 d6_30 rfl rfl rfl ?_
            refine st13 _ ?_
            show Steps p.tables e below (T13.setTop (mkF m 34 #[rv o0, iv (if (cmpValue (FP.dcmp a0 (0 : UInt64)) .l) = (0 : Int32) then (if (cmpValue (FP.dcmp c0 (0 : UInt64)) .l) = (0 : Int32) then (1 : Int32) else (0 : Int32)) else (0 : Int32)), iv (1 : Int32)] [(.ref w2)])) _
            refine miloadN 35 G13 d6_34 rfl rfl ?_
            refine mdaload 36 X13 hx hby hZ e13 V_w2 (v := c1) d6_35 ⟨by decide, by decide⟩ rfl rfl ?_
            refine mdconst0 37 G13 d6_36 (v := (0 : UInt64)) rfl rfl ?_
            refine mdcmp 38 G13 d6_37 rfl ?_
            refine mifNo 41 G13 d6_38 ((if0 _ _).trans (teq hc38_14).2) rfl ?_
            refine miconst 42 G13 d6_41 (v := (1 : Int32)) rfl rfl ?_
            refine mgoto 46 G13 d6_42 (by decide) rfl ?_
            refine mistoreN 47 G13 d6_46 #[rv o0, iv (1 : Int32), iv (1 : Int32)] rfl rfl ?_
            refine miinc 50 G13 d6_47 rfl #[rv o0, iv (1 : Int32), iv (2 : Int32)] rfl rfl ?_
            refine mgoto 4 G13 d6_50 (by decide) rfl ?_
            exact castTop (g' := (mkF m 4 #[rv o0, iv (if (cmpValue (FP.dcmp a1 (0 : UInt64)) .l) = (0 : Int32) then (if (cmpValue (FP.dcmp c1 (0 : UInt64)) .l) = (0 : Int32) then (1 : Int32) else (0 : Int32)) else (0 : Int32)), iv (2 : Int32)] [])) (by simp only [if_pos hc27_11, if_pos hc38_14]) kt
          · refine ⟨T13, X13, e13, fun target kt => ?_⟩
            refine mifNo 30 G10 d6_27 ((if0 _ _).trans (teq hc27_11).2) rfl ?_
            refine maloadN 31 G10 d6_30 rfl rfl rfl ?_
            refine st13 _ ?_
            show Steps p.tables e below (T13.setTop (mkF m 34 #[rv o0, iv (if (cmpValue (FP.dcmp a0 (0 : UInt64)) .l) = (0 : Int32) then (if (cmpValue (FP.dcmp c0 (0 : UInt64)) .l) = (0 : Int32) then (1 : Int32) else (0 : Int32)) else (0 : Int32)), iv (1 : Int32)] [(.ref w2)])) _
            refine miloadN 35 G13 d6_34 rfl rfl ?_
            refine mdaload 36 X13 hx hby hZ e13 V_w2 (v := c1) d6_35 ⟨by decide, by decide⟩ rfl rfl ?_
            refine mdconst0 37 G13 d6_36 (v := (0 : UInt64)) rfl rfl ?_
            refine mdcmp 38 G13 d6_37 rfl ?_
            refine mifYes 45 G13 d6_38 ((if0 _ _).trans (feq hc38_14).2) (by decide) rfl ?_
            refine miconst 46 G13 d6_45 (v := (0 : Int32)) rfl rfl ?_
            refine mistoreN 47 G13 d6_46 #[rv o0, iv (0 : Int32), iv (1 : Int32)] rfl rfl ?_
            refine miinc 50 G13 d6_47 rfl #[rv o0, iv (0 : Int32), iv (2 : Int32)] rfl rfl ?_
            refine mgoto 4 G13 d6_50 (by decide) rfl ?_
            exact castTop (g' := (mkF m 4 #[rv o0, iv (if (cmpValue (FP.dcmp a1 (0 : UInt64)) .l) = (0 : Int32) then (if (cmpValue (FP.dcmp c1 (0 : UInt64)) .l) = (0 : Int32) then (1 : Int32) else (0 : Int32)) else (0 : Int32)), iv (2 : Int32)] [])) (by simp only [if_pos hc27_11, if_neg hc38_14]) kt
        · refine ⟨T10, X10, e10, fun target kt => ?_⟩
          refine mifYes 45 G10 d6_27 ((if0 _ _).trans (feq hc27_11).2) (by decide) rfl ?_
          refine miconst 46 G10 d6_45 (v := (0 : Int32)) rfl rfl ?_
          refine mistoreN 47 G10 d6_46 #[rv o0, iv (0 : Int32), iv (1 : Int32)] rfl rfl ?_
          refine miinc 50 G10 d6_47 rfl #[rv o0, iv (0 : Int32), iv (2 : Int32)] rfl rfl ?_
          refine mgoto 4 G10 d6_50 (by decide) rfl ?_
          exact castTop (g' := (mkF m 4 #[rv o0, iv (if (cmpValue (FP.dcmp a1 (0 : UInt64)) .l) = (0 : Int32) then (if (cmpValue (FP.dcmp c1 (0 : UInt64)) .l) = (0 : Int32) then (1 : Int32) else (0 : Int32)) else (0 : Int32)), iv (2 : Int32)] [])) (by simp only [if_neg hc27_11]) kt
      have G12 := gd X12 hx hby
      by_cases hc5_15 : (if (cmpValue (FP.dcmp a1 (0 : UInt64)) .l) = (0 : Int32) then (if (cmpValue (FP.dcmp c1 (0 : UInt64)) .l) = (0 : Int32) then (1 : Int32) else (0 : Int32)) else (0 : Int32)) = (0 : Int32)
      · refine ⟨T12, X12, e12, fun target kt => ?_⟩
        refine mifNo 8 G4 d6_5 ((if0 _ _).trans (feq hc5_7).1) rfl ?_
        refine miloadN 9 G4 d6_8 rfl rfl ?_
        refine maloadN 10 G4 d6_9 rfl rfl rfl ?_
        refine st9 _ ?_
        show Steps p.tables e below (T9.setTop (mkF m 13 #[rv o0, iv (if (cmpValue (FP.dcmp a0 (0 : UInt64)) .l) = (0 : Int32) then (if (cmpValue (FP.dcmp c0 (0 : UInt64)) .l) = (0 : Int32) then (1 : Int32) else (0 : Int32)) else (0 : Int32)), iv (1 : Int32)] [(.ref w1), (.int (1 : Int32))])) _
        refine mlen 14 X9 hx hby hZ e9 V_w1 d6_13 rfl ?_
        refine miconst 15 G9 d6_14 (v := (1 : Int32)) rfl rfl ?_
        refine misub 16 G9 d6_15 (v := (2 : Int32)) rfl rfl ?_
        refine micmpNo 19 G9 d6_16 (tlt (by decide : (1 : Int32) < (2 : Int32))).2.1 rfl ?_
        refine maloadN 20 G9 d6_19 rfl rfl rfl ?_
        refine st10 _ ?_
        show Steps p.tables e below (T10.setTop (mkF m 23 #[rv o0, iv (if (cmpValue (FP.dcmp a0 (0 : UInt64)) .l) = (0 : Int32) then (if (cmpValue (FP.dcmp c0 (0 : UInt64)) .l) = (0 : Int32) then (1 : Int32) else (0 : Int32)) else (0 : Int32)), iv (1 : Int32)] [(.ref w1)])) _
        refine miloadN 24 G10 d6_23 rfl rfl ?_
        refine mdaload 25 X10 hx hby hZ e10 V_w1 (v := a1) d6_24 ⟨by decide, by decide⟩ rfl rfl ?_
        refine mdconst0 26 G10 d6_25 (v := (0 : UInt64)) rfl rfl ?_
        refine mdcmp 27 G10 d6_26 rfl ?_
        refine st12 _ ?_
        refine miloadN 5 G12 d6_4 rfl rfl ?_
        refine mifYes 53 G12 d6_5 ((if0 _ _).trans (teq hc5_15).1) (by decide) rfl ?_
        exact castTop (g' := (mkF m 53 #[rv o0, iv (if (if (cmpValue (FP.dcmp a0 (0 : UInt64)) .l) = (0 : Int32) then (if (cmpValue (FP.dcmp c0 (0 : UInt64)) .l) = (0 : Int32) then (1 : Int32) else (0 : Int32)) else (0 : Int32)) = (0 : Int32) then (if (cmpValue (FP.dcmp a0 (0 : UInt64)) .l) = (0 : Int32) then (if (cmpValue (FP.dcmp c0 (0 : UInt64)) .l) = (0 : Int32) then (1 : Int32) else (0 : Int32)) else (0 : Int32)) else (if (cmpValue (FP.dcmp a1 (0 : UInt64)) .l) = (0 : Int32) then (if (cmpValue (FP.dcmp c1 (0 : UInt64)) .l) = (0 : Int32) then (1 : Int32) else (0 : Int32)) else (0 : Int32))), iv (if (if (cmpValue (FP.dcmp a0 (0 : UInt64)) .l) = (0 : Int32) then (if (cmpValue (FP.dcmp c0 (0 : UInt64)) .l) = (0 : Int32) then (1 : Int32) else (0 : Int32)) else (0 : Int32)) = (0 : Int32) then (1 : Int32) else (2 : Int32))] [])) (by simp only [if_neg hc5_7, if_pos hc5_15]) kt
      · obtain ⟨T16, X16, e16, st16⟩ := getF X12 hx hZ hown (host := "") (Or.inl (wd hw 22 rfl)) Via.refl e12 F_lows_o0 (g := (mkF m 10 #[rv o0, iv (if (cmpValue (FP.dcmp a1 (0 : UInt64)) .l) = (0 : Int32) then (if (cmpValue (FP.dcmp c1 (0 : UInt64)) .l) = (0 : Int32) then (1 : Int32) else (0 : Int32)) else (0 : Int32)), iv (2 : Int32)] [(.ref o0), (.int (2 : Int32))])) rfl rfl (hb hby d6_10)
        have G16 := gd X16 hx hby
        refine ⟨T16, X16, e16, fun target kt => ?_⟩
        refine mifNo 8 G4 d6_5 ((if0 _ _).trans (feq hc5_7).1) rfl ?_
        refine miloadN 9 G4 d6_8 rfl rfl ?_
        refine maloadN 10 G4 d6_9 rfl rfl rfl ?_
        refine st9 _ ?_
        show Steps p.tables e below (T9.setTop (mkF m 13 #[rv o0, iv (if (cmpValue (FP.dcmp a0 (0 : UInt64)) .l) = (0 : Int32) then (if (cmpValue (FP.dcmp c0 (0 : UInt64)) .l) = (0 : Int32) then (1 : Int32) else (0 : Int32)) else (0 : Int32)), iv (1 : Int32)] [(.ref w1), (.int (1 : Int32))])) _
        refine mlen 14 X9 hx hby hZ e9 V_w1 d6_13 rfl ?_
        refine miconst 15 G9 d6_14 (v := (1 : Int32)) rfl rfl ?_
        refine misub 16 G9 d6_15 (v := (2 : Int32)) rfl rfl ?_
        refine micmpNo 19 G9 d6_16 (tlt (by decide : (1 : Int32) < (2 : Int32))).2.1 rfl ?_
        refine maloadN 20 G9 d6_19 rfl rfl rfl ?_
        refine st10 _ ?_
        show Steps p.tables e below (T10.setTop (mkF m 23 #[rv o0, iv (if (cmpValue (FP.dcmp a0 (0 : UInt64)) .l) = (0 : Int32) then (if (cmpValue (FP.dcmp c0 (0 : UInt64)) .l) = (0 : Int32) then (1 : Int32) else (0 : Int32)) else (0 : Int32)), iv (1 : Int32)] [(.ref w1)])) _
        refine miloadN 24 G10 d6_23 rfl rfl ?_
        refine mdaload 25 X10 hx hby hZ e10 V_w1 (v := a1) d6_24 ⟨by decide, by decide⟩ rfl rfl ?_
        refine mdconst0 26 G10 d6_25 (v := (0 : UInt64)) rfl rfl ?_
        refine mdcmp 27 G10 d6_26 rfl ?_
        refine st12 _ ?_
        refine miloadN 5 G12 d6_4 rfl rfl ?_
        refine mifNo 8 G12 d6_5 ((if0 _ _).trans (feq hc5_15).1) rfl ?_
        refine miloadN 9 G12 d6_8 rfl rfl ?_
        refine maloadN 10 G12 d6_9 rfl rfl rfl ?_
        refine st16 _ ?_
        show Steps p.tables e below (T16.setTop (mkF m 13 #[rv o0, iv (if (cmpValue (FP.dcmp a1 (0 : UInt64)) .l) = (0 : Int32) then (if (cmpValue (FP.dcmp c1 (0 : UInt64)) .l) = (0 : Int32) then (1 : Int32) else (0 : Int32)) else (0 : Int32)), iv (2 : Int32)] [(.ref w1), (.int (2 : Int32))])) _
        refine mlen 14 X16 hx hby hZ e16 V_w1 d6_13 rfl ?_
        refine miconst 15 G16 d6_14 (v := (1 : Int32)) rfl rfl ?_
        refine misub 16 G16 d6_15 (v := (2 : Int32)) rfl rfl ?_
        refine micmpYes 53 G16 d6_16 (flt (by decide : ¬ ((2 : Int32) < (2 : Int32)))).2.1 (by decide) rfl ?_
        exact castTop (g' := (mkF m 53 #[rv o0, iv (if (if (cmpValue (FP.dcmp a0 (0 : UInt64)) .l) = (0 : Int32) then (if (cmpValue (FP.dcmp c0 (0 : UInt64)) .l) = (0 : Int32) then (1 : Int32) else (0 : Int32)) else (0 : Int32)) = (0 : Int32) then (if (cmpValue (FP.dcmp a0 (0 : UInt64)) .l) = (0 : Int32) then (if (cmpValue (FP.dcmp c0 (0 : UInt64)) .l) = (0 : Int32) then (1 : Int32) else (0 : Int32)) else (0 : Int32)) else (if (cmpValue (FP.dcmp a1 (0 : UInt64)) .l) = (0 : Int32) then (if (cmpValue (FP.dcmp c1 (0 : UInt64)) .l) = (0 : Int32) then (1 : Int32) else (0 : Int32)) else (0 : Int32))), iv (if (if (cmpValue (FP.dcmp a0 (0 : UInt64)) .l) = (0 : Int32) then (if (cmpValue (FP.dcmp c0 (0 : UInt64)) .l) = (0 : Int32) then (1 : Int32) else (0 : Int32)) else (0 : Int32)) = (0 : Int32) then (1 : Int32) else (2 : Int32))] [])) (by simp only [if_neg hc5_7, if_neg hc5_15]) kt
  have G8 := gd X8 hx hby
  obtain ⟨fs, hr, hrun, hended, hW, hsame⟩ := X8.leave (v := some (.int (if (if (cmpValue (FP.dcmp a0 (0 : UInt64)) .l) = (0 : Int32) then (if (cmpValue (FP.dcmp c0 (0 : UInt64)) .l) = (0 : Int32) then (1 : Int32) else (0 : Int32)) else (0 : Int32)) = (0 : Int32) then (if (cmpValue (FP.dcmp a0 (0 : UInt64)) .l) = (0 : Int32) then (if (cmpValue (FP.dcmp c0 (0 : UInt64)) .l) = (0 : Int32) then (1 : Int32) else (0 : Int32)) else (0 : Int32)) else (if (cmpValue (FP.dcmp a1 (0 : UInt64)) .l) = (0 : Int32) then (if (cmpValue (FP.dcmp c1 (0 : UInt64)) .l) = (0 : Int32) then (1 : Int32) else (0 : Int32)) else (0 : Int32))))) (fun h => by rw [Bd.returns] at h; cases h)
  refine ⟨_, _, pre0 _ ?_, hrun, hended, _, _, rfl, ?_, ⟨_, rfl⟩, hW, hsame.mono (by decide) (by decide)⟩
  · show Steps p.tables e below (s₁.setTop (mkF m 0 #[rv o0, .unset, .unset] [])) _
    refine miconst 1 G0 d6_0 (v := (1 : Int32)) rfl rfl ?_
    refine mistoreN 2 G0 d6_1 #[rv o0, iv (1 : Int32), .unset] rfl rfl ?_
    refine miconst 3 G0 d6_2 (v := (0 : Int32)) rfl rfl ?_
    refine mistoreN 4 G0 d6_3 #[rv o0, iv (1 : Int32), iv (0 : Int32)] rfl rfl ?_
    refine miloadN 5 G0 d6_4 rfl rfl ?_
    refine mifNo 8 G0 d6_5 ((if0 _ _).trans (feq (by decide : ¬ ((1 : Int32) = (0 : Int32)))).1) rfl ?_
    refine miloadN 9 G0 d6_8 rfl rfl ?_
    refine maloadN 10 G0 d6_9 rfl rfl rfl ?_
    refine st1 _ ?_
    show Steps p.tables e below (T1.setTop (mkF m 13 #[rv o0, iv (1 : Int32), iv (0 : Int32)] [(.ref w1), (.int (0 : Int32))])) _
    refine mlen 14 X1 hx hby hZ e1 V_w1 d6_13 rfl ?_
    refine miconst 15 G1 d6_14 (v := (1 : Int32)) rfl rfl ?_
    refine misub 16 G1 d6_15 (v := (2 : Int32)) rfl rfl ?_
    refine micmpNo 19 G1 d6_16 (tlt (by decide : (0 : Int32) < (2 : Int32))).2.1 rfl ?_
    refine maloadN 20 G1 d6_19 rfl rfl rfl ?_
    refine st2 _ ?_
    show Steps p.tables e below (T2.setTop (mkF m 23 #[rv o0, iv (1 : Int32), iv (0 : Int32)] [(.ref w1)])) _
    refine miloadN 24 G2 d6_23 rfl rfl ?_
    refine mdaload 25 X2 hx hby hZ e2 V_w1 (v := a0) d6_24 ⟨by decide, by decide⟩ rfl rfl ?_
    refine mdconst0 26 G2 d6_25 (v := (0 : UInt64)) rfl rfl ?_
    refine mdcmp 27 G2 d6_26 rfl ?_
    refine st4 _ ?_
    refine miloadN 5 G4 d6_4 rfl rfl ?_
    refine st8 _ ?_
    refine miloadN 54 G8 d6_53 rfl rfl ?_
    exact retOut X8 hx Bd.returns (by first | rfl | ((repeat' split) <;> rfl)) (Or.inl ⟨rfl, by simp, _, rfl⟩) (hb hby d6_54) hr
  · show Q6_3 Z o0 w1 w2 k1 a0 a1 a2 k2 c0 c1 c2 h0 n0 _ T8.heap _
    rw [e8]
    exact ⟨by simp only [rv6_3], rfl, rfl⟩
theorem ef0_3 (m : MethodId) (p0 : Int32) (p1 : Int32) (p2 : Int32) (p3 : Int32) (p4 : Int32) : entryFrame m #[(.int p0), (.int p1), (.int p2), (.int p3), (.int p4)] maxLocals = mkF m 0 #[iv p0, iv p1, iv p2, iv p3, iv p4, .unset, .unset, .unset, .unset, .unset, .unset, .unset, .unset, .unset, .unset, .unset, .unset, .unset, .unset, .unset, .unset, .unset, .unset, .unset, .unset, .unset] [] := by first | (simp [entryFrame, mkF, argsToLocals, Value.category, maxLocals]; done) | rfl
theorem own_rm0_3_end (p0 : Int32) (p1 : Int32) (p2 : Int32) (p3 : Int32) (p4 : Int32) (x2 : UInt64) (hx2 : x2 = (rv1 p0 (0 : Int32) p3)) (x4 : UInt64) (hx4 : x4 = (rv1 p0 (1 : Int32) (p3 + (1 : Int32)))) (x6 : UInt64) (hx6 : x6 = (rv1 p0 (2 : Int32) (p3 + (2 : Int32)))) (x8 : UInt64) (hx8 : x8 = (rv1 p0 (3 : Int32) (p3 + (3 : Int32)))) (x10 : UInt64) (hx10 : x10 = (rv1 p1 (0 : Int32) p4)) (x12 : UInt64) (hx12 : x12 = (rv1 p1 (1 : Int32) (p4 - (1 : Int32)))) (x14 : UInt64) (hx14 : x14 = (rv1 p1 (2 : Int32) (p4 - (2 : Int32)))) (x16 : UInt64) (hx16 : x16 = (rv1 p1 (3 : Int32) (p4 - (3 : Int32)))) (x40 : Int32) (hx40 : x40 = (rv6_3 x2 x4 x10 x12)) (x43 : Int32) (hx43 : x43 = (if (cmpValue (FP.dcmp x2 (0 : UInt64)) .l) = (0 : Int32) then (if (cmpValue (FP.dcmp x10 (0 : UInt64)) .l) = (0 : Int32) then (if (cmpValue (FP.dcmp x4 (0 : UInt64)) .l) = (0 : Int32) then (if (cmpValue (FP.dcmp x12 (0 : UInt64)) .l) = (0 : Int32) then (1 : Int32) else (0 : Int32)) else (0 : Int32)) else (0 : Int32)) else (0 : Int32))) (x49 : Int32) (hx49 : x49 = (if x40 = x43 then (1 : Int32) else (0 : Int32))) (hpin6 : (((p2 &&& (7 : Int32)) % (5 : Int32)) = (3 : Int32))) : x49 = 1 := by subst_vars; simp only [rv6_3]; (repeat' split) <;> simp_all
set_option maxRecDepth 65536 in
set_option maxHeartbeats 40000000 in
theorem rm0_3 (l : Launch) (Z : State) (a0 : Array Value) (hw : ∀ d ∈ tables_1, d.before a0 Z = true) (ws : List Jvm.Cond) (p0 : Int32) (p1 : Int32) (p2 : Int32) (p3 : Int32) (p4 : Int32)  (h0 : Heap) (n0 : Nat) (Z0 : n0 ≤ h0.size) (hpin6 : ((p2 &&& (7 : Int32)) % (5 : Int32)) = (3 : Int32)) :
    MetFree l x (head1 (Jvm.Cond.code x code maxLocals ret :: ws) room_1) (fun a U => a = #[(.int p0), (.int p1), (.int p2), (.int p3), (.int p4)] ∧ Z.Warmed39 U.vm ∧ U.heap = h0) (fun _ _ _ _ _ => True) (fun _ U o U' => ∃ v L, o = .returned v ∧ Q0 Z p0 p1 p2 p3 p4 h0 n0 v U'.heap L ∧ FrameEnd U o U' L room_1.cells room_1.slots) := by
  refine MetFree.of_bodySF (plainFor_of_name pn_0) hisR ?_
  intro p e s m args below meth c s₁ Bd hml0 hP hK
  obtain ⟨rfl, hZ, hh⟩ := hP
  have hx := Bd.exec
  have hby := Bd.bytes
  have hml : c.maxLocals = 26 := hml0
  have hown : s.vm.findClass "com/example/oceanus/oceanus/analysis/LinearIsConstantPinLaw" = some m.cls := findClass_of_methodNamed Bd.named
  have hnm := (name_of_methodNamed Bd.named Bd.method).1
  have X0 : Stand p l e room_1 s m #[(.int p0), (.int p1), (.int p2), (.int p3), (.int p4)] below meth c s₁ [] 0 0 := Stand.of_body Bd
  have e0 : s₁.heap = h0 := by rw [← hh, Bd.state]; rfl
  have N0 := Fr.nil n0
  have G0 := gd X0 hx hby
  have pre0 : ∀ t, Steps p.tables e below (s₁.setTop (mkF m 0 #[iv p0, iv p1, iv p2, iv p3, iv p4, .unset, .unset, .unset, .unset, .unset, .unset, .unset, .unset, .unset, .unset, .unset, .unset, .unset, .unset, .unset, .unset, .unset, .unset, .unset, .unset, .unset] [])) t → Steps p.tables e below (s₁.setTop (entryFrame m #[(.int p0), (.int p1), (.int p2), (.int p3), (.int p4)] maxLocals)) t := fun t k => castTop (ef0_3 m p0 p1 p2 p3 p4) k
  obtain ⟨_, _, ⟨T1, L1, k1, n1⟩, -, X1, ⟨Lc1, hQ1, l1, y1, z1⟩, st1⟩ := Jvm.LawKit.callS X0 hx (y := (⟨"com/example/oceanus/oceanus/analysis/LinearIsConstantPinLaw", "entry", "(III)D"⟩ : MethodName)) hown (mvT hZ (wd hw 0 rfl)) (mvT hZ (wd hw 1 rfl)) (mvT hZ (wd hw 2 rfl)) (mvT hZ (wd hw 3 rfl)) (by decide) (backOf (W := 0) (rm1 l Z a0 hw [] p0 (0 : Int32) p3 h0 n0 Z0 ) hZ (wd hw 3 rfl) (wd hw 2 rfl) (by decide) (by decide)) (g := (mkF m 11 #[iv p0, iv p1, iv p2, iv p3, iv p4, iv (3 : Int32), .unset, .unset, .unset, .unset, .unset, .unset, .unset, .unset, .unset, .unset, .unset, .unset, .unset, .unset, .unset, .unset, .unset, .unset, .unset, .unset] [(.int p3), (.int (0 : Int32)), (.int p0)])) rfl (by rw [hml]; rfl) (argsL := [(.int p0), (.int (0 : Int32)), (.int p3)]) (rest := []) (lenOf pd_1 rfl) rfl (by show 2 * 0 + _ ≤ _; exact Nat.le_of_eq rfl) (hb hby at_11) (fun _ _ => ⟨rfl, e0, (by decide : 0 + 0 ≤ _), (by decide : 0 + 0 ≤ _)⟩)
  dsimp only [Pt.U, Pt.locs, Pt.cells, Pt.slots] at X1 l1 y1 z1 st1 hQ1
  replace l1 : ([] ++ Lc1) = L1 := l1.symm
  subst l1 y1 z1
  obtain ⟨rfl, rfl, e1⟩ := hQ1
  simp only [List.append_nil, Nat.add_zero] at X1
  have G1 := gd X1 hx hby
  obtain ⟨x2, hx2⟩ : ∃ z : UInt64, z = (rv1 p0 (0 : Int32) p3) := ⟨_, rfl⟩
  obtain ⟨_, _, ⟨T3, L3, k3, n3⟩, -, X3, ⟨Lc3, hQ3, l3, y3, z3⟩, st3⟩ := Jvm.LawKit.callS X1 hx (y := (⟨"com/example/oceanus/oceanus/analysis/LinearIsConstantPinLaw", "entry", "(III)D"⟩ : MethodName)) hown (mvT hZ (wd hw 0 rfl)) (mvT hZ (wd hw 1 rfl)) (mvT hZ (wd hw 2 rfl)) (mvT hZ (wd hw 3 rfl)) (by decide) (backOf (W := 0) (rm1 l Z a0 hw [] p0 (1 : Int32) ((p3 + (1 : Int32))) h0 n0 Z0 ) hZ (wd hw 3 rfl) (wd hw 2 rfl) (by decide) (by decide)) (g := (mkF m 21 #[iv p0, iv p1, iv p2, iv p3, iv p4, iv (3 : Int32), dv x2, .second, .unset, .unset, .unset, .unset, .unset, .unset, .unset, .unset, .unset, .unset, .unset, .unset, .unset, .unset, .unset, .unset, .unset, .unset] [(.int (p3 + (1 : Int32))), (.int (1 : Int32)), (.int p0)])) rfl (by rw [hml]; rfl) (argsL := [(.int p0), (.int (1 : Int32)), (.int (p3 + (1 : Int32)))]) (rest := []) (lenOf pd_1 rfl) rfl (by show 2 * 0 + _ ≤ _; exact Nat.le_of_eq rfl) (hb hby at_21) (fun _ _ => ⟨rfl, e1, (by decide : 0 + 0 ≤ _), (by decide : 0 + 0 ≤ _)⟩)
  dsimp only [Pt.U, Pt.locs, Pt.cells, Pt.slots] at X3 l3 y3 z3 st3 hQ3
  replace l3 : ([] ++ Lc3) = L3 := l3.symm
  subst l3 y3 z3
  obtain ⟨rfl, rfl, e3⟩ := hQ3
  simp only [List.append_nil, Nat.add_zero] at X3
  have G3 := gd X3 hx hby
  obtain ⟨x4, hx4⟩ : ∃ z : UInt64, z = (rv1 p0 (1 : Int32) (p3 + (1 : Int32))) := ⟨_, rfl⟩
  obtain ⟨_, _, ⟨T5, L5, k5, n5⟩, -, X5, ⟨Lc5, hQ5, l5, y5, z5⟩, st5⟩ := Jvm.LawKit.callS X3 hx (y := (⟨"com/example/oceanus/oceanus/analysis/LinearIsConstantPinLaw", "entry", "(III)D"⟩ : MethodName)) hown (mvT hZ (wd hw 0 rfl)) (mvT hZ (wd hw 1 rfl)) (mvT hZ (wd hw 2 rfl)) (mvT hZ (wd hw 3 rfl)) (by decide) (backOf (W := 0) (rm1 l Z a0 hw [] p0 (2 : Int32) ((p3 + (2 : Int32))) h0 n0 Z0 ) hZ (wd hw 3 rfl) (wd hw 2 rfl) (by decide) (by decide)) (g := (mkF m 31 #[iv p0, iv p1, iv p2, iv p3, iv p4, iv (3 : Int32), dv x2, .second, dv x4, .second, .unset, .unset, .unset, .unset, .unset, .unset, .unset, .unset, .unset, .unset, .unset, .unset, .unset, .unset, .unset, .unset] [(.int (p3 + (2 : Int32))), (.int (2 : Int32)), (.int p0)])) rfl (by rw [hml]; rfl) (argsL := [(.int p0), (.int (2 : Int32)), (.int (p3 + (2 : Int32)))]) (rest := []) (lenOf pd_1 rfl) rfl (by show 2 * 0 + _ ≤ _; exact Nat.le_of_eq rfl) (hb hby at_31) (fun _ _ => ⟨rfl, e3, (by decide : 0 + 0 ≤ _), (by decide : 0 + 0 ≤ _)⟩)
  dsimp only [Pt.U, Pt.locs, Pt.cells, Pt.slots] at X5 l5 y5 z5 st5 hQ5
  replace l5 : ([] ++ Lc5) = L5 := l5.symm
  subst l5 y5 z5
  obtain ⟨rfl, rfl, e5⟩ := hQ5
  simp only [List.append_nil, Nat.add_zero] at X5
  have G5 := gd X5 hx hby
  obtain ⟨x6, hx6⟩ : ∃ z : UInt64, z = (rv1 p0 (2 : Int32) (p3 + (2 : Int32))) := ⟨_, rfl⟩
  obtain ⟨_, _, ⟨T7, L7, k7, n7⟩, -, X7, ⟨Lc7, hQ7, l7, y7, z7⟩, st7⟩ := Jvm.LawKit.callS X5 hx (y := (⟨"com/example/oceanus/oceanus/analysis/LinearIsConstantPinLaw", "entry", "(III)D"⟩ : MethodName)) hown (mvT hZ (wd hw 0 rfl)) (mvT hZ (wd hw 1 rfl)) (mvT hZ (wd hw 2 rfl)) (mvT hZ (wd hw 3 rfl)) (by decide) (backOf (W := 0) (rm1 l Z a0 hw [] p0 (3 : Int32) ((p3 + (3 : Int32))) h0 n0 Z0 ) hZ (wd hw 3 rfl) (wd hw 2 rfl) (by decide) (by decide)) (g := (mkF m 41 #[iv p0, iv p1, iv p2, iv p3, iv p4, iv (3 : Int32), dv x2, .second, dv x4, .second, dv x6, .second, .unset, .unset, .unset, .unset, .unset, .unset, .unset, .unset, .unset, .unset, .unset, .unset, .unset, .unset] [(.int (p3 + (3 : Int32))), (.int (3 : Int32)), (.int p0)])) rfl (by rw [hml]; rfl) (argsL := [(.int p0), (.int (3 : Int32)), (.int (p3 + (3 : Int32)))]) (rest := []) (lenOf pd_1 rfl) rfl (by show 2 * 0 + _ ≤ _; exact Nat.le_of_eq rfl) (hb hby at_41) (fun _ _ => ⟨rfl, e5, (by decide : 0 + 0 ≤ _), (by decide : 0 + 0 ≤ _)⟩)
  dsimp only [Pt.U, Pt.locs, Pt.cells, Pt.slots] at X7 l7 y7 z7 st7 hQ7
  replace l7 : ([] ++ Lc7) = L7 := l7.symm
  subst l7 y7 z7
  obtain ⟨rfl, rfl, e7⟩ := hQ7
  simp only [List.append_nil, Nat.add_zero] at X7
  have G7 := gd X7 hx hby
  obtain ⟨x8, hx8⟩ : ∃ z : UInt64, z = (rv1 p0 (3 : Int32) (p3 + (3 : Int32))) := ⟨_, rfl⟩
  obtain ⟨_, _, ⟨T9, L9, k9, n9⟩, -, X9, ⟨Lc9, hQ9, l9, y9, z9⟩, st9⟩ := Jvm.LawKit.callS X7 hx (y := (⟨"com/example/oceanus/oceanus/analysis/LinearIsConstantPinLaw", "entry", "(III)D"⟩ : MethodName)) hown (mvT hZ (wd hw 0 rfl)) (mvT hZ (wd hw 1 rfl)) (mvT hZ (wd hw 2 rfl)) (mvT hZ (wd hw 3 rfl)) (by decide) (backOf (W := 0) (rm1 l Z a0 hw [] p1 (0 : Int32) p4 h0 n0 Z0 ) hZ (wd hw 3 rfl) (wd hw 2 rfl) (by decide) (by decide)) (g := (mkF m 50 #[iv p0, iv p1, iv p2, iv p3, iv p4, iv (3 : Int32), dv x2, .second, dv x4, .second, dv x6, .second, dv x8, .second, .unset, .unset, .unset, .unset, .unset, .unset, .unset, .unset, .unset, .unset, .unset, .unset] [(.int p4), (.int (0 : Int32)), (.int p1)])) rfl (by rw [hml]; rfl) (argsL := [(.int p1), (.int (0 : Int32)), (.int p4)]) (rest := []) (lenOf pd_1 rfl) rfl (by show 2 * 0 + _ ≤ _; exact Nat.le_of_eq rfl) (hb hby at_50) (fun _ _ => ⟨rfl, e7, (by decide : 0 + 0 ≤ _), (by decide : 0 + 0 ≤ _)⟩)
  dsimp only [Pt.U, Pt.locs, Pt.cells, Pt.slots] at X9 l9 y9 z9 st9 hQ9
  replace l9 : ([] ++ Lc9) = L9 := l9.symm
  subst l9 y9 z9
  obtain ⟨rfl, rfl, e9⟩ := hQ9
  simp only [List.append_nil, Nat.add_zero] at X9
  have G9 := gd X9 hx hby
  obtain ⟨x10, hx10⟩ : ∃ z : UInt64, z = (rv1 p1 (0 : Int32) p4) := ⟨_, rfl⟩
  obtain ⟨_, _, ⟨T11, L11, k11, n11⟩, -, X11, ⟨Lc11, hQ11, l11, y11, z11⟩, st11⟩ := Jvm.LawKit.callS X9 hx (y := (⟨"com/example/oceanus/oceanus/analysis/LinearIsConstantPinLaw", "entry", "(III)D"⟩ : MethodName)) hown (mvT hZ (wd hw 0 rfl)) (mvT hZ (wd hw 1 rfl)) (mvT hZ (wd hw 2 rfl)) (mvT hZ (wd hw 3 rfl)) (by decide) (backOf (W := 0) (rm1 l Z a0 hw [] p1 (1 : Int32) ((p4 - (1 : Int32))) h0 n0 Z0 ) hZ (wd hw 3 rfl) (wd hw 2 rfl) (by decide) (by decide)) (g := (mkF m 61 #[iv p0, iv p1, iv p2, iv p3, iv p4, iv (3 : Int32), dv x2, .second, dv x4, .second, dv x6, .second, dv x8, .second, dv x10, .second, .unset, .unset, .unset, .unset, .unset, .unset, .unset, .unset, .unset, .unset] [(.int (p4 - (1 : Int32))), (.int (1 : Int32)), (.int p1)])) rfl (by rw [hml]; rfl) (argsL := [(.int p1), (.int (1 : Int32)), (.int (p4 - (1 : Int32)))]) (rest := []) (lenOf pd_1 rfl) rfl (by show 2 * 0 + _ ≤ _; exact Nat.le_of_eq rfl) (hb hby at_61) (fun _ _ => ⟨rfl, e9, (by decide : 0 + 0 ≤ _), (by decide : 0 + 0 ≤ _)⟩)
  dsimp only [Pt.U, Pt.locs, Pt.cells, Pt.slots] at X11 l11 y11 z11 st11 hQ11
  replace l11 : ([] ++ Lc11) = L11 := l11.symm
  subst l11 y11 z11
  obtain ⟨rfl, rfl, e11⟩ := hQ11
  simp only [List.append_nil, Nat.add_zero] at X11
  have G11 := gd X11 hx hby
  obtain ⟨x12, hx12⟩ : ∃ z : UInt64, z = (rv1 p1 (1 : Int32) (p4 - (1 : Int32))) := ⟨_, rfl⟩
  obtain ⟨_, _, ⟨T13, L13, k13, n13⟩, -, X13, ⟨Lc13, hQ13, l13, y13, z13⟩, st13⟩ := Jvm.LawKit.callS X11 hx (y := (⟨"com/example/oceanus/oceanus/analysis/LinearIsConstantPinLaw", "entry", "(III)D"⟩ : MethodName)) hown (mvT hZ (wd hw 0 rfl)) (mvT hZ (wd hw 1 rfl)) (mvT hZ (wd hw 2 rfl)) (mvT hZ (wd hw 3 rfl)) (by decide) (backOf (W := 0) (rm1 l Z a0 hw [] p1 (2 : Int32) ((p4 - (2 : Int32))) h0 n0 Z0 ) hZ (wd hw 3 rfl) (wd hw 2 rfl) (by decide) (by decide)) (g := (mkF m 72 #[iv p0, iv p1, iv p2, iv p3, iv p4, iv (3 : Int32), dv x2, .second, dv x4, .second, dv x6, .second, dv x8, .second, dv x10, .second, dv x12, .second, .unset, .unset, .unset, .unset, .unset, .unset, .unset, .unset] [(.int (p4 - (2 : Int32))), (.int (2 : Int32)), (.int p1)])) rfl (by rw [hml]; rfl) (argsL := [(.int p1), (.int (2 : Int32)), (.int (p4 - (2 : Int32)))]) (rest := []) (lenOf pd_1 rfl) rfl (by show 2 * 0 + _ ≤ _; exact Nat.le_of_eq rfl) (hb hby at_72) (fun _ _ => ⟨rfl, e11, (by decide : 0 + 0 ≤ _), (by decide : 0 + 0 ≤ _)⟩)
  dsimp only [Pt.U, Pt.locs, Pt.cells, Pt.slots] at X13 l13 y13 z13 st13 hQ13
  replace l13 : ([] ++ Lc13) = L13 := l13.symm
  subst l13 y13 z13
  obtain ⟨rfl, rfl, e13⟩ := hQ13
  simp only [List.append_nil, Nat.add_zero] at X13
  have G13 := gd X13 hx hby
  obtain ⟨x14, hx14⟩ : ∃ z : UInt64, z = (rv1 p1 (2 : Int32) (p4 - (2 : Int32))) := ⟨_, rfl⟩
  obtain ⟨_, _, ⟨T15, L15, k15, n15⟩, -, X15, ⟨Lc15, hQ15, l15, y15, z15⟩, st15⟩ := Jvm.LawKit.callS X13 hx (y := (⟨"com/example/oceanus/oceanus/analysis/LinearIsConstantPinLaw", "entry", "(III)D"⟩ : MethodName)) hown (mvT hZ (wd hw 0 rfl)) (mvT hZ (wd hw 1 rfl)) (mvT hZ (wd hw 2 rfl)) (mvT hZ (wd hw 3 rfl)) (by decide) (backOf (W := 0) (rm1 l Z a0 hw [] p1 (3 : Int32) ((p4 - (3 : Int32))) h0 n0 Z0 ) hZ (wd hw 3 rfl) (wd hw 2 rfl) (by decide) (by decide)) (g := (mkF m 83 #[iv p0, iv p1, iv p2, iv p3, iv p4, iv (3 : Int32), dv x2, .second, dv x4, .second, dv x6, .second, dv x8, .second, dv x10, .second, dv x12, .second, dv x14, .second, .unset, .unset, .unset, .unset, .unset, .unset] [(.int (p4 - (3 : Int32))), (.int (3 : Int32)), (.int p1)])) rfl (by rw [hml]; rfl) (argsL := [(.int p1), (.int (3 : Int32)), (.int (p4 - (3 : Int32)))]) (rest := []) (lenOf pd_1 rfl) rfl (by show 2 * 0 + _ ≤ _; exact Nat.le_of_eq rfl) (hb hby at_83) (fun _ _ => ⟨rfl, e13, (by decide : 0 + 0 ≤ _), (by decide : 0 + 0 ≤ _)⟩)
  dsimp only [Pt.U, Pt.locs, Pt.cells, Pt.slots] at X15 l15 y15 z15 st15 hQ15
  replace l15 : ([] ++ Lc15) = L15 := l15.symm
  subst l15 y15 z15
  obtain ⟨rfl, rfl, e15⟩ := hQ15
  simp only [List.append_nil, Nat.add_zero] at X15
  have G15 := gd X15 hx hby
  obtain ⟨x16, hx16⟩ : ∃ z : UInt64, z = (rv1 p1 (3 : Int32) (p4 - (3 : Int32))) := ⟨_, rfl⟩
  obtain ⟨_, _, ⟨T17, L17, k17, n17⟩, -, X17, ⟨Lc17, hQ17, l17, y17, z17⟩, st17⟩ := Jvm.LawKit.callS X15 hx (y := (⟨"com/example/oceanus/oceanus/analysis/LinearIsConstantPinLaw", "make", "(IDDDD)[D"⟩ : MethodName)) hown (mvT hZ (wd hw 4 rfl)) (mvT hZ (wd hw 5 rfl)) (mvT hZ (wd hw 2 rfl)) (mvT hZ (wd hw 6 rfl)) (by decide) (backOf (W := 0) (rm2_3 l Z a0 hw [] x2 x4 x6 x8 h0 n0 Z0 ) hZ (wd hw 6 rfl) (wd hw 2 rfl) (by decide) (by decide)) (g := (mkF m 98 #[iv p0, iv p1, iv p2, iv p3, iv p4, iv (3 : Int32), dv x2, .second, dv x4, .second, dv x6, .second, dv x8, .second, dv x10, .second, dv x12, .second, dv x14, .second, dv x16, .second, .unset, .unset, .unset, .unset] [(.double x8), (.double x6), (.double x4), (.double x2), (.int (3 : Int32))])) rfl (by rw [hml]; rfl) (argsL := [(.int (3 : Int32)), (.double x2), (.double x4), (.double x6), (.double x8)]) (rest := []) (lenOf pd_2 rfl) rfl (by show 2 * 0 + _ ≤ _; exact Nat.le_of_eq rfl) (hb hby at_98) (fun _ _ => ⟨rfl, e15, (by decide : 0 + 1 ≤ _), (by decide : 0 + 3 ≤ _)⟩)
  dsimp only [Pt.U, Pt.locs, Pt.cells, Pt.slots] at X17 l17 y17 z17 st17 hQ17
  replace l17 : ([] ++ Lc17) = L17 := l17.symm
  subst l17 y17 z17
  obtain ⟨b17, k17, rfl, g_b17, sz17, Nq17, K17, V_b17⟩ := hQ17
  have N17 := Fr.app N0 Nq17
  have Z17k := Nat.le_trans Z0 K17.1
  have G17 := gd X17 hx hby
  obtain ⟨_, _, ⟨T19, L19, k19, n19⟩, -, X19, ⟨Lc19, hQ19, l19, y19, z19⟩, st19⟩ := Jvm.LawKit.callS X17 hx (y := (⟨"com/example/oceanus/oceanus/analysis/LinearIsConstantPinLaw", "make", "(IDDDD)[D"⟩ : MethodName)) hown (mvT hZ (wd hw 4 rfl)) (mvT hZ (wd hw 5 rfl)) (mvT hZ (wd hw 2 rfl)) (mvT hZ (wd hw 6 rfl)) (by decide) (backOf (W := 0) (rm2_3 l Z a0 hw [] x10 x12 x14 x16 T17.heap n0 Z17k ) hZ (wd hw 6 rfl) (wd hw 2 rfl) (by decide) (by decide)) (g := (mkF m 113 #[iv p0, iv p1, iv p2, iv p3, iv p4, iv (3 : Int32), dv x2, .second, dv x4, .second, dv x6, .second, dv x8, .second, dv x10, .second, dv x12, .second, dv x14, .second, dv x16, .second, rv b17, .unset, .unset, .unset] [(.double x16), (.double x14), (.double x12), (.double x10), (.int (3 : Int32))])) rfl (by rw [hml]; rfl) (argsL := [(.int (3 : Int32)), (.double x10), (.double x12), (.double x14), (.double x16)]) (rest := []) (lenOf pd_2 rfl) rfl (by show 2 * 0 + _ ≤ _; exact Nat.le_of_eq rfl) (hb hby at_113) (fun _ _ => ⟨rfl, rfl, (by decide : 1 + 1 ≤ _), (by decide : 3 + 3 ≤ _)⟩)
  dsimp only [Pt.U, Pt.locs, Pt.cells, Pt.slots] at X19 l19 y19 z19 st19 hQ19
  replace l19 : (([] ++ Lc17) ++ Lc19) = L19 := l19.symm
  subst l19 y19 z19
  obtain ⟨b19, k19, rfl, g_b19, sz19, Nq19, K19, V_b19⟩ := hQ19
  have ne_b17_b19 : b17 ≠ b19 := Nat.ne_of_lt (Nat.lt_of_lt_of_le V_b17.lt sz19)
  have N19 := Fr.app N17 Nq19
  have f21 := V_b17.keep K19 nin0
  have Z19k := Nat.le_trans Z17k K19.1
  have G19 := gd X19 hx hby
  obtain ⟨T24, h24, X24, e24, E24, A24, D24, -, st24⟩ := newO X19 hx hZ hown (wd hw 8 rfl) (wd hw 9 rfl) (wd hw 10 rfl) rfl (g := (mkF m 118 #[iv p0, iv p1, iv p2, iv p3, iv p4, iv (3 : Int32), dv x2, .second, dv x4, .second, dv x6, .second, dv x8, .second, dv x10, .second, dv x12, .second, dv x14, .second, dv x16, .second, rv b17, rv b19, .unset, .unset] [])) rfl (hb hby at_118) (by decide) (by decide)
  have G24 := gd X24 hx hby
  obtain ⟨b24, g24⟩ : ∃ z, z = T19.heap.size := ⟨_, rfl⟩
  rw [← g24] at A24 D24 st24
  have ne_b17_b24 : b17 ≠ b24 := Nat.ne_of_lt (Nat.lt_of_lt_of_le f21.lt (Nat.le_of_eq g24.symm))
  have ne_b19_b24 : b19 ≠ b24 := Nat.ne_of_lt (Nat.lt_of_lt_of_le V_b19.lt (Nat.le_of_eq g24.symm))
  have g_b24 : n0 ≤ b24 := Nat.le_trans Z19k (Nat.le_of_eq g24.symm)
  have f25 := f21.ext E24
  have f26 := V_b19.ext E24
  have Z24 := Nat.le_trans Z19k E24.1
  have F_lows_b24 : Fld Z h24 b24 "com/example/oceanus/oceanus/analysis/RoundingSpanArithmetic$Linear" "lows" "[D" .null := D24 (Or.inr (wd hw 23 rfl)) (ty := (.array .double)) (by decide)
  have F_highs_b24 : Fld Z h24 b24 "com/example/oceanus/oceanus/analysis/RoundingSpanArithmetic$Linear" "highs" "[D" .null := D24 (Or.inr (wd hw 25 rfl)) (ty := (.array .double)) (by decide)
  obtain ⟨_, _, ⟨T27, L27, k27, n27⟩, -, X27, ⟨Lc27, hQ27, l27, y27, z27⟩, st27⟩ := X24.specialBack hx (y := (⟨"com/example/oceanus/oceanus/analysis/RoundingSpanArithmetic$Linear", "<init>", "([D[D)V"⟩ : MethodName)) rfl hown (mvT hZ (wd hw 11 rfl)) (mvT hZ (wd hw 12 rfl)) (mvT hZ (wd hw 13 rfl)) (by decide) (backOf (W := 1) (rm3 l Z a0 hw [] b24 b17 b19 h24 n0 Z24 A24 g_b24 F_lows_b24 F_highs_b24) hZ (wd hw 13 rfl) (wd hw 10 rfl) (by decide) (by decide)) (g := (mkF m 126 #[iv p0, iv p1, iv p2, iv p3, iv p4, iv (3 : Int32), dv x2, .second, dv x4, .second, dv x6, .second, dv x8, .second, dv x10, .second, dv x12, .second, dv x14, .second, dv x16, .second, rv b17, rv b19, .unset, .unset] [(.ref b19), (.ref b17), (.ref b24), (.ref b24)])) rfl (by rw [hml]; rfl) (Steps.refl _) (a := b24) (argsL := [(.ref b17), (.ref b19)]) (rest := [(.ref b24)]) (lenOf pd_3 rfl) rfl (by show 2 * 0 + _ ≤ _; exact Nat.le_of_eq rfl) (hb hby at_126) (fun _ _ => ⟨rfl, e24, (by decide : 3 + 0 ≤ _), (by decide : 8 + 0 ≤ _)⟩)
  dsimp only [Pt.U, Pt.locs, Pt.cells, Pt.slots] at X27 l27 y27 z27 st27 hQ27
  replace l27 : ((([] ++ Lc17) ++ Lc19) ++ Lc27) = L27 := l27.symm
  subst l27 y27 z27
  obtain ⟨rfl, Nq27, K27, Eq27, Fq27_0, Fq27_1⟩ := hQ27
  have N27 := Fr.app N19 Nq27
  have f29 := f25.keep K27 (ninS ne_b17_b24 nin0)
  have f32 := f26.keep K27 (ninS ne_b19_b24 nin0)
  have f38 := A24.keep K27
  have Z27k := Nat.le_trans Z24 K27.1
  have G27 := gd X27 hx hby
  obtain ⟨cq39, kq39, q39a, q39b, q39c⟩ := isOf hZ rfl Eq27
  obtain ⟨_, _, ⟨T39, L39, k39, n39⟩, -, X39, ⟨Lc39, hQ39, l39, y39, z39⟩, st39⟩ := X27.virtualBack hx (y := (⟨"com/example/oceanus/oceanus/analysis/RoundingSpanArithmetic$Linear", "isConstant", "()Z"⟩ : MethodName)) (z := (⟨"com/example/oceanus/oceanus/analysis/RoundingSpanArithmetic$Linear", "isConstant", "()Z"⟩ : MethodName)) hown (mvT hZ (wd hw 26 rfl)) (mvT hZ (wd hw 27 rfl)) (notFace_of_selects (args := #[]) (mvT hZ (wd hw 29 rfl))) (mvT hZ (wd hw 29 rfl)) (mvT hZ (wd hw 28 rfl)) (by decide) (backOf (W := 0) (rm6_3 l Z a0 hw [] b24 T27.heap n0 Z27k Fq27_0 Fq27_1 f29 f32) hZ (wd hw 30 rfl) (wd hw 10 rfl) (by decide) (by decide)) q39a q39c (g := (mkF m 129 #[iv p0, iv p1, iv p2, iv p3, iv p4, iv (3 : Int32), dv x2, .second, dv x4, .second, dv x6, .second, dv x8, .second, dv x10, .second, dv x12, .second, dv x14, .second, dv x16, .second, rv b17, rv b19, .unset, .unset] [(.ref b24)])) rfl (by rw [hml]; rfl) (Steps.refl _) (argsL := []) (rest := []) (lenOf pd_4 rfl) rfl (by show 2 * 0 + _ ≤ _; exact Nat.le_of_eq rfl) (hb hby at_129) (fun _ _ => ⟨rfl, rfl, (by decide : 3 + 0 ≤ _), (by decide : 8 + 0 ≤ _)⟩)
  dsimp only [Pt.U, Pt.locs, Pt.cells, Pt.slots] at X39 l39 y39 z39 st39 hQ39
  replace l39 : (((([] ++ Lc17) ++ Lc19) ++ Lc27) ++ Lc39) = L39 := l39.symm
  subst l39 y39 z39
  obtain ⟨rfl, rfl, e39⟩ := hQ39
  simp only [List.append_nil, Nat.add_zero] at X39
  have G39 := gd X39 hx hby
  obtain ⟨x40, hx40⟩ : ∃ z : Int32, z = (rv6_3 x2 x4 x10 x12) := ⟨_, rfl⟩
  obtain ⟨x43, hx43⟩ : ∃ z : Int32, z = (if (cmpValue (FP.dcmp x2 (0 : UInt64)) .l) = (0 : Int32) then (if (cmpValue (FP.dcmp x10 (0 : UInt64)) .l) = (0 : Int32) then (if (cmpValue (FP.dcmp x4 (0 : UInt64)) .l) = (0 : Int32) then (if (cmpValue (FP.dcmp x12 (0 : UInt64)) .l) = (0 : Int32) then (1 : Int32) else (0 : Int32)) else (0 : Int32)) else (0 : Int32)) else (0 : Int32)) := ⟨_, rfl⟩
  obtain ⟨T42, X42, e42, st42⟩ : ∃ T' : State, Stand p l e room_1 s m #[(.int p0), (.int p1), (.int p2), (.int p3), (.int p4)] below meth c T' ((([] ++ Lc17) ++ Lc19) ++ Lc27) 3 8 ∧ T'.heap = T27.heap ∧ ∀ target, Steps p.tables e below (T'.setTop (mkF m 199 #[iv p0, iv p1, iv p2, iv p3, iv p4, iv (3 : Int32), dv x2, .second, dv x4, .second, dv x6, .second, dv x8, .second, dv x10, .second, dv x12, .second, dv x14, .second, dv x16, .second, rv b17, rv b19, iv x40, .unset] [(.int x43)])) target → Steps p.tables e below (T39.setTop (mkF m 144 #[iv p0, iv p1, iv p2, iv p3, iv p4, iv (3 : Int32), dv x2, .second, dv x4, .second, dv x6, .second, dv x8, .second, dv x10, .second, dv x12, .second, dv x14, .second, dv x16, .second, rv b17, rv b19, iv x40, .unset] [(.int (cmpValue (FP.dcmp x2 (0 : UInt64)) .l))])) target := by
    by_cases hc144_41 : (cmpValue (FP.dcmp x2 (0 : UInt64)) .l) = (0 : Int32)
    · by_cases hc151_44 : (cmpValue (FP.dcmp x10 (0 : UInt64)) .l) = (0 : Int32)
      · by_cases hc164_45 : (cmpValue (FP.dcmp x4 (0 : UInt64)) .l) = (0 : Int32)
        · by_cases hc171_46 : (cmpValue (FP.dcmp x12 (0 : UInt64)) .l) = (0 : Int32)
          · refine ⟨T39, X39, e39, fun target kt => ?_⟩
            refine mifNo 147 G39 at_144 ((if0 _ _).trans (teq hc144_41).2) rfl ?_
            refine mdload 149 G39 at_147 rfl rfl ?_
            refine mdconst0 150 G39 at_149 (v := (0 : UInt64)) rfl rfl ?_
            refine mdcmp 151 G39 at_150 rfl ?_
            refine mifNo 154 G39 at_151 ((if0 _ _).trans (teq hc151_44).2) rfl ?_
            refine miload 156 G39 at_154 rfl rfl ?_
            refine miconst 157 G39 at_156 (v := (2 : Int32)) rfl rfl ?_
            refine micmpNo 160 G39 at_157 (tlt (by decide : (2 : Int32) < (3 : Int32))).2.2.2 rfl ?_
            refine mdload 162 G39 at_160 rfl rfl ?_
            refine mdconst0 163 G39 at_162 (v := (0 : UInt64)) rfl rfl ?_
            refine mdcmp 164 G39 at_163 rfl ?_
            refine mifNo 167 G39 at_164 ((if0 _ _).trans (teq hc164_45).2) rfl ?_
            refine mdload 169 G39 at_167 rfl rfl ?_
            refine mdconst0 170 G39 at_169 (v := (0 : UInt64)) rfl rfl ?_
            refine mdcmp 171 G39 at_170 rfl ?_
            refine mifNo 174 G39 at_171 ((if0 _ _).trans (teq hc171_46).2) rfl ?_
            refine miload 176 G39 at_174 rfl rfl ?_
            refine miconst 177 G39 at_176 (v := (3 : Int32)) rfl rfl ?_
            refine micmpYes 194 G39 at_177 (flt (by decide : ¬ ((3 : Int32) < (3 : Int32)))).2.2.2 (by decide) rfl ?_
            refine miconst 195 G39 at_194 (v := (1 : Int32)) rfl rfl ?_
            refine mgoto 199 G39 at_195 (by decide) rfl ?_
            exact castTop (g' := (mkF m 199 #[iv p0, iv p1, iv p2, iv p3, iv p4, iv (3 : Int32), dv x2, .second, dv x4, .second, dv x6, .second, dv x8, .second, dv x10, .second, dv x12, .second, dv x14, .second, dv x16, .second, rv b17, rv b19, iv x40, .unset] [(.int x43)])) (by simp only [hx43, if_pos hc144_41, if_pos hc151_44, if_pos hc164_45, if_pos hc171_46]) kt
          · refine ⟨T39, X39, e39, fun target kt => ?_⟩
            refine mifNo 147 G39 at_144 ((if0 _ _).trans (teq hc144_41).2) rfl ?_
            refine mdload 149 G39 at_147 rfl rfl ?_
            refine mdconst0 150 G39 at_149 (v := (0 : UInt64)) rfl rfl ?_
            refine mdcmp 151 G39 at_150 rfl ?_
            refine mifNo 154 G39 at_151 ((if0 _ _).trans (teq hc151_44).2) rfl ?_
            refine miload 156 G39 at_154 rfl rfl ?_
            refine miconst 157 G39 at_156 (v := (2 : Int32)) rfl rfl ?_
            refine micmpNo 160 G39 at_157 (tlt (by decide : (2 : Int32) < (3 : Int32))).2.2.2 rfl ?_
            refine mdload 162 G39 at_160 rfl rfl ?_
            refine mdconst0 163 G39 at_162 (v := (0 : UInt64)) rfl rfl ?_
            refine mdcmp 164 G39 at_163 rfl ?_
            refine mifNo 167 G39 at_164 ((if0 _ _).trans (teq hc164_45).2) rfl ?_
            refine mdload 169 G39 at_167 rfl rfl ?_
            refine mdconst0 170 G39 at_169 (v := (0 : UInt64)) rfl rfl ?_
            refine mdcmp 171 G39 at_170 rfl ?_
            refine mifYes 198 G39 at_171 ((if0 _ _).trans (feq hc171_46).2) (by decide) rfl ?_
            refine miconst 199 G39 at_198 (v := (0 : Int32)) rfl rfl ?_
            exact castTop (g' := (mkF m 199 #[iv p0, iv p1, iv p2, iv p3, iv p4, iv (3 : Int32), dv x2, .second, dv x4, .second, dv x6, .second, dv x8, .second, dv x10, .second, dv x12, .second, dv x14, .second, dv x16, .second, rv b17, rv b19, iv x40, .unset] [(.int x43)])) (by simp only [hx43, if_pos hc144_41, if_pos hc151_44, if_pos hc164_45, if_neg hc171_46]) kt
        · refine ⟨T39, X39, e39, fun target kt => ?_⟩
          refine mifNo 147 G39 at_144 ((if0 _ _).trans (teq hc144_41).2) rfl ?_
          refine mdload 149 G39 at_147 rfl rfl ?_
          refine mdconst0 150 G39 at_149 (v := (0 : UInt64)) rfl rfl ?_
          refine mdcmp 151 G39 at_150 rfl ?_
          refine mifNo 154 G39 at_151 ((if0 _ _).trans (teq hc151_44).2) rfl ?_
          refine miload 156 G39 at_154 rfl rfl ?_
          refine miconst 157 G39 at_156 (v := (2 : Int32)) rfl rfl ?_
          refine micmpNo 160 G39 at_157 (tlt (by decide : (2 : Int32) < (3 : Int32))).2.2.2 rfl ?_
          refine mdload 162 G39 at_160 rfl rfl ?_
          refine mdconst0 163 G39 at_162 (v := (0 : UInt64)) rfl rfl ?_
          refine mdcmp 164 G39 at_163 rfl ?_
          refine mifYes 198 G39 at_164 ((if0 _ _).trans (feq hc164_45).2) (by decide) rfl ?_
          refine miconst 199 G39 at_198 (v := (0 : Int32)) rfl rfl ?_
          exact castTop (g' := (mkF m 199 #[iv p0, iv p1, iv p2, iv p3, iv p4, iv (3 : Int32), dv x2, .second, dv x4, .second, dv x6, .second, dv x8, .second, dv x10, .second, dv x12, .second, dv x14, .second, dv x16, .second, rv b17, rv b19, iv x40, .unset] [(.int x43)])) (by simp only [hx43, if_pos hc144_41, if_pos hc151_44, if_neg hc164_45]) kt
      · refine ⟨T39, X39, e39, fun target kt => ?_⟩
        refine mifNo 147 G39 at_144 ((if0 _ _).trans (teq hc144_41).2) rfl ?_
        refine mdload 149 G39 at_147 rfl rfl ?_
        refine mdconst0 150 G39 at_149 (v := (0 : UInt64)) rfl rfl ?_
        refine mdcmp 151 G39 at_150 rfl ?_
        refine mifYes 198 G39 at_151 ((if0 _ _).trans (feq hc151_44).2) (by decide) rfl ?_
        refine miconst 199 G39 at_198 (v := (0 : Int32)) rfl rfl ?_
        exact castTop (g' := (mkF m 199 #[iv p0, iv p1, iv p2, iv p3, iv p4, iv (3 : Int32), dv x2, .second, dv x4, .second, dv x6, .second, dv x8, .second, dv x10, .second, dv x12, .second, dv x14, .second, dv x16, .second, rv b17, rv b19, iv x40, .unset] [(.int x43)])) (by simp only [hx43, if_pos hc144_41, if_neg hc151_44]) kt
    · refine ⟨T39, X39, e39, fun target kt => ?_⟩
      refine mifYes 198 G39 at_144 ((if0 _ _).trans (feq hc144_41).2) (by decide) rfl ?_
      refine miconst 199 G39 at_198 (v := (0 : Int32)) rfl rfl ?_
      exact castTop (g' := (mkF m 199 #[iv p0, iv p1, iv p2, iv p3, iv p4, iv (3 : Int32), dv x2, .second, dv x4, .second, dv x6, .second, dv x8, .second, dv x10, .second, dv x12, .second, dv x14, .second, dv x16, .second, rv b17, rv b19, iv x40, .unset] [(.int x43)])) (by simp only [hx43, if_neg hc144_41]) kt
  have G42 := gd X42 hx hby
  obtain ⟨x49, hx49⟩ : ∃ z : Int32, z = (if x40 = x43 then (1 : Int32) else (0 : Int32)) := ⟨_, rfl⟩
  obtain ⟨T48, X48, e48, st48⟩ : ∃ T' : State, Stand p l e room_1 s m #[(.int p0), (.int p1), (.int p2), (.int p3), (.int p4)] below meth c T' ((([] ++ Lc17) ++ Lc19) ++ Lc27) 3 8 ∧ T'.heap = T27.heap ∧ ∀ target, Steps p.tables e below (T'.setTop (mkF m 213 #[iv p0, iv p1, iv p2, iv p3, iv p4, iv (3 : Int32), dv x2, .second, dv x4, .second, dv x6, .second, dv x8, .second, dv x10, .second, dv x12, .second, dv x14, .second, dv x16, .second, rv b17, rv b19, iv x40, iv x43] [(.int x49)])) target → Steps p.tables e below (T42.setTop (mkF m 205 #[iv p0, iv p1, iv p2, iv p3, iv p4, iv (3 : Int32), dv x2, .second, dv x4, .second, dv x6, .second, dv x8, .second, dv x10, .second, dv x12, .second, dv x14, .second, dv x16, .second, rv b17, rv b19, iv x40, iv x43] [(.int x43), (.int x40)])) target := by
    by_cases hc205_47 : x40 = x43
    · refine ⟨T42, X42, e42, fun target kt => ?_⟩
      refine micmpNo 208 G42 at_205 (teq hc205_47).2 rfl ?_
      refine miconst 209 G42 at_208 (v := (1 : Int32)) rfl rfl ?_
      refine mgoto 213 G42 at_209 (by decide) rfl ?_
      exact castTop (g' := (mkF m 213 #[iv p0, iv p1, iv p2, iv p3, iv p4, iv (3 : Int32), dv x2, .second, dv x4, .second, dv x6, .second, dv x8, .second, dv x10, .second, dv x12, .second, dv x14, .second, dv x16, .second, rv b17, rv b19, iv x40, iv x43] [(.int x49)])) (by simp only [hx49, if_pos hc205_47]) kt
    · refine ⟨T42, X42, e42, fun target kt => ?_⟩
      refine micmpYes 212 G42 at_205 (feq hc205_47).2 (by decide) rfl ?_
      refine miconst 213 G42 at_212 (v := (0 : Int32)) rfl rfl ?_
      exact castTop (g' := (mkF m 213 #[iv p0, iv p1, iv p2, iv p3, iv p4, iv (3 : Int32), dv x2, .second, dv x4, .second, dv x6, .second, dv x8, .second, dv x10, .second, dv x12, .second, dv x14, .second, dv x16, .second, rv b17, rv b19, iv x40, iv x43] [(.int x49)])) (by simp only [hx49, if_neg hc205_47]) kt
  have G48 := gd X48 hx hby
  have hend : x49 = 1 := (own_rm0_3_end p0 p1 p2 p3 p4 x2 hx2 x4 hx4 x6 hx6 x8 hx8 x10 hx10 x12 hx12 x14 hx14 x16 hx16 x40 hx40 x43 hx43 x49 hx49 hpin6)
  obtain ⟨fs, hr, hrun, hended, hW, hsame⟩ := X48.leave (v := some (.int (1 : Int32))) (fun h => by rw [Bd.returns] at h; cases h)
  refine ⟨_, _, pre0 _ ?_, hrun, hended, _, _, rfl, ?_, ⟨_, rfl⟩, hW, hsame.mono (by decide) (by decide)⟩
  · show Steps p.tables e below (s₁.setTop (mkF m 0 #[iv p0, iv p1, iv p2, iv p3, iv p4, .unset, .unset, .unset, .unset, .unset, .unset, .unset, .unset, .unset, .unset, .unset, .unset, .unset, .unset, .unset, .unset, .unset, .unset, .unset, .unset, .unset] [])) _
    refine miloadN 1 G0 at_0 rfl rfl ?_
    refine mbipush 3 G0 at_1 (v := (7 : Int32)) rfl rfl ?_
    refine miand 4 G0 at_3 rfl rfl ?_
    refine miconst 5 G0 at_4 (v := (5 : Int32)) rfl rfl ?_
    refine mirem 6 G0 at_5 (by decide) (irem_eq_mod _ _) rfl ?_
    refine castTop (g' := (mkF m 6 #[iv p0, iv p1, iv p2, iv p3, iv p4, .unset, .unset, .unset, .unset, .unset, .unset, .unset, .unset, .unset, .unset, .unset, .unset, .unset, .unset, .unset, .unset, .unset, .unset, .unset, .unset, .unset] [(.int (3 : Int32))])) (by rw [hpin6]) ?_
    refine mistore 8 G0 at_6 #[iv p0, iv p1, iv p2, iv p3, iv p4, iv (3 : Int32), .unset, .unset, .unset, .unset, .unset, .unset, .unset, .unset, .unset, .unset, .unset, .unset, .unset, .unset, .unset, .unset, .unset, .unset, .unset, .unset] rfl rfl ?_
    refine miloadN 9 G0 at_8 rfl rfl ?_
    refine miconst 10 G0 at_9 (v := (0 : Int32)) rfl rfl ?_
    refine miloadN 11 G0 at_10 rfl rfl ?_
    refine st1 _ ?_
    show Steps p.tables e below (T1.setTop (mkF m 14 #[iv p0, iv p1, iv p2, iv p3, iv p4, iv (3 : Int32), .unset, .unset, .unset, .unset, .unset, .unset, .unset, .unset, .unset, .unset, .unset, .unset, .unset, .unset, .unset, .unset, .unset, .unset, .unset, .unset] [(.double (rv1 p0 (0 : Int32) p3))])) _
    refine castTop (g' := (mkF m 14 #[iv p0, iv p1, iv p2, iv p3, iv p4, iv (3 : Int32), .unset, .unset, .unset, .unset, .unset, .unset, .unset, .unset, .unset, .unset, .unset, .unset, .unset, .unset, .unset, .unset, .unset, .unset, .unset, .unset] [(.double x2)])) (by rw [hx2]) ?_
    refine mdstore 16 G1 at_14 #[iv p0, iv p1, iv p2, iv p3, iv p4, iv (3 : Int32), dv x2, .second, .unset, .unset, .unset, .unset, .unset, .unset, .unset, .unset, .unset, .unset, .unset, .unset, .unset, .unset, .unset, .unset, .unset, .unset] rfl rfl ?_
    refine miloadN 17 G1 at_16 rfl rfl ?_
    refine miconst 18 G1 at_17 (v := (1 : Int32)) rfl rfl ?_
    refine miloadN 19 G1 at_18 rfl rfl ?_
    refine miconst 20 G1 at_19 (v := (1 : Int32)) rfl rfl ?_
    refine miadd 21 G1 at_20 rfl rfl ?_
    refine st3 _ ?_
    show Steps p.tables e below (T3.setTop (mkF m 24 #[iv p0, iv p1, iv p2, iv p3, iv p4, iv (3 : Int32), dv x2, .second, .unset, .unset, .unset, .unset, .unset, .unset, .unset, .unset, .unset, .unset, .unset, .unset, .unset, .unset, .unset, .unset, .unset, .unset] [(.double (rv1 p0 (1 : Int32) (p3 + (1 : Int32))))])) _
    refine castTop (g' := (mkF m 24 #[iv p0, iv p1, iv p2, iv p3, iv p4, iv (3 : Int32), dv x2, .second, .unset, .unset, .unset, .unset, .unset, .unset, .unset, .unset, .unset, .unset, .unset, .unset, .unset, .unset, .unset, .unset, .unset, .unset] [(.double x4)])) (by rw [hx4]) ?_
    refine mdstore 26 G3 at_24 #[iv p0, iv p1, iv p2, iv p3, iv p4, iv (3 : Int32), dv x2, .second, dv x4, .second, .unset, .unset, .unset, .unset, .unset, .unset, .unset, .unset, .unset, .unset, .unset, .unset, .unset, .unset, .unset, .unset] rfl rfl ?_
    refine miloadN 27 G3 at_26 rfl rfl ?_
    refine miconst 28 G3 at_27 (v := (2 : Int32)) rfl rfl ?_
    refine miloadN 29 G3 at_28 rfl rfl ?_
    refine miconst 30 G3 at_29 (v := (2 : Int32)) rfl rfl ?_
    refine miadd 31 G3 at_30 rfl rfl ?_
    refine st5 _ ?_
    show Steps p.tables e below (T5.setTop (mkF m 34 #[iv p0, iv p1, iv p2, iv p3, iv p4, iv (3 : Int32), dv x2, .second, dv x4, .second, .unset, .unset, .unset, .unset, .unset, .unset, .unset, .unset, .unset, .unset, .unset, .unset, .unset, .unset, .unset, .unset] [(.double (rv1 p0 (2 : Int32) (p3 + (2 : Int32))))])) _
    refine castTop (g' := (mkF m 34 #[iv p0, iv p1, iv p2, iv p3, iv p4, iv (3 : Int32), dv x2, .second, dv x4, .second, .unset, .unset, .unset, .unset, .unset, .unset, .unset, .unset, .unset, .unset, .unset, .unset, .unset, .unset, .unset, .unset] [(.double x6)])) (by rw [hx6]) ?_
    refine mdstore 36 G5 at_34 #[iv p0, iv p1, iv p2, iv p3, iv p4, iv (3 : Int32), dv x2, .second, dv x4, .second, dv x6, .second, .unset, .unset, .unset, .unset, .unset, .unset, .unset, .unset, .unset, .unset, .unset, .unset, .unset, .unset] rfl rfl ?_
    refine miloadN 37 G5 at_36 rfl rfl ?_
    refine miconst 38 G5 at_37 (v := (3 : Int32)) rfl rfl ?_
    refine miloadN 39 G5 at_38 rfl rfl ?_
    refine miconst 40 G5 at_39 (v := (3 : Int32)) rfl rfl ?_
    refine miadd 41 G5 at_40 rfl rfl ?_
    refine st7 _ ?_
    show Steps p.tables e below (T7.setTop (mkF m 44 #[iv p0, iv p1, iv p2, iv p3, iv p4, iv (3 : Int32), dv x2, .second, dv x4, .second, dv x6, .second, .unset, .unset, .unset, .unset, .unset, .unset, .unset, .unset, .unset, .unset, .unset, .unset, .unset, .unset] [(.double (rv1 p0 (3 : Int32) (p3 + (3 : Int32))))])) _
    refine castTop (g' := (mkF m 44 #[iv p0, iv p1, iv p2, iv p3, iv p4, iv (3 : Int32), dv x2, .second, dv x4, .second, dv x6, .second, .unset, .unset, .unset, .unset, .unset, .unset, .unset, .unset, .unset, .unset, .unset, .unset, .unset, .unset] [(.double x8)])) (by rw [hx8]) ?_
    refine mdstore 46 G7 at_44 #[iv p0, iv p1, iv p2, iv p3, iv p4, iv (3 : Int32), dv x2, .second, dv x4, .second, dv x6, .second, dv x8, .second, .unset, .unset, .unset, .unset, .unset, .unset, .unset, .unset, .unset, .unset, .unset, .unset] rfl rfl ?_
    refine miloadN 47 G7 at_46 rfl rfl ?_
    refine miconst 48 G7 at_47 (v := (0 : Int32)) rfl rfl ?_
    refine miload 50 G7 at_48 rfl rfl ?_
    refine st9 _ ?_
    show Steps p.tables e below (T9.setTop (mkF m 53 #[iv p0, iv p1, iv p2, iv p3, iv p4, iv (3 : Int32), dv x2, .second, dv x4, .second, dv x6, .second, dv x8, .second, .unset, .unset, .unset, .unset, .unset, .unset, .unset, .unset, .unset, .unset, .unset, .unset] [(.double (rv1 p1 (0 : Int32) p4))])) _
    refine castTop (g' := (mkF m 53 #[iv p0, iv p1, iv p2, iv p3, iv p4, iv (3 : Int32), dv x2, .second, dv x4, .second, dv x6, .second, dv x8, .second, .unset, .unset, .unset, .unset, .unset, .unset, .unset, .unset, .unset, .unset, .unset, .unset] [(.double x10)])) (by rw [hx10]) ?_
    refine mdstore 55 G9 at_53 #[iv p0, iv p1, iv p2, iv p3, iv p4, iv (3 : Int32), dv x2, .second, dv x4, .second, dv x6, .second, dv x8, .second, dv x10, .second, .unset, .unset, .unset, .unset, .unset, .unset, .unset, .unset, .unset, .unset] rfl rfl ?_
    refine miloadN 56 G9 at_55 rfl rfl ?_
    refine miconst 57 G9 at_56 (v := (1 : Int32)) rfl rfl ?_
    refine miload 59 G9 at_57 rfl rfl ?_
    refine miconst 60 G9 at_59 (v := (1 : Int32)) rfl rfl ?_
    refine misub 61 G9 at_60 rfl rfl ?_
    refine st11 _ ?_
    show Steps p.tables e below (T11.setTop (mkF m 64 #[iv p0, iv p1, iv p2, iv p3, iv p4, iv (3 : Int32), dv x2, .second, dv x4, .second, dv x6, .second, dv x8, .second, dv x10, .second, .unset, .unset, .unset, .unset, .unset, .unset, .unset, .unset, .unset, .unset] [(.double (rv1 p1 (1 : Int32) (p4 - (1 : Int32))))])) _
    refine castTop (g' := (mkF m 64 #[iv p0, iv p1, iv p2, iv p3, iv p4, iv (3 : Int32), dv x2, .second, dv x4, .second, dv x6, .second, dv x8, .second, dv x10, .second, .unset, .unset, .unset, .unset, .unset, .unset, .unset, .unset, .unset, .unset] [(.double x12)])) (by rw [hx12]) ?_
    refine mdstore 66 G11 at_64 #[iv p0, iv p1, iv p2, iv p3, iv p4, iv (3 : Int32), dv x2, .second, dv x4, .second, dv x6, .second, dv x8, .second, dv x10, .second, dv x12, .second, .unset, .unset, .unset, .unset, .unset, .unset, .unset, .unset] rfl rfl ?_
    refine miloadN 67 G11 at_66 rfl rfl ?_
    refine miconst 68 G11 at_67 (v := (2 : Int32)) rfl rfl ?_
    refine miload 70 G11 at_68 rfl rfl ?_
    refine miconst 71 G11 at_70 (v := (2 : Int32)) rfl rfl ?_
    refine misub 72 G11 at_71 rfl rfl ?_
    refine st13 _ ?_
    show Steps p.tables e below (T13.setTop (mkF m 75 #[iv p0, iv p1, iv p2, iv p3, iv p4, iv (3 : Int32), dv x2, .second, dv x4, .second, dv x6, .second, dv x8, .second, dv x10, .second, dv x12, .second, .unset, .unset, .unset, .unset, .unset, .unset, .unset, .unset] [(.double (rv1 p1 (2 : Int32) (p4 - (2 : Int32))))])) _
    refine castTop (g' := (mkF m 75 #[iv p0, iv p1, iv p2, iv p3, iv p4, iv (3 : Int32), dv x2, .second, dv x4, .second, dv x6, .second, dv x8, .second, dv x10, .second, dv x12, .second, .unset, .unset, .unset, .unset, .unset, .unset, .unset, .unset] [(.double x14)])) (by rw [hx14]) ?_
    refine mdstore 77 G13 at_75 #[iv p0, iv p1, iv p2, iv p3, iv p4, iv (3 : Int32), dv x2, .second, dv x4, .second, dv x6, .second, dv x8, .second, dv x10, .second, dv x12, .second, dv x14, .second, .unset, .unset, .unset, .unset, .unset, .unset] rfl rfl ?_
    refine miloadN 78 G13 at_77 rfl rfl ?_
    refine miconst 79 G13 at_78 (v := (3 : Int32)) rfl rfl ?_
    refine miload 81 G13 at_79 rfl rfl ?_
    refine miconst 82 G13 at_81 (v := (3 : Int32)) rfl rfl ?_
    refine misub 83 G13 at_82 rfl rfl ?_
    refine st15 _ ?_
    show Steps p.tables e below (T15.setTop (mkF m 86 #[iv p0, iv p1, iv p2, iv p3, iv p4, iv (3 : Int32), dv x2, .second, dv x4, .second, dv x6, .second, dv x8, .second, dv x10, .second, dv x12, .second, dv x14, .second, .unset, .unset, .unset, .unset, .unset, .unset] [(.double (rv1 p1 (3 : Int32) (p4 - (3 : Int32))))])) _
    refine castTop (g' := (mkF m 86 #[iv p0, iv p1, iv p2, iv p3, iv p4, iv (3 : Int32), dv x2, .second, dv x4, .second, dv x6, .second, dv x8, .second, dv x10, .second, dv x12, .second, dv x14, .second, .unset, .unset, .unset, .unset, .unset, .unset] [(.double x16)])) (by rw [hx16]) ?_
    refine mdstore 88 G15 at_86 #[iv p0, iv p1, iv p2, iv p3, iv p4, iv (3 : Int32), dv x2, .second, dv x4, .second, dv x6, .second, dv x8, .second, dv x10, .second, dv x12, .second, dv x14, .second, dv x16, .second, .unset, .unset, .unset, .unset] rfl rfl ?_
    refine miload 90 G15 at_88 rfl rfl ?_
    refine mdload 92 G15 at_90 rfl rfl ?_
    refine mdload 94 G15 at_92 rfl rfl ?_
    refine mdload 96 G15 at_94 rfl rfl ?_
    refine mdload 98 G15 at_96 rfl rfl ?_
    refine st17 _ ?_
    show Steps p.tables e below (T17.setTop (mkF m 101 #[iv p0, iv p1, iv p2, iv p3, iv p4, iv (3 : Int32), dv x2, .second, dv x4, .second, dv x6, .second, dv x8, .second, dv x10, .second, dv x12, .second, dv x14, .second, dv x16, .second, .unset, .unset, .unset, .unset] [(.ref b17)])) _
    refine mastore 103 G17 at_101 rfl #[iv p0, iv p1, iv p2, iv p3, iv p4, iv (3 : Int32), dv x2, .second, dv x4, .second, dv x6, .second, dv x8, .second, dv x10, .second, dv x12, .second, dv x14, .second, dv x16, .second, rv b17, .unset, .unset, .unset] rfl rfl ?_
    refine miload 105 G17 at_103 rfl rfl ?_
    refine mdload 107 G17 at_105 rfl rfl ?_
    refine mdload 109 G17 at_107 rfl rfl ?_
    refine mdload 111 G17 at_109 rfl rfl ?_
    refine mdload 113 G17 at_111 rfl rfl ?_
    refine st19 _ ?_
    show Steps p.tables e below (T19.setTop (mkF m 116 #[iv p0, iv p1, iv p2, iv p3, iv p4, iv (3 : Int32), dv x2, .second, dv x4, .second, dv x6, .second, dv x8, .second, dv x10, .second, dv x12, .second, dv x14, .second, dv x16, .second, rv b17, .unset, .unset, .unset] [(.ref b19)])) _
    refine mastore 118 G19 at_116 rfl #[iv p0, iv p1, iv p2, iv p3, iv p4, iv (3 : Int32), dv x2, .second, dv x4, .second, dv x6, .second, dv x8, .second, dv x10, .second, dv x12, .second, dv x14, .second, dv x16, .second, rv b17, rv b19, .unset, .unset] rfl rfl ?_
    refine st24 _ ?_
    show Steps p.tables e below (T24.setTop (mkF m 121 #[iv p0, iv p1, iv p2, iv p3, iv p4, iv (3 : Int32), dv x2, .second, dv x4, .second, dv x6, .second, dv x8, .second, dv x10, .second, dv x12, .second, dv x14, .second, dv x16, .second, rv b17, rv b19, .unset, .unset] [(.ref b24)])) _
    refine mdup 122 G24 at_121 rfl rfl ?_
    refine maload 124 G24 at_122 rfl rfl rfl ?_
    refine maload 126 G24 at_124 rfl rfl rfl ?_
    refine st27.trans ?_
    show Steps p.tables e below (T27.setTop (mkF m 129 #[iv p0, iv p1, iv p2, iv p3, iv p4, iv (3 : Int32), dv x2, .second, dv x4, .second, dv x6, .second, dv x8, .second, dv x10, .second, dv x12, .second, dv x14, .second, dv x16, .second, rv b17, rv b19, .unset, .unset] [(.ref b24)])) _
    refine st39.trans ?_
    show Steps p.tables e below (T39.setTop (mkF m 132 #[iv p0, iv p1, iv p2, iv p3, iv p4, iv (3 : Int32), dv x2, .second, dv x4, .second, dv x6, .second, dv x8, .second, dv x10, .second, dv x12, .second, dv x14, .second, dv x16, .second, rv b17, rv b19, .unset, .unset] [(.int (rv6_3 x2 x4 x10 x12))])) _
    refine castTop (g' := (mkF m 132 #[iv p0, iv p1, iv p2, iv p3, iv p4, iv (3 : Int32), dv x2, .second, dv x4, .second, dv x6, .second, dv x8, .second, dv x10, .second, dv x12, .second, dv x14, .second, dv x16, .second, rv b17, rv b19, .unset, .unset] [(.int x40)])) (by rw [hx40]) ?_
    refine mistore 134 G39 at_132 #[iv p0, iv p1, iv p2, iv p3, iv p4, iv (3 : Int32), dv x2, .second, dv x4, .second, dv x6, .second, dv x8, .second, dv x10, .second, dv x12, .second, dv x14, .second, dv x16, .second, rv b17, rv b19, iv x40, .unset] rfl rfl ?_
    refine miload 136 G39 at_134 rfl rfl ?_
    refine miconst 137 G39 at_136 (v := (1 : Int32)) rfl rfl ?_
    refine micmpNo 140 G39 at_137 (tlt (by decide : (1 : Int32) < (3 : Int32))).2.2.2 rfl ?_
    refine mdload 142 G39 at_140 rfl rfl ?_
    refine mdconst0 143 G39 at_142 (v := (0 : UInt64)) rfl rfl ?_
    refine mdcmp 144 G39 at_143 rfl ?_
    refine st42 _ ?_
    refine mistore 201 G42 at_199 #[iv p0, iv p1, iv p2, iv p3, iv p4, iv (3 : Int32), dv x2, .second, dv x4, .second, dv x6, .second, dv x8, .second, dv x10, .second, dv x12, .second, dv x14, .second, dv x16, .second, rv b17, rv b19, iv x40, iv x43] rfl rfl ?_
    refine miload 203 G42 at_201 rfl rfl ?_
    refine miload 205 G42 at_203 rfl rfl ?_
    refine st48 _ ?_
    refine castTop (g' := (mkF m 213 #[iv p0, iv p1, iv p2, iv p3, iv p4, iv (3 : Int32), dv x2, .second, dv x4, .second, dv x6, .second, dv x8, .second, dv x10, .second, dv x12, .second, dv x14, .second, dv x16, .second, rv b17, rv b19, iv x40, iv x43] [(.int (1 : Int32))])) (by rw [hend]) ?_
    exact retN X48 hx (t := .boolean) Bd.returns (by simp) (hb hby at_213) hr
  · show Q0 Z p0 p1 p2 p3 p4 h0 n0 _ T48.heap _
    rw [e48]
    exact ⟨rfl, N27⟩
theorem d2_40 : decode method_4_code 40 = .ok (.aload 9, 2) := by decide +kernel
theorem d2_42 : decode method_4_code 42 = .ok (.iconst 3, 1) := by decide +kernel
theorem d2_43 : decode method_4_code 43 = .ok (.dload 7, 2) := by decide +kernel
theorem d2_45 : decode method_4_code 45 = .ok (.dastore, 1) := by decide +kernel
theorem ef2_4 (m : MethodId) (d1 : UInt64) (d2 : UInt64) (d3 : UInt64) (d4 : UInt64) : entryFrame m #[(.int (4 : Int32)), (.double d1), (.double d2), (.double d3), (.double d4)] 10 = mkF m 0 #[iv (4 : Int32), dv d1, .second, dv d2, .second, dv d3, .second, dv d4, .second, .unset] [] := by first | (simp [entryFrame, mkF, argsToLocals, Value.category]; done) | rfl
abbrev room_of_2_4 : Room := { frames := 0, cells := 1, slots := 4, locals := 0 }
def Q2_4 (Z : State) (d1 : UInt64) (d2 : UInt64) (d3 : UInt64) (d4 : UInt64) (h0 : Heap) (n0 : Nat) (v : Option Value) (h : Heap) (L : List Loc) : Prop := ∃ (b : Addr) (k : ClassId), v = some (.ref b) ∧ n0 ≤ b ∧ h0.size ≤ b ∧ Fr n0 L ∧ Keep h0 h [] ∧ Arv Z h b k .double (4 : Int32) [(.double d1), (.double d2), (.double d3), (.double d4)] (.double (0 : UInt64))
set_option maxRecDepth 65536 in
set_option maxHeartbeats 40000000 in
theorem rm2_4 (l : Launch) (Z : State) (a0 : Array Value) (hw : ∀ d ∈ tables_1, d.before a0 Z = true) (ws : List Jvm.Cond) (d1 : UInt64) (d2 : UInt64) (d3 : UInt64) (d4 : UInt64)  (h0 : Heap) (n0 : Nat) (Z0 : n0 ≤ h0.size) :
    MetFree l (⟨"com/example/oceanus/oceanus/analysis/LinearIsConstantPinLaw", "make", "(IDDDD)[D"⟩ : MethodName) (head1 (Jvm.Cond.code (⟨"com/example/oceanus/oceanus/analysis/LinearIsConstantPinLaw", "make", "(IDDDD)[D"⟩ : MethodName) method_4_code 10 (some (.array .double)) :: ws) (room_of_2_4)) (fun a U => a = #[(.int (4 : Int32)), (.double d1), (.double d2), (.double d3), (.double d4)] ∧ Z.Warmed39 U.vm ∧ U.heap = h0) (fun _ _ _ _ _ => True) (fun _ U o U' => ∃ v L, o = .returned v ∧ Q2_4 Z d1 d2 d3 d4 h0 n0 v U'.heap L ∧ FrameEnd U o U' L (room_of_2_4).cells (room_of_2_4).slots) := by
  refine MetFree.of_bodySF (plainFor_of_name pn_2) hisR ?_
  intro p e s m args below meth c s₁ Bd hml0 hP hK
  obtain ⟨rfl, hZ, hh⟩ := hP
  have hx := Bd.exec
  have hby := Bd.bytes
  have hml : c.maxLocals = 10 := hml0
  have hown : s.vm.findClass "com/example/oceanus/oceanus/analysis/LinearIsConstantPinLaw" = some m.cls := findClass_of_methodNamed Bd.named
  have hnm := (name_of_methodNamed Bd.named Bd.method).1
  have X0 : Stand p l e (room_of_2_4) s m #[(.int (4 : Int32)), (.double d1), (.double d2), (.double d3), (.double d4)] below meth c s₁ [] 0 0 := Stand.of_body Bd
  have e0 : s₁.heap = h0 := by rw [← hh, Bd.state]; rfl
  have N0 := Fr.nil n0
  have G0 := gd X0 hx hby
  have pre0 : ∀ t, Steps p.tables e below (s₁.setTop (mkF m 0 #[iv (4 : Int32), dv d1, .second, dv d2, .second, dv d3, .second, dv d4, .second, .unset] [])) t → Steps p.tables e below (s₁.setTop (entryFrame m #[(.int (4 : Int32)), (.double d1), (.double d2), (.double d3), (.double d4)] 10)) t := fun t k => castTop (ef2_4 m d1 d2 d3 d4) k
  obtain ⟨T1, h1, k1, X1, e1, E1, A1, st1⟩ := newP X0 hx hZ (wd hw 7 rfl) e0 (g := (mkF m 1 #[iv (4 : Int32), dv d1, .second, dv d2, .second, dv d3, .second, dv d4, .second, .unset] [(.int (4 : Int32))])) rfl (hb hby d2_1) rfl (by decide) (cap := 4) (by decide) (by decide) (by decide) (by decide)
  have G1 := gd X1 hx hby
  obtain ⟨b1, g1⟩ : ∃ z, z = h0.size := ⟨_, rfl⟩
  rw [← g1] at A1 st1
  have g_b1 : n0 ≤ b1 := Nat.le_trans Z0 (Nat.le_of_eq g1.symm)
  have sz_b1 : h0.size ≤ b1 := Nat.le_trans (Keep.refl h0 []).1 (Nat.le_of_eq g1.symm)
  have Z1 := Nat.le_trans Z0 E1.1
  have K1 : Keep h0 h1 [] := (Keep.refl h0 []).ext E1
  have V_b1 : Arv Z h1 b1 k1 .double (4 : Int32) [(.double (0 : UInt64)), (.double (0 : UInt64)), (.double (0 : UInt64)), (.double (0 : UInt64))] (.double (0 : UInt64)) := (Arv.new A1 (by decide)).pad (pad_rep [] (.double (0 : UInt64)) 4)
  obtain ⟨T2, h2, X2, e2, W2, Vs2, st2⟩ := own_stD X1 hx hby hZ e1 V_b1 (j := (0 : Int32)) (v := d1) d2_13 ⟨by decide, by decide⟩ 0 rfl (Nat.le_of_ble_eq_true rfl) #[iv (4 : Int32), dv d1, .second, dv d2, .second, dv d3, .second, dv d4, .second, rv b1] [] 14 rfl
  have G2 := gd X2 hx hby
  have N2 := Fr.snoc X2 N0 g_b1
  have Z2 := Nat.le_trans Z1 (Keep.of_wr W2).1
  have K2 : Keep h0 h2 [] := K1.wr W2 (Or.inr sz_b1)
  have V2 : Arv Z h2 b1 k1 .double (4 : Int32) [(.double d1), (.double (0 : UInt64)), (.double (0 : UInt64)), (.double (0 : UInt64))] (.double (0 : UInt64)) := Vs2
  obtain ⟨T6, h6, X6, e6, W6, Vs6, st6⟩ := own_stD X2 hx hby hZ e2 V2 (j := (1 : Int32)) (v := d2) d2_23 ⟨by decide, by decide⟩ 1 rfl (Nat.le_of_ble_eq_true rfl) #[iv (4 : Int32), dv d1, .second, dv d2, .second, dv d3, .second, dv d4, .second, rv b1] [] 24 rfl
  have G6 := gd X6 hx hby
  have N6 := Fr.snoc X6 N2 g_b1
  have Z6 := Nat.le_trans Z2 (Keep.of_wr W6).1
  have K6 : Keep h0 h6 [] := K2.wr W6 (Or.inr sz_b1)
  have V6 : Arv Z h6 b1 k1 .double (4 : Int32) [(.double d1), (.double d2), (.double (0 : UInt64)), (.double (0 : UInt64))] (.double (0 : UInt64)) := Vs6
  obtain ⟨T10, h10, X10, e10, W10, Vs10, st10⟩ := own_stD X6 hx hby hZ e6 V6 (j := (2 : Int32)) (v := d3) d2_34 ⟨by decide, by decide⟩ 2 rfl (Nat.le_of_ble_eq_true rfl) #[iv (4 : Int32), dv d1, .second, dv d2, .second, dv d3, .second, dv d4, .second, rv b1] [] 35 rfl
  have G10 := gd X10 hx hby
  have N10 := Fr.snoc X10 N6 g_b1
  have Z10 := Nat.le_trans Z6 (Keep.of_wr W10).1
  have K10 : Keep h0 h10 [] := K6.wr W10 (Or.inr sz_b1)
  have V10 : Arv Z h10 b1 k1 .double (4 : Int32) [(.double d1), (.double d2), (.double d3), (.double (0 : UInt64))] (.double (0 : UInt64)) := Vs10
  obtain ⟨T14, h14, X14, e14, W14, Vs14, st14⟩ := own_stD X10 hx hby hZ e10 V10 (j := (3 : Int32)) (v := d4) d2_45 ⟨by decide, by decide⟩ 3 rfl (Nat.le_of_ble_eq_true rfl) #[iv (4 : Int32), dv d1, .second, dv d2, .second, dv d3, .second, dv d4, .second, rv b1] [] 46 rfl
  have G14 := gd X14 hx hby
  have N14 := Fr.snoc X14 N10 g_b1
  have Z14 := Nat.le_trans Z10 (Keep.of_wr W14).1
  have K14 : Keep h0 h14 [] := K10.wr W14 (Or.inr sz_b1)
  have V14 : Arv Z h14 b1 k1 .double (4 : Int32) [(.double d1), (.double d2), (.double d3), (.double d4)] (.double (0 : UInt64)) := Vs14
  obtain ⟨fs, hr, hrun, hended, hW, hsame⟩ := X14.leave (v := some (.ref b1)) (fun h => by rw [Bd.returns] at h; cases h)
  refine ⟨_, _, pre0 _ ?_, hrun, hended, _, _, rfl, ?_, ⟨_, rfl⟩, hW, hsame.mono (by decide) (by decide)⟩
  · show Steps p.tables e below (s₁.setTop (mkF m 0 #[iv (4 : Int32), dv d1, .second, dv d2, .second, dv d3, .second, dv d4, .second, .unset] [])) _
    refine miloadN 1 G0 d2_0 rfl rfl ?_
    refine st1 _ ?_
    show Steps p.tables e below (T1.setTop (mkF m 3 #[iv (4 : Int32), dv d1, .second, dv d2, .second, dv d3, .second, dv d4, .second, .unset] [(.ref b1)])) _
    refine mastore 5 G1 d2_3 rfl #[iv (4 : Int32), dv d1, .second, dv d2, .second, dv d3, .second, dv d4, .second, rv b1] rfl rfl ?_
    refine miloadN 6 G1 d2_5 rfl rfl ?_
    refine mifNo 9 G1 d2_6 ((if0 _ _).trans (tlt (by decide : (0 : Int32) < (4 : Int32))).2.2.2) rfl ?_
    refine maload 11 G1 d2_9 rfl rfl rfl ?_
    refine miconst 12 G1 d2_11 (v := (0 : Int32)) rfl rfl ?_
    refine mdloadN 13 G1 d2_12 rfl rfl ?_
    refine st2 _ ?_
    refine miloadN 15 G2 d2_14 rfl rfl ?_
    refine miconst 16 G2 d2_15 (v := (1 : Int32)) rfl rfl ?_
    refine micmpNo 19 G2 d2_16 (tlt (by decide : (1 : Int32) < (4 : Int32))).2.2.2 rfl ?_
    refine maload 21 G2 d2_19 rfl rfl rfl ?_
    refine miconst 22 G2 d2_21 (v := (1 : Int32)) rfl rfl ?_
    refine mdloadN 23 G2 d2_22 rfl rfl ?_
    refine st6 _ ?_
    refine miloadN 25 G6 d2_24 rfl rfl ?_
    refine miconst 26 G6 d2_25 (v := (2 : Int32)) rfl rfl ?_
    refine micmpNo 29 G6 d2_26 (tlt (by decide : (2 : Int32) < (4 : Int32))).2.2.2 rfl ?_
    refine maload 31 G6 d2_29 rfl rfl rfl ?_
    refine miconst 32 G6 d2_31 (v := (2 : Int32)) rfl rfl ?_
    refine mdload 34 G6 d2_32 rfl rfl ?_
    refine st10 _ ?_
    refine miloadN 36 G10 d2_35 rfl rfl ?_
    refine miconst 37 G10 d2_36 (v := (3 : Int32)) rfl rfl ?_
    refine micmpNo 40 G10 d2_37 (tlt (by decide : (3 : Int32) < (4 : Int32))).2.2.2 rfl ?_
    refine maload 42 G10 d2_40 rfl rfl rfl ?_
    refine miconst 43 G10 d2_42 (v := (3 : Int32)) rfl rfl ?_
    refine mdload 45 G10 d2_43 rfl rfl ?_
    refine st14 _ ?_
    refine maload 48 G14 d2_46 rfl rfl rfl ?_
    exact retOut X14 hx Bd.returns rfl (Or.inr (Or.inr (Or.inr (Or.inr ⟨rfl, rfl, rfl⟩)))) (hb hby d2_48) hr
  · show Q2_4 Z d1 d2 d3 d4 h0 n0 _ T14.heap _
    rw [e14]
    exact ⟨b1, k1, rfl, g_b1, sz_b1, N14, K14, V14⟩
theorem ef6_4 (m : MethodId) (o0 : Addr) : entryFrame m #[(.ref o0)] 3 = mkF m 0 #[rv o0, .unset, .unset] [] := by first | (simp [entryFrame, mkF, argsToLocals, Value.category]; done) | rfl
abbrev room_of_6_4 : Room := { frames := 0, cells := 0, slots := 0, locals := 0 }
def rv6_4 (a0 : UInt64) (a1 : UInt64) (a2 : UInt64) (c0 : UInt64) (c1 : UInt64) (c2 : UInt64) : Int32 := (if (if (cmpValue (FP.dcmp a0 (0 : UInt64)) .l) = (0 : Int32) then (if (cmpValue (FP.dcmp c0 (0 : UInt64)) .l) = (0 : Int32) then (1 : Int32) else (0 : Int32)) else (0 : Int32)) = (0 : Int32) then (if (cmpValue (FP.dcmp a0 (0 : UInt64)) .l) = (0 : Int32) then (if (cmpValue (FP.dcmp c0 (0 : UInt64)) .l) = (0 : Int32) then (1 : Int32) else (0 : Int32)) else (0 : Int32)) else (if (if (cmpValue (FP.dcmp a1 (0 : UInt64)) .l) = (0 : Int32) then (if (cmpValue (FP.dcmp c1 (0 : UInt64)) .l) = (0 : Int32) then (1 : Int32) else (0 : Int32)) else (0 : Int32)) = (0 : Int32) then (if (cmpValue (FP.dcmp a1 (0 : UInt64)) .l) = (0 : Int32) then (if (cmpValue (FP.dcmp c1 (0 : UInt64)) .l) = (0 : Int32) then (1 : Int32) else (0 : Int32)) else (0 : Int32)) else (if (cmpValue (FP.dcmp a2 (0 : UInt64)) .l) = (0 : Int32) then (if (cmpValue (FP.dcmp c2 (0 : UInt64)) .l) = (0 : Int32) then (1 : Int32) else (0 : Int32)) else (0 : Int32))))
def Q6_4 (Z : State) (o0 : Addr) (w1 : Addr) (w2 : Addr) (k1 : ClassId) (a0 : UInt64) (a1 : UInt64) (a2 : UInt64) (a3 : UInt64) (k2 : ClassId) (c0 : UInt64) (c1 : UInt64) (c2 : UInt64) (c3 : UInt64) (h0 : Heap) (n0 : Nat) (v : Option Value) (h : Heap) (L : List Loc) : Prop := v = some (.int (rv6_4 a0 a1 a2 c0 c1 c2)) ∧ L = [] ∧ h = h0
set_option maxRecDepth 65536 in
set_option maxHeartbeats 40000000 in
theorem rm6_4 (l : Launch) (Z : State) (a0 : Array Value) (hw : ∀ d ∈ tables_1, d.before a0 Z = true) (ws : List Jvm.Cond) (o0 : Addr) {w1 : Addr} {w2 : Addr} {k1 : ClassId} {a0 : UInt64} {a1 : UInt64} {a2 : UInt64} {a3 : UInt64} {k2 : ClassId} {c0 : UInt64} {c1 : UInt64} {c2 : UInt64} {c3 : UInt64} (h0 : Heap) (n0 : Nat) (Z0 : n0 ≤ h0.size) (F_lows_o0 : Fld Z h0 o0 "com/example/oceanus/oceanus/analysis/RoundingSpanArithmetic$Linear" "lows" "[D" (.ref w1)) (F_highs_o0 : Fld Z h0 o0 "com/example/oceanus/oceanus/analysis/RoundingSpanArithmetic$Linear" "highs" "[D" (.ref w2)) (V_w1 : Arv Z h0 w1 k1 .double (4 : Int32) [(.double a0), (.double a1), (.double a2), (.double a3)] (.double (0 : UInt64))) (V_w2 : Arv Z h0 w2 k2 .double (4 : Int32) [(.double c0), (.double c1), (.double c2), (.double c3)] (.double (0 : UInt64))) :
    MetFree l (⟨"com/example/oceanus/oceanus/analysis/RoundingSpanArithmetic$Linear", "isConstant", "()Z"⟩ : MethodName) (head1 (Jvm.Cond.code (⟨"com/example/oceanus/oceanus/analysis/RoundingSpanArithmetic$Linear", "isConstant", "()Z"⟩ : MethodName) prog_23_method_6_code 3 (some .boolean) :: ws) (room_of_6_4)) (fun a U => a = #[(.ref o0)] ∧ Z.Warmed39 U.vm ∧ U.heap = h0) (fun _ _ _ _ _ => True) (fun _ U o U' => ∃ v L, o = .returned v ∧ Q6_4 Z o0 w1 w2 k1 a0 a1 a2 a3 k2 c0 c1 c2 c3 h0 n0 v U'.heap L ∧ FrameEnd U o U' L (room_of_6_4).cells (room_of_6_4).slots) := by
  refine MetFree.of_bodySF (plainFor_of_name pn_6) hisR ?_
  intro p e s m args below meth c s₁ Bd hml0 hP hK
  obtain ⟨rfl, hZ, hh⟩ := hP
  have hx := Bd.exec
  have hby := Bd.bytes
  have hml : c.maxLocals = 3 := hml0
  have hown : s.vm.findClass "com/example/oceanus/oceanus/analysis/RoundingSpanArithmetic$Linear" = some m.cls := findClass_of_methodNamed Bd.named
  have hnm := (name_of_methodNamed Bd.named Bd.method).1
  have X0 : Stand p l e (room_of_6_4) s m #[(.ref o0)] below meth c s₁ [] 0 0 := Stand.of_body Bd
  have e0 : s₁.heap = h0 := by rw [← hh, Bd.state]; rfl
  have N0 := Fr.nil n0
  have G0 := gd X0 hx hby
  have pre0 : ∀ t, Steps p.tables e below (s₁.setTop (mkF m 0 #[rv o0, .unset, .unset] [])) t → Steps p.tables e below (s₁.setTop (entryFrame m #[(.ref o0)] 3)) t := fun t k => castTop (ef6_4 m o0) k
  obtain ⟨T1, X1, e1, st1⟩ := getF X0 hx hZ hown (host := "") (Or.inl (wd hw 22 rfl)) Via.refl e0 F_lows_o0 (g := (mkF m 10 #[rv o0, iv (1 : Int32), iv (0 : Int32)] [(.ref o0), (.int (0 : Int32))])) rfl rfl (hb hby d6_10)
  have G1 := gd X1 hx hby
  obtain ⟨T2, X2, e2, st2⟩ := getF X1 hx hZ hown (host := "") (Or.inl (wd hw 22 rfl)) Via.refl e1 F_lows_o0 (g := (mkF m 20 #[rv o0, iv (1 : Int32), iv (0 : Int32)] [(.ref o0)])) rfl rfl (hb hby d6_20)
  have G2 := gd X2 hx hby
  obtain ⟨T4, X4, e4, st4⟩ : ∃ T' : State, Stand p l e (room_of_6_4) s m #[(.ref o0)] below meth c T' [] 0 0 ∧ T'.heap = h0 ∧ ∀ target, Steps p.tables e below (T'.setTop (mkF m 4 #[rv o0, iv (if (cmpValue (FP.dcmp a0 (0 : UInt64)) .l) = (0 : Int32) then (if (cmpValue (FP.dcmp c0 (0 : UInt64)) .l) = (0 : Int32) then (1 : Int32) else (0 : Int32)) else (0 : Int32)), iv (1 : Int32)] [])) target → Steps p.tables e below (T2.setTop (mkF m 27 #[rv o0, iv (1 : Int32), iv (0 : Int32)] [(.int (cmpValue (FP.dcmp a0 (0 : UInt64)) .l))])) target := by
    by_cases hc27_3 : (cmpValue (FP.dcmp a0 (0 : UInt64)) .l) = (0 : Int32)
    · obtain ⟨T5, X5, e5, st5⟩ := getF X2 hx hZ hown (host := "") (Or.inl (wd hw 24 rfl)) Via.refl e2 F_highs_o0 (g := (mkF m 31 #[rv o0, iv (1 : Int32), iv (0 : Int32)] [(.ref o0)])) rfl rfl (hb hby d6_31)
      have G5 := gd X5 hx hby
      by_cases hc38_6 : (cmpValue (FP.dcmp c0 (0 : UInt64)) .l) = (0 : Int32)
      · refine ⟨T5, X5, e5, fun target kt => ?_⟩
        refine mifNo 30 G2 d6_27 ((if0 _ _).trans (teq hc27_3).2) rfl ?_
        refine maloadN 31 G2 d6_30 rfl rfl rfl ?_
        refine st5 _ ?_
        show Steps p.tables e below (T5.setTop (mkF m 34 #[rv o0, iv (1 : Int32), iv (0 : Int32)] [(.ref w2)])) _
        refine miloadN 35 G5 d6_34 rfl rfl ?_
        refine mdaload 36 X5 hx hby hZ e5 V_w2 (v := c0) d6_35 ⟨by decide, by decide⟩ rfl rfl ?_
        refine mdconst0 37 G5 d6_36 (v := (0 : UInt64)) rfl rfl ?_
        refine mdcmp 38 G5 d6_37 rfl ?_
        refine mifNo 41 G5 d6_38 ((if0 _ _).trans (teq hc38_6).2) rfl ?_
        refine miconst 42 G5 d6_41 (v := (1 : Int32)) rfl rfl ?_
        refine mgoto 46 G5 d6_42 (by decide) rfl ?_
        refine mistoreN 47 G5 d6_46 #[rv o0, iv (1 : Int32), iv (0 : Int32)] rfl rfl ?_
        refine miinc 50 G5 d6_47 rfl #[rv o0, iv (1 : Int32), iv (1 : Int32)] rfl rfl ?_
        refine mgoto 4 G5 d6_50 (by decide) rfl ?_
        exact castTop (g' := (mkF m 4 #[rv o0, iv (if (cmpValue (FP.dcmp a0 (0 : UInt64)) .l) = (0 : Int32) then (if (cmpValue (FP.dcmp c0 (0 : UInt64)) .l) = (0 : Int32) then (1 : Int32) else (0 : Int32)) else (0 : Int32)), iv (1 : Int32)] [])) (by simp only [if_pos hc27_3, if_pos hc38_6]) kt
      · refine ⟨T5, X5, e5, fun target kt => ?_⟩
        refine mifNo 30 G2 d6_27 ((if0 _ _).trans (teq hc27_3).2) rfl ?_
        refine maloadN 31 G2 d6_30 rfl rfl rfl ?_
        refine st5 _ ?_
        show Steps p.tables e below (T5.setTop (mkF m 34 #[rv o0, iv (1 : Int32), iv (0 : Int32)] [(.ref w2)])) _
        refine miloadN 35 G5 d6_34 rfl rfl ?_
        refine mdaload 36 X5 hx hby hZ e5 V_w2 (v := c0) d6_35 ⟨by decide, by decide⟩ rfl rfl ?_
        refine mdconst0 37 G5 d6_36 (v := (0 : UInt64)) rfl rfl ?_
        refine mdcmp 38 G5 d6_37 rfl ?_
        refine mifYes 45 G5 d6_38 ((if0 _ _).trans (feq hc38_6).2) (by decide) rfl ?_
        refine miconst 46 G5 d6_45 (v := (0 : Int32)) rfl rfl ?_
        refine mistoreN 47 G5 d6_46 #[rv o0, iv (0 : Int32), iv (0 : Int32)] rfl rfl ?_
        refine miinc 50 G5 d6_47 rfl #[rv o0, iv (0 : Int32), iv (1 : Int32)] rfl rfl ?_
        refine mgoto 4 G5 d6_50 (by decide) rfl ?_
        exact castTop (g' := (mkF m 4 #[rv o0, iv (if (cmpValue (FP.dcmp a0 (0 : UInt64)) .l) = (0 : Int32) then (if (cmpValue (FP.dcmp c0 (0 : UInt64)) .l) = (0 : Int32) then (1 : Int32) else (0 : Int32)) else (0 : Int32)), iv (1 : Int32)] [])) (by simp only [if_pos hc27_3, if_neg hc38_6]) kt
    · refine ⟨T2, X2, e2, fun target kt => ?_⟩
      refine mifYes 45 G2 d6_27 ((if0 _ _).trans (feq hc27_3).2) (by decide) rfl ?_
      refine miconst 46 G2 d6_45 (v := (0 : Int32)) rfl rfl ?_
      refine mistoreN 47 G2 d6_46 #[rv o0, iv (0 : Int32), iv (0 : Int32)] rfl rfl ?_
      refine miinc 50 G2 d6_47 rfl #[rv o0, iv (0 : Int32), iv (1 : Int32)] rfl rfl ?_
      refine mgoto 4 G2 d6_50 (by decide) rfl ?_
      exact castTop (g' := (mkF m 4 #[rv o0, iv (if (cmpValue (FP.dcmp a0 (0 : UInt64)) .l) = (0 : Int32) then (if (cmpValue (FP.dcmp c0 (0 : UInt64)) .l) = (0 : Int32) then (1 : Int32) else (0 : Int32)) else (0 : Int32)), iv (1 : Int32)] [])) (by simp only [if_neg hc27_3]) kt
  have G4 := gd X4 hx hby
  obtain ⟨T8, X8, e8, st8⟩ : ∃ T' : State, Stand p l e (room_of_6_4) s m #[(.ref o0)] below meth c T' [] 0 0 ∧ T'.heap = h0 ∧ ∀ target, Steps p.tables e below (T'.setTop (mkF m 53 #[rv o0, iv (if (if (cmpValue (FP.dcmp a0 (0 : UInt64)) .l) = (0 : Int32) then (if (cmpValue (FP.dcmp c0 (0 : UInt64)) .l) = (0 : Int32) then (1 : Int32) else (0 : Int32)) else (0 : Int32)) = (0 : Int32) then (if (cmpValue (FP.dcmp a0 (0 : UInt64)) .l) = (0 : Int32) then (if (cmpValue (FP.dcmp c0 (0 : UInt64)) .l) = (0 : Int32) then (1 : Int32) else (0 : Int32)) else (0 : Int32)) else (if (if (cmpValue (FP.dcmp a1 (0 : UInt64)) .l) = (0 : Int32) then (if (cmpValue (FP.dcmp c1 (0 : UInt64)) .l) = (0 : Int32) then (1 : Int32) else (0 : Int32)) else (0 : Int32)) = (0 : Int32) then (if (cmpValue (FP.dcmp a1 (0 : UInt64)) .l) = (0 : Int32) then (if (cmpValue (FP.dcmp c1 (0 : UInt64)) .l) = (0 : Int32) then (1 : Int32) else (0 : Int32)) else (0 : Int32)) else (if (cmpValue (FP.dcmp a2 (0 : UInt64)) .l) = (0 : Int32) then (if (cmpValue (FP.dcmp c2 (0 : UInt64)) .l) = (0 : Int32) then (1 : Int32) else (0 : Int32)) else (0 : Int32)))), iv (if (if (cmpValue (FP.dcmp a0 (0 : UInt64)) .l) = (0 : Int32) then (if (cmpValue (FP.dcmp c0 (0 : UInt64)) .l) = (0 : Int32) then (1 : Int32) else (0 : Int32)) else (0 : Int32)) = (0 : Int32) then (1 : Int32) else (if (if (cmpValue (FP.dcmp a1 (0 : UInt64)) .l) = (0 : Int32) then (if (cmpValue (FP.dcmp c1 (0 : UInt64)) .l) = (0 : Int32) then (1 : Int32) else (0 : Int32)) else (0 : Int32)) = (0 : Int32) then (2 : Int32) else (3 : Int32)))] [])) target → Steps p.tables e below (T4.setTop (mkF m 5 #[rv o0, iv (if (cmpValue (FP.dcmp a0 (0 : UInt64)) .l) = (0 : Int32) then (if (cmpValue (FP.dcmp c0 (0 : UInt64)) .l) = (0 : Int32) then (1 : Int32) else (0 : Int32)) else (0 : Int32)), iv (1 : Int32)] [(.int (if (cmpValue (FP.dcmp a0 (0 : UInt64)) .l) = (0 : Int32) then (if (cmpValue (FP.dcmp c0 (0 : UInt64)) .l) = (0 : Int32) then (1 : Int32) else (0 : Int32)) else (0 : Int32)))])) target := by
    by_cases hc5_7 : (if (cmpValue (FP.dcmp a0 (0 : UInt64)) .l) = (0 : Int32) then (if (cmpValue (FP.dcmp c0 (0 : UInt64)) .l) = (0 : Int32) then (1 : Int32) else (0 : Int32)) else (0 : Int32)) = (0 : Int32)
    · refine ⟨T4, X4, e4, fun target kt => ?_⟩
      refine mifYes 53 G4 d6_5 ((if0 _ _).trans (teq hc5_7).1) (by decide) rfl ?_
      exact castTop (g' := (mkF m 53 #[rv o0, iv (if (if (cmpValue (FP.dcmp a0 (0 : UInt64)) .l) = (0 : Int32) then (if (cmpValue (FP.dcmp c0 (0 : UInt64)) .l) = (0 : Int32) then (1 : Int32) else (0 : Int32)) else (0 : Int32)) = (0 : Int32) then (if (cmpValue (FP.dcmp a0 (0 : UInt64)) .l) = (0 : Int32) then (if (cmpValue (FP.dcmp c0 (0 : UInt64)) .l) = (0 : Int32) then (1 : Int32) else (0 : Int32)) else (0 : Int32)) else (if (if (cmpValue (FP.dcmp a1 (0 : UInt64)) .l) = (0 : Int32) then (if (cmpValue (FP.dcmp c1 (0 : UInt64)) .l) = (0 : Int32) then (1 : Int32) else (0 : Int32)) else (0 : Int32)) = (0 : Int32) then (if (cmpValue (FP.dcmp a1 (0 : UInt64)) .l) = (0 : Int32) then (if (cmpValue (FP.dcmp c1 (0 : UInt64)) .l) = (0 : Int32) then (1 : Int32) else (0 : Int32)) else (0 : Int32)) else (if (cmpValue (FP.dcmp a2 (0 : UInt64)) .l) = (0 : Int32) then (if (cmpValue (FP.dcmp c2 (0 : UInt64)) .l) = (0 : Int32) then (1 : Int32) else (0 : Int32)) else (0 : Int32)))), iv (if (if (cmpValue (FP.dcmp a0 (0 : UInt64)) .l) = (0 : Int32) then (if (cmpValue (FP.dcmp c0 (0 : UInt64)) .l) = (0 : Int32) then (1 : Int32) else (0 : Int32)) else (0 : Int32)) = (0 : Int32) then (1 : Int32) else (if (if (cmpValue (FP.dcmp a1 (0 : UInt64)) .l) = (0 : Int32) then (if (cmpValue (FP.dcmp c1 (0 : UInt64)) .l) = (0 : Int32) then (1 : Int32) else (0 : Int32)) else (0 : Int32)) = (0 : Int32) then (2 : Int32) else (3 : Int32)))] [])) (by simp only [if_pos hc5_7]) kt
    · obtain ⟨T9, X9, e9, st9⟩ := getF X4 hx hZ hown (host := "") (Or.inl (wd hw 22 rfl)) Via.refl e4 F_lows_o0 (g := (mkF m 10 #[rv o0, iv (if (cmpValue (FP.dcmp a0 (0 : UInt64)) .l) = (0 : Int32) then (if (cmpValue (FP.dcmp c0 (0 : UInt64)) .l) = (0 : Int32) then (1 : Int32) else (0 : Int32)) else (0 : Int32)), iv (1 : Int32)] [(.ref o0), (.int (1 : Int32))])) rfl rfl (hb hby d6_10)
      have G9 := gd X9 hx hby
      obtain ⟨T10, X10, e10, st10⟩ := getF X9 hx hZ hown (host := "") (Or.inl (wd hw 22 rfl)) Via.refl e9 F_lows_o0 (g := (mkF m 20 #[rv o0, iv (if (cmpValue (FP.dcmp a0 (0 : UInt64)) .l) = (0 : Int32) then (if (cmpValue (FP.dcmp c0 (0 : UInt64)) .l) = (0 : Int32) then (1 : Int32) else (0 : Int32)) else (0 : Int32)), iv (1 : Int32)] [(.ref o0)])) rfl rfl (hb hby d6_20)
      have G10 := gd X10 hx hby
      obtain ⟨T12, X12, e12, st12⟩ : ∃ T' : State, Stand p l e (room_of_6_4) s m #[(.ref o0)] below meth c T' [] 0 0 ∧ T'.heap = h0 ∧ ∀ target, Steps p.tables e below (T'.setTop (mkF m 4 #[rv o0, iv (if (cmpValue (FP.dcmp a1 (0 : UInt64)) .l) = (0 : Int32) then (if (cmpValue (FP.dcmp c1 (0 : UInt64)) .l) = (0 : Int32) then (1 : Int32) else (0 : Int32)) else (0 : Int32)), iv (2 : Int32)] [])) target → Steps p.tables e below (T10.setTop (mkF m 27 #[rv o0, iv (if (cmpValue (FP.dcmp a0 (0 : UInt64)) .l) = (0 : Int32) then (if (cmpValue (FP.dcmp c0 (0 : UInt64)) .l) = (0 : Int32) then (1 : Int32) else (0 : Int32)) else (0 : Int32)), iv (1 : Int32)] [(.int (cmpValue (FP.dcmp a1 (0 : UInt64)) .l))])) target := by
        by_cases hc27_11 : (cmpValue (FP.dcmp a1 (0 : UInt64)) .l) = (0 : Int32)
        · obtain ⟨T13, X13, e13, st13⟩ := getF X10 hx hZ hown (host := "") (Or.inl (wd hw 24 rfl)) Via.refl e10 F_highs_o0 (g := (mkF m 31 #[rv o0, iv (if (cmpValue (FP.dcmp a0 (0 : UInt64)) .l) = (0 : Int32) then (if (cmpValue (FP.dcmp c0 (0 : UInt64)) .l) = (0 : Int32) then (1 : Int32) else (0 : Int32)) else (0 : Int32)), iv (1 : Int32)] [(.ref o0)])) rfl rfl (hb hby d6_31)
          have G13 := gd X13 hx hby
          by_cases hc38_14 : (cmpValue (FP.dcmp c1 (0 : UInt64)) .l) = (0 : Int32)
          · refine ⟨T13, X13, e13, fun target kt => ?_⟩
            refine mifNo 30 G10 d6_27 ((if0 _ _).trans (teq hc27_11).2) rfl ?_
            refine maloadN 31 G10 d6_30 rfl rfl rfl ?_
            refine st13 _ ?_
            show Steps p.tables e below (T13.setTop (mkF m 34 #[rv o0, iv (if (cmpValue (FP.dcmp a0 (0 : UInt64)) .l) = (0 : Int32) then (if (cmpValue (FP.dcmp c0 (0 : UInt64)) .l) = (0 : Int32) then (1 : Int32) else (0 : Int32)) else (0 : Int32)), iv (1 : Int32)] [(.ref w2)])) _
            refine miloadN 35 G13 d6_34 rfl rfl ?_
            refine mdaload 36 X13 hx hby hZ e13 V_w2 (v := c1) d6_35 ⟨by decide, by decide⟩ rfl rfl ?_
            refine mdconst0 37 G13 d6_36 (v := (0 : UInt64)) rfl rfl ?_
            refine mdcmp 38 G13 d6_37 rfl ?_
            refine mifNo 41 G13 d6_38 ((if0 _ _).trans (teq hc38_14).2) rfl ?_
            refine miconst 42 G13 d6_41 (v := (1 : Int32)) rfl rfl ?_
            refine mgoto 46 G13 d6_42 (by decide) rfl ?_
            refine mistoreN 47 G13 d6_46 #[rv o0, iv (1 : Int32), iv (1 : Int32)] rfl rfl ?_
            refine miinc 50 G13 d6_47 rfl #[rv o0, iv (1 : Int32), iv (2 : Int32)] rfl rfl ?_
            refine mgoto 4 G13 d6_50 (by decide) rfl ?_
            exact castTop (g' := (mkF m 4 #[rv o0, iv (if (cmpValue (FP.dcmp a1 (0 : UInt64)) .l) = (0 : Int32) then (if (cmpValue (FP.dcmp c1 (0 : UInt64)) .l) = (0 : Int32) then (1 : Int32) else (0 : Int32)) else (0 : Int32)), iv (2 : Int32)] [])) (by simp only [if_pos hc27_11, if_pos hc38_14]) kt
          · refine ⟨T13, X13, e13, fun target kt => ?_⟩
            refine mifNo 30 G10 d6_27 ((if0 _ _).trans (teq hc27_11).2) rfl ?_
            refine maloadN 31 G10 d6_30 rfl rfl rfl ?_
            refine st13 _ ?_
            show Steps p.tables e below (T13.setTop (mkF m 34 #[rv o0, iv (if (cmpValue (FP.dcmp a0 (0 : UInt64)) .l) = (0 : Int32) then (if (cmpValue (FP.dcmp c0 (0 : UInt64)) .l) = (0 : Int32) then (1 : Int32) else (0 : Int32)) else (0 : Int32)), iv (1 : Int32)] [(.ref w2)])) _
            refine miloadN 35 G13 d6_34 rfl rfl ?_
            refine mdaload 36 X13 hx hby hZ e13 V_w2 (v := c1) d6_35 ⟨by decide, by decide⟩ rfl rfl ?_
            refine mdconst0 37 G13 d6_36 (v := (0 : UInt64)) rfl rfl ?_
            refine mdcmp 38 G13 d6_37 rfl ?_
            refine mifYes 45 G13 d6_38 ((if0 _ _).trans (feq hc38_14).2) (by decide) rfl ?_
            refine miconst 46 G13 d6_45 (v := (0 : Int32)) rfl rfl ?_
            refine mistoreN 47 G13 d6_46 #[rv o0, iv (0 : Int32), iv (1 : Int32)] rfl rfl ?_
            refine miinc 50 G13 d6_47 rfl #[rv o0, iv (0 : Int32), iv (2 : Int32)] rfl rfl ?_
            refine mgoto 4 G13 d6_50 (by decide) rfl ?_
            exact castTop (g' := (mkF m 4 #[rv o0, iv (if (cmpValue (FP.dcmp a1 (0 : UInt64)) .l) = (0 : Int32) then (if (cmpValue (FP.dcmp c1 (0 : UInt64)) .l) = (0 : Int32) then (1 : Int32) else (0 : Int32)) else (0 : Int32)), iv (2 : Int32)] [])) (by simp only [if_pos hc27_11, if_neg hc38_14]) kt
        · refine ⟨T10, X10, e10, fun target kt => ?_⟩
          refine mifYes 45 G10 d6_27 ((if0 _ _).trans (feq hc27_11).2) (by decide) rfl ?_
          refine miconst 46 G10 d6_45 (v := (0 : Int32)) rfl rfl ?_
          refine mistoreN 47 G10 d6_46 #[rv o0, iv (0 : Int32), iv (1 : Int32)] rfl rfl ?_
          refine miinc 50 G10 d6_47 rfl #[rv o0, iv (0 : Int32), iv (2 : Int32)] rfl rfl ?_
          refine mgoto 4 G10 d6_50 (by decide) rfl ?_
          exact castTop (g' := (mkF m 4 #[rv o0, iv (if (cmpValue (FP.dcmp a1 (0 : UInt64)) .l) = (0 : Int32) then (if (cmpValue (FP.dcmp c1 (0 : UInt64)) .l) = (0 : Int32) then (1 : Int32) else (0 : Int32)) else (0 : Int32)), iv (2 : Int32)] [])) (by simp only [if_neg hc27_11]) kt
      have G12 := gd X12 hx hby
      by_cases hc5_15 : (if (cmpValue (FP.dcmp a1 (0 : UInt64)) .l) = (0 : Int32) then (if (cmpValue (FP.dcmp c1 (0 : UInt64)) .l) = (0 : Int32) then (1 : Int32) else (0 : Int32)) else (0 : Int32)) = (0 : Int32)
      · refine ⟨T12, X12, e12, fun target kt => ?_⟩
        refine mifNo 8 G4 d6_5 ((if0 _ _).trans (feq hc5_7).1) rfl ?_
        refine miloadN 9 G4 d6_8 rfl rfl ?_
        refine maloadN 10 G4 d6_9 rfl rfl rfl ?_
        refine st9 _ ?_
        show Steps p.tables e below (T9.setTop (mkF m 13 #[rv o0, iv (if (cmpValue (FP.dcmp a0 (0 : UInt64)) .l) = (0 : Int32) then (if (cmpValue (FP.dcmp c0 (0 : UInt64)) .l) = (0 : Int32) then (1 : Int32) else (0 : Int32)) else (0 : Int32)), iv (1 : Int32)] [(.ref w1), (.int (1 : Int32))])) _
        refine mlen 14 X9 hx hby hZ e9 V_w1 d6_13 rfl ?_
        refine miconst 15 G9 d6_14 (v := (1 : Int32)) rfl rfl ?_
        refine misub 16 G9 d6_15 (v := (3 : Int32)) rfl rfl ?_
        refine micmpNo 19 G9 d6_16 (tlt (by decide : (1 : Int32) < (3 : Int32))).2.1 rfl ?_
        refine maloadN 20 G9 d6_19 rfl rfl rfl ?_
        refine st10 _ ?_
        show Steps p.tables e below (T10.setTop (mkF m 23 #[rv o0, iv (if (cmpValue (FP.dcmp a0 (0 : UInt64)) .l) = (0 : Int32) then (if (cmpValue (FP.dcmp c0 (0 : UInt64)) .l) = (0 : Int32) then (1 : Int32) else (0 : Int32)) else (0 : Int32)), iv (1 : Int32)] [(.ref w1)])) _
        refine miloadN 24 G10 d6_23 rfl rfl ?_
        refine mdaload 25 X10 hx hby hZ e10 V_w1 (v := a1) d6_24 ⟨by decide, by decide⟩ rfl rfl ?_
        refine mdconst0 26 G10 d6_25 (v := (0 : UInt64)) rfl rfl ?_
        refine mdcmp 27 G10 d6_26 rfl ?_
        refine st12 _ ?_
        refine miloadN 5 G12 d6_4 rfl rfl ?_
        refine mifYes 53 G12 d6_5 ((if0 _ _).trans (teq hc5_15).1) (by decide) rfl ?_
        exact castTop (g' := (mkF m 53 #[rv o0, iv (if (if (cmpValue (FP.dcmp a0 (0 : UInt64)) .l) = (0 : Int32) then (if (cmpValue (FP.dcmp c0 (0 : UInt64)) .l) = (0 : Int32) then (1 : Int32) else (0 : Int32)) else (0 : Int32)) = (0 : Int32) then (if (cmpValue (FP.dcmp a0 (0 : UInt64)) .l) = (0 : Int32) then (if (cmpValue (FP.dcmp c0 (0 : UInt64)) .l) = (0 : Int32) then (1 : Int32) else (0 : Int32)) else (0 : Int32)) else (if (if (cmpValue (FP.dcmp a1 (0 : UInt64)) .l) = (0 : Int32) then (if (cmpValue (FP.dcmp c1 (0 : UInt64)) .l) = (0 : Int32) then (1 : Int32) else (0 : Int32)) else (0 : Int32)) = (0 : Int32) then (if (cmpValue (FP.dcmp a1 (0 : UInt64)) .l) = (0 : Int32) then (if (cmpValue (FP.dcmp c1 (0 : UInt64)) .l) = (0 : Int32) then (1 : Int32) else (0 : Int32)) else (0 : Int32)) else (if (cmpValue (FP.dcmp a2 (0 : UInt64)) .l) = (0 : Int32) then (if (cmpValue (FP.dcmp c2 (0 : UInt64)) .l) = (0 : Int32) then (1 : Int32) else (0 : Int32)) else (0 : Int32)))), iv (if (if (cmpValue (FP.dcmp a0 (0 : UInt64)) .l) = (0 : Int32) then (if (cmpValue (FP.dcmp c0 (0 : UInt64)) .l) = (0 : Int32) then (1 : Int32) else (0 : Int32)) else (0 : Int32)) = (0 : Int32) then (1 : Int32) else (if (if (cmpValue (FP.dcmp a1 (0 : UInt64)) .l) = (0 : Int32) then (if (cmpValue (FP.dcmp c1 (0 : UInt64)) .l) = (0 : Int32) then (1 : Int32) else (0 : Int32)) else (0 : Int32)) = (0 : Int32) then (2 : Int32) else (3 : Int32)))] [])) (by simp only [if_neg hc5_7, if_pos hc5_15]) kt
      · obtain ⟨T16, X16, e16, st16⟩ := getF X12 hx hZ hown (host := "") (Or.inl (wd hw 22 rfl)) Via.refl e12 F_lows_o0 (g := (mkF m 10 #[rv o0, iv (if (cmpValue (FP.dcmp a1 (0 : UInt64)) .l) = (0 : Int32) then (if (cmpValue (FP.dcmp c1 (0 : UInt64)) .l) = (0 : Int32) then (1 : Int32) else (0 : Int32)) else (0 : Int32)), iv (2 : Int32)] [(.ref o0), (.int (2 : Int32))])) rfl rfl (hb hby d6_10)
        have G16 := gd X16 hx hby
        obtain ⟨T17, X17, e17, st17⟩ := getF X16 hx hZ hown (host := "") (Or.inl (wd hw 22 rfl)) Via.refl e16 F_lows_o0 (g := (mkF m 20 #[rv o0, iv (if (cmpValue (FP.dcmp a1 (0 : UInt64)) .l) = (0 : Int32) then (if (cmpValue (FP.dcmp c1 (0 : UInt64)) .l) = (0 : Int32) then (1 : Int32) else (0 : Int32)) else (0 : Int32)), iv (2 : Int32)] [(.ref o0)])) rfl rfl (hb hby d6_20)
        have G17 := gd X17 hx hby
        obtain ⟨T19, X19, e19, st19⟩ : ∃ T' : State, Stand p l e (room_of_6_4) s m #[(.ref o0)] below meth c T' [] 0 0 ∧ T'.heap = h0 ∧ ∀ target, Steps p.tables e below (T'.setTop (mkF m 4 #[rv o0, iv (if (cmpValue (FP.dcmp a2 (0 : UInt64)) .l) = (0 : Int32) then (if (cmpValue (FP.dcmp c2 (0 : UInt64)) .l) = (0 : Int32) then (1 : Int32) else (0 : Int32)) else (0 : Int32)), iv (3 : Int32)] [])) target → Steps p.tables e below (T17.setTop (mkF m 27 #[rv o0, iv (if (cmpValue (FP.dcmp a1 (0 : UInt64)) .l) = (0 : Int32) then (if (cmpValue (FP.dcmp c1 (0 : UInt64)) .l) = (0 : Int32) then (1 : Int32) else (0 : Int32)) else (0 : Int32)), iv (2 : Int32)] [(.int (cmpValue (FP.dcmp a2 (0 : UInt64)) .l))])) target := by
          by_cases hc27_18 : (cmpValue (FP.dcmp a2 (0 : UInt64)) .l) = (0 : Int32)
          · obtain ⟨T20, X20, e20, st20⟩ := getF X17 hx hZ hown (host := "") (Or.inl (wd hw 24 rfl)) Via.refl e17 F_highs_o0 (g := (mkF m 31 #[rv o0, iv (if (cmpValue (FP.dcmp a1 (0 : UInt64)) .l) = (0 : Int32) then (if (cmpValue (FP.dcmp c1 (0 : UInt64)) .l) = (0 : Int32) then (1 : Int32) else (0 : Int32)) else (0 : Int32)), iv (2 : Int32)] [(.ref o0)])) rfl rfl (hb hby d6_31)
            have G20 := gd X20 hx hby
            by_cases hc38_21 : (cmpValue (FP.dcmp c2 (0 : UInt64)) .l) = (0 : Int32)
            · refine ⟨T20, X20, e20, fun target kt => ?_⟩
              refine mifNo 30 G17 d6_27 ((if0 _ _).trans (teq hc27_18).2) rfl ?_
              refine maloadN 31 G17 d6_30 rfl rfl rfl ?_
              refine st20 _ ?_
              show Steps p.tables e below (T20.setTop (mkF m 34 #[rv o0, iv (if (cmpValue (FP.dcmp a1 (0 : UInt64)) .l) = (0 : Int32) then (if (cmpValue (FP.dcmp c1 (0 : UInt64)) .l) = (0 : Int32) then (1 : Int32) else (0 : Int32)) else (0 : Int32)), iv (2 : Int32)] [(.ref w2)])) _
              refine miloadN 35 G20 d6_34 rfl rfl ?_
              refine mdaload 36 X20 hx hby hZ e20 V_w2 (v := c2) d6_35 ⟨by decide, by decide⟩ rfl rfl ?_
              refine mdconst0 37 G20 d6_36 (v := (0 : UInt64)) rfl rfl ?_
              refine mdcmp 38 G20 d6_37 rfl ?_
              refine mifNo 41 G20 d6_38 ((if0 _ _).trans (teq hc38_21).2) rfl ?_
              refine miconst 42 G20 d6_41 (v := (1 : Int32)) rfl rfl ?_
              refine mgoto 46 G20 d6_42 (by decide) rfl ?_
              refine mistoreN 47 G20 d6_46 #[rv o0, iv (1 : Int32), iv (2 : Int32)] rfl rfl ?_
              refine miinc 50 G20 d6_47 rfl #[rv o0, iv (1 : Int32), iv (3 : Int32)] rfl rfl ?_
              refine mgoto 4 G20 d6_50 (by decide) rfl ?_
              exact castTop (g' := (mkF m 4 #[rv o0, iv (if (cmpValue (FP.dcmp a2 (0 : UInt64)) .l) = (0 : Int32) then (if (cmpValue (FP.dcmp c2 (0 : UInt64)) .l) = (0 : Int32) then (1 : Int32) else (0 : Int32)) else (0 : Int32)), iv (3 : Int32)] [])) (by simp only [if_pos hc27_18, if_pos hc38_21]) kt
            · refine ⟨T20, X20, e20, fun target kt => ?_⟩
              refine mifNo 30 G17 d6_27 ((if0 _ _).trans (teq hc27_18).2) rfl ?_
              refine maloadN 31 G17 d6_30 rfl rfl rfl ?_
              refine st20 _ ?_
              show Steps p.tables e below (T20.setTop (mkF m 34 #[rv o0, iv (if (cmpValue (FP.dcmp a1 (0 : UInt64)) .l) = (0 : Int32) then (if (cmpValue (FP.dcmp c1 (0 : UInt64)) .l) = (0 : Int32) then (1 : Int32) else (0 : Int32)) else (0 : Int32)), iv (2 : Int32)] [(.ref w2)])) _
              refine miloadN 35 G20 d6_34 rfl rfl ?_
              refine mdaload 36 X20 hx hby hZ e20 V_w2 (v := c2) d6_35 ⟨by decide, by decide⟩ rfl rfl ?_
              refine mdconst0 37 G20 d6_36 (v := (0 : UInt64)) rfl rfl ?_
              refine mdcmp 38 G20 d6_37 rfl ?_
              refine mifYes 45 G20 d6_38 ((if0 _ _).trans (feq hc38_21).2) (by decide) rfl ?_
              refine miconst 46 G20 d6_45 (v := (0 : Int32)) rfl rfl ?_
              refine mistoreN 47 G20 d6_46 #[rv o0, iv (0 : Int32), iv (2 : Int32)] rfl rfl ?_
              refine miinc 50 G20 d6_47 rfl #[rv o0, iv (0 : Int32), iv (3 : Int32)] rfl rfl ?_
              refine mgoto 4 G20 d6_50 (by decide) rfl ?_
              exact castTop (g' := (mkF m 4 #[rv o0, iv (if (cmpValue (FP.dcmp a2 (0 : UInt64)) .l) = (0 : Int32) then (if (cmpValue (FP.dcmp c2 (0 : UInt64)) .l) = (0 : Int32) then (1 : Int32) else (0 : Int32)) else (0 : Int32)), iv (3 : Int32)] [])) (by simp only [if_pos hc27_18, if_neg hc38_21]) kt
          · refine ⟨T17, X17, e17, fun target kt => ?_⟩
            refine mifYes 45 G17 d6_27 ((if0 _ _).trans (feq hc27_18).2) (by decide) rfl ?_
            refine miconst 46 G17 d6_45 (v := (0 : Int32)) rfl rfl ?_
            refine mistoreN 47 G17 d6_46 #[rv o0, iv (0 : Int32), iv (2 : Int32)] rfl rfl ?_
            refine miinc 50 G17 d6_47 rfl #[rv o0, iv (0 : Int32), iv (3 : Int32)] rfl rfl ?_
            refine mgoto 4 G17 d6_50 (by decide) rfl ?_
            exact castTop (g' := (mkF m 4 #[rv o0, iv (if (cmpValue (FP.dcmp a2 (0 : UInt64)) .l) = (0 : Int32) then (if (cmpValue (FP.dcmp c2 (0 : UInt64)) .l) = (0 : Int32) then (1 : Int32) else (0 : Int32)) else (0 : Int32)), iv (3 : Int32)] [])) (by simp only [if_neg hc27_18]) kt
        have G19 := gd X19 hx hby
        by_cases hc5_22 : (if (cmpValue (FP.dcmp a2 (0 : UInt64)) .l) = (0 : Int32) then (if (cmpValue (FP.dcmp c2 (0 : UInt64)) .l) = (0 : Int32) then (1 : Int32) else (0 : Int32)) else (0 : Int32)) = (0 : Int32)
        · refine ⟨T19, X19, e19, fun target kt => ?_⟩
          refine mifNo 8 G4 d6_5 ((if0 _ _).trans (feq hc5_7).1) rfl ?_
          refine miloadN 9 G4 d6_8 rfl rfl ?_
          refine maloadN 10 G4 d6_9 rfl rfl rfl ?_
          refine st9 _ ?_
          show Steps p.tables e below (T9.setTop (mkF m 13 #[rv o0, iv (if (cmpValue (FP.dcmp a0 (0 : UInt64)) .l) = (0 : Int32) then (if (cmpValue (FP.dcmp c0 (0 : UInt64)) .l) = (0 : Int32) then (1 : Int32) else (0 : Int32)) else (0 : Int32)), iv (1 : Int32)] [(.ref w1), (.int (1 : Int32))])) _
          refine mlen 14 X9 hx hby hZ e9 V_w1 d6_13 rfl ?_
          refine miconst 15 G9 d6_14 (v := (1 : Int32)) rfl rfl ?_
          refine misub 16 G9 d6_15 (v := (3 : Int32)) rfl rfl ?_
          refine micmpNo 19 G9 d6_16 (tlt (by decide : (1 : Int32) < (3 : Int32))).2.1 rfl ?_
          refine maloadN 20 G9 d6_19 rfl rfl rfl ?_
          refine st10 _ ?_
          show Steps p.tables e below (T10.setTop (mkF m 23 #[rv o0, iv (if (cmpValue (FP.dcmp a0 (0 : UInt64)) .l) = (0 : Int32) then (if (cmpValue (FP.dcmp c0 (0 : UInt64)) .l) = (0 : Int32) then (1 : Int32) else (0 : Int32)) else (0 : Int32)), iv (1 : Int32)] [(.ref w1)])) _
          refine miloadN 24 G10 d6_23 rfl rfl ?_
          refine mdaload 25 X10 hx hby hZ e10 V_w1 (v := a1) d6_24 ⟨by decide, by decide⟩ rfl rfl ?_
          refine mdconst0 26 G10 d6_25 (v := (0 : UInt64)) rfl rfl ?_
          refine mdcmp 27 G10 d6_26 rfl ?_
          refine st12 _ ?_
          refine miloadN 5 G12 d6_4 rfl rfl ?_
          refine mifNo 8 G12 d6_5 ((if0 _ _).trans (feq hc5_15).1) rfl ?_
          refine miloadN 9 G12 d6_8 rfl rfl ?_
          refine maloadN 10 G12 d6_9 rfl rfl rfl ?_
          refine st16 _ ?_
          show Steps p.tables e below (T16.setTop (mkF m 13 #[rv o0, iv (if (cmpValue (FP.dcmp a1 (0 : UInt64)) .l) = (0 : Int32) then (if (cmpValue (FP.dcmp c1 (0 : UInt64)) .l) = (0 : Int32) then (1 : Int32) else (0 : Int32)) else (0 : Int32)), iv (2 : Int32)] [(.ref w1), (.int (2 : Int32))])) _
          refine mlen 14 X16 hx hby hZ e16 V_w1 d6_13 rfl ?_
          refine miconst 15 G16 d6_14 (v := (1 : Int32)) rfl rfl ?_
          refine misub 16 G16 d6_15 (v := (3 : Int32)) rfl rfl ?_
          refine micmpNo 19 G16 d6_16 (tlt (by decide : (2 : Int32) < (3 : Int32))).2.1 rfl ?_
          refine maloadN 20 G16 d6_19 rfl rfl rfl ?_
          refine st17 _ ?_
          show Steps p.tables e below (T17.setTop (mkF m 23 #[rv o0, iv (if (cmpValue (FP.dcmp a1 (0 : UInt64)) .l) = (0 : Int32) then (if (cmpValue (FP.dcmp c1 (0 : UInt64)) .l) = (0 : Int32) then (1 : Int32) else (0 : Int32)) else (0 : Int32)), iv (2 : Int32)] [(.ref w1)])) _
          refine miloadN 24 G17 d6_23 rfl rfl ?_
          refine mdaload 25 X17 hx hby hZ e17 V_w1 (v := a2) d6_24 ⟨by decide, by decide⟩ rfl rfl ?_
          refine mdconst0 26 G17 d6_25 (v := (0 : UInt64)) rfl rfl ?_
          refine mdcmp 27 G17 d6_26 rfl ?_
          refine st19 _ ?_
          refine miloadN 5 G19 d6_4 rfl rfl ?_
          refine mifYes 53 G19 d6_5 ((if0 _ _).trans (teq hc5_22).1) (by decide) rfl ?_
          exact castTop (g' := (mkF m 53 #[rv o0, iv (if (if (cmpValue (FP.dcmp a0 (0 : UInt64)) .l) = (0 : Int32) then (if (cmpValue (FP.dcmp c0 (0 : UInt64)) .l) = (0 : Int32) then (1 : Int32) else (0 : Int32)) else (0 : Int32)) = (0 : Int32) then (if (cmpValue (FP.dcmp a0 (0 : UInt64)) .l) = (0 : Int32) then (if (cmpValue (FP.dcmp c0 (0 : UInt64)) .l) = (0 : Int32) then (1 : Int32) else (0 : Int32)) else (0 : Int32)) else (if (if (cmpValue (FP.dcmp a1 (0 : UInt64)) .l) = (0 : Int32) then (if (cmpValue (FP.dcmp c1 (0 : UInt64)) .l) = (0 : Int32) then (1 : Int32) else (0 : Int32)) else (0 : Int32)) = (0 : Int32) then (if (cmpValue (FP.dcmp a1 (0 : UInt64)) .l) = (0 : Int32) then (if (cmpValue (FP.dcmp c1 (0 : UInt64)) .l) = (0 : Int32) then (1 : Int32) else (0 : Int32)) else (0 : Int32)) else (if (cmpValue (FP.dcmp a2 (0 : UInt64)) .l) = (0 : Int32) then (if (cmpValue (FP.dcmp c2 (0 : UInt64)) .l) = (0 : Int32) then (1 : Int32) else (0 : Int32)) else (0 : Int32)))), iv (if (if (cmpValue (FP.dcmp a0 (0 : UInt64)) .l) = (0 : Int32) then (if (cmpValue (FP.dcmp c0 (0 : UInt64)) .l) = (0 : Int32) then (1 : Int32) else (0 : Int32)) else (0 : Int32)) = (0 : Int32) then (1 : Int32) else (if (if (cmpValue (FP.dcmp a1 (0 : UInt64)) .l) = (0 : Int32) then (if (cmpValue (FP.dcmp c1 (0 : UInt64)) .l) = (0 : Int32) then (1 : Int32) else (0 : Int32)) else (0 : Int32)) = (0 : Int32) then (2 : Int32) else (3 : Int32)))] [])) (by simp only [if_neg hc5_7, if_neg hc5_15, if_pos hc5_22]) kt
        · obtain ⟨T23, X23, e23, st23⟩ := getF X19 hx hZ hown (host := "") (Or.inl (wd hw 22 rfl)) Via.refl e19 F_lows_o0 (g := (mkF m 10 #[rv o0, iv (if (cmpValue (FP.dcmp a2 (0 : UInt64)) .l) = (0 : Int32) then (if (cmpValue (FP.dcmp c2 (0 : UInt64)) .l) = (0 : Int32) then (1 : Int32) else (0 : Int32)) else (0 : Int32)), iv (3 : Int32)] [(.ref o0), (.int (3 : Int32))])) rfl rfl (hb hby d6_10)
          have G23 := gd X23 hx hby
          refine ⟨T23, X23, e23, fun target kt => ?_⟩
          refine mifNo 8 G4 d6_5 ((if0 _ _).trans (feq hc5_7).1) rfl ?_
          refine miloadN 9 G4 d6_8 rfl rfl ?_
          refine maloadN 10 G4 d6_9 rfl rfl rfl ?_
          refine st9 _ ?_
          show Steps p.tables e below (T9.setTop (mkF m 13 #[rv o0, iv (if (cmpValue (FP.dcmp a0 (0 : UInt64)) .l) = (0 : Int32) then (if (cmpValue (FP.dcmp c0 (0 : UInt64)) .l) = (0 : Int32) then (1 : Int32) else (0 : Int32)) else (0 : Int32)), iv (1 : Int32)] [(.ref w1), (.int (1 : Int32))])) _
          refine mlen 14 X9 hx hby hZ e9 V_w1 d6_13 rfl ?_
          refine miconst 15 G9 d6_14 (v := (1 : Int32)) rfl rfl ?_
          refine misub 16 G9 d6_15 (v := (3 : Int32)) rfl rfl ?_
          refine micmpNo 19 G9 d6_16 (tlt (by decide : (1 : Int32) < (3 : Int32))).2.1 rfl ?_
          refine maloadN 20 G9 d6_19 rfl rfl rfl ?_
          refine st10 _ ?_
          show Steps p.tables e below (T10.setTop (mkF m 23 #[rv o0, iv (if (cmpValue (FP.dcmp a0 (0 : UInt64)) .l) = (0 : Int32) then (if (cmpValue (FP.dcmp c0 (0 : UInt64)) .l) = (0 : Int32) then (1 : Int32) else (0 : Int32)) else (0 : Int32)), iv (1 : Int32)] [(.ref w1)])) _
          refine miloadN 24 G10 d6_23 rfl rfl ?_
          refine mdaload 25 X10 hx hby hZ e10 V_w1 (v := a1) d6_24 ⟨by decide, by decide⟩ rfl rfl ?_
          refine mdconst0 26 G10 d6_25 (v := (0 : UInt64)) rfl rfl ?_
          refine mdcmp 27 G10 d6_26 rfl ?_
          refine st12 _ ?_
          refine miloadN 5 G12 d6_4 rfl rfl ?_
          refine mifNo 8 G12 d6_5 ((if0 _ _).trans (feq hc5_15).1) rfl ?_
          refine miloadN 9 G12 d6_8 rfl rfl ?_
          refine maloadN 10 G12 d6_9 rfl rfl rfl ?_
          refine st16 _ ?_
          show Steps p.tables e below (T16.setTop (mkF m 13 #[rv o0, iv (if (cmpValue (FP.dcmp a1 (0 : UInt64)) .l) = (0 : Int32) then (if (cmpValue (FP.dcmp c1 (0 : UInt64)) .l) = (0 : Int32) then (1 : Int32) else (0 : Int32)) else (0 : Int32)), iv (2 : Int32)] [(.ref w1), (.int (2 : Int32))])) _
          refine mlen 14 X16 hx hby hZ e16 V_w1 d6_13 rfl ?_
          refine miconst 15 G16 d6_14 (v := (1 : Int32)) rfl rfl ?_
          refine misub 16 G16 d6_15 (v := (3 : Int32)) rfl rfl ?_
          refine micmpNo 19 G16 d6_16 (tlt (by decide : (2 : Int32) < (3 : Int32))).2.1 rfl ?_
          refine maloadN 20 G16 d6_19 rfl rfl rfl ?_
          refine st17 _ ?_
          show Steps p.tables e below (T17.setTop (mkF m 23 #[rv o0, iv (if (cmpValue (FP.dcmp a1 (0 : UInt64)) .l) = (0 : Int32) then (if (cmpValue (FP.dcmp c1 (0 : UInt64)) .l) = (0 : Int32) then (1 : Int32) else (0 : Int32)) else (0 : Int32)), iv (2 : Int32)] [(.ref w1)])) _
          refine miloadN 24 G17 d6_23 rfl rfl ?_
          refine mdaload 25 X17 hx hby hZ e17 V_w1 (v := a2) d6_24 ⟨by decide, by decide⟩ rfl rfl ?_
          refine mdconst0 26 G17 d6_25 (v := (0 : UInt64)) rfl rfl ?_
          refine mdcmp 27 G17 d6_26 rfl ?_
          refine st19 _ ?_
          refine miloadN 5 G19 d6_4 rfl rfl ?_
          refine mifNo 8 G19 d6_5 ((if0 _ _).trans (feq hc5_22).1) rfl ?_
          refine miloadN 9 G19 d6_8 rfl rfl ?_
          refine maloadN 10 G19 d6_9 rfl rfl rfl ?_
          refine st23 _ ?_
          show Steps p.tables e below (T23.setTop (mkF m 13 #[rv o0, iv (if (cmpValue (FP.dcmp a2 (0 : UInt64)) .l) = (0 : Int32) then (if (cmpValue (FP.dcmp c2 (0 : UInt64)) .l) = (0 : Int32) then (1 : Int32) else (0 : Int32)) else (0 : Int32)), iv (3 : Int32)] [(.ref w1), (.int (3 : Int32))])) _
          refine mlen 14 X23 hx hby hZ e23 V_w1 d6_13 rfl ?_
          refine miconst 15 G23 d6_14 (v := (1 : Int32)) rfl rfl ?_
          refine misub 16 G23 d6_15 (v := (3 : Int32)) rfl rfl ?_
          refine micmpYes 53 G23 d6_16 (flt (by decide : ¬ ((3 : Int32) < (3 : Int32)))).2.1 (by decide) rfl ?_
          exact castTop (g' := (mkF m 53 #[rv o0, iv (if (if (cmpValue (FP.dcmp a0 (0 : UInt64)) .l) = (0 : Int32) then (if (cmpValue (FP.dcmp c0 (0 : UInt64)) .l) = (0 : Int32) then (1 : Int32) else (0 : Int32)) else (0 : Int32)) = (0 : Int32) then (if (cmpValue (FP.dcmp a0 (0 : UInt64)) .l) = (0 : Int32) then (if (cmpValue (FP.dcmp c0 (0 : UInt64)) .l) = (0 : Int32) then (1 : Int32) else (0 : Int32)) else (0 : Int32)) else (if (if (cmpValue (FP.dcmp a1 (0 : UInt64)) .l) = (0 : Int32) then (if (cmpValue (FP.dcmp c1 (0 : UInt64)) .l) = (0 : Int32) then (1 : Int32) else (0 : Int32)) else (0 : Int32)) = (0 : Int32) then (if (cmpValue (FP.dcmp a1 (0 : UInt64)) .l) = (0 : Int32) then (if (cmpValue (FP.dcmp c1 (0 : UInt64)) .l) = (0 : Int32) then (1 : Int32) else (0 : Int32)) else (0 : Int32)) else (if (cmpValue (FP.dcmp a2 (0 : UInt64)) .l) = (0 : Int32) then (if (cmpValue (FP.dcmp c2 (0 : UInt64)) .l) = (0 : Int32) then (1 : Int32) else (0 : Int32)) else (0 : Int32)))), iv (if (if (cmpValue (FP.dcmp a0 (0 : UInt64)) .l) = (0 : Int32) then (if (cmpValue (FP.dcmp c0 (0 : UInt64)) .l) = (0 : Int32) then (1 : Int32) else (0 : Int32)) else (0 : Int32)) = (0 : Int32) then (1 : Int32) else (if (if (cmpValue (FP.dcmp a1 (0 : UInt64)) .l) = (0 : Int32) then (if (cmpValue (FP.dcmp c1 (0 : UInt64)) .l) = (0 : Int32) then (1 : Int32) else (0 : Int32)) else (0 : Int32)) = (0 : Int32) then (2 : Int32) else (3 : Int32)))] [])) (by simp only [if_neg hc5_7, if_neg hc5_15, if_neg hc5_22]) kt
  have G8 := gd X8 hx hby
  obtain ⟨fs, hr, hrun, hended, hW, hsame⟩ := X8.leave (v := some (.int (if (if (cmpValue (FP.dcmp a0 (0 : UInt64)) .l) = (0 : Int32) then (if (cmpValue (FP.dcmp c0 (0 : UInt64)) .l) = (0 : Int32) then (1 : Int32) else (0 : Int32)) else (0 : Int32)) = (0 : Int32) then (if (cmpValue (FP.dcmp a0 (0 : UInt64)) .l) = (0 : Int32) then (if (cmpValue (FP.dcmp c0 (0 : UInt64)) .l) = (0 : Int32) then (1 : Int32) else (0 : Int32)) else (0 : Int32)) else (if (if (cmpValue (FP.dcmp a1 (0 : UInt64)) .l) = (0 : Int32) then (if (cmpValue (FP.dcmp c1 (0 : UInt64)) .l) = (0 : Int32) then (1 : Int32) else (0 : Int32)) else (0 : Int32)) = (0 : Int32) then (if (cmpValue (FP.dcmp a1 (0 : UInt64)) .l) = (0 : Int32) then (if (cmpValue (FP.dcmp c1 (0 : UInt64)) .l) = (0 : Int32) then (1 : Int32) else (0 : Int32)) else (0 : Int32)) else (if (cmpValue (FP.dcmp a2 (0 : UInt64)) .l) = (0 : Int32) then (if (cmpValue (FP.dcmp c2 (0 : UInt64)) .l) = (0 : Int32) then (1 : Int32) else (0 : Int32)) else (0 : Int32)))))) (fun h => by rw [Bd.returns] at h; cases h)
  refine ⟨_, _, pre0 _ ?_, hrun, hended, _, _, rfl, ?_, ⟨_, rfl⟩, hW, hsame.mono (by decide) (by decide)⟩
  · show Steps p.tables e below (s₁.setTop (mkF m 0 #[rv o0, .unset, .unset] [])) _
    refine miconst 1 G0 d6_0 (v := (1 : Int32)) rfl rfl ?_
    refine mistoreN 2 G0 d6_1 #[rv o0, iv (1 : Int32), .unset] rfl rfl ?_
    refine miconst 3 G0 d6_2 (v := (0 : Int32)) rfl rfl ?_
    refine mistoreN 4 G0 d6_3 #[rv o0, iv (1 : Int32), iv (0 : Int32)] rfl rfl ?_
    refine miloadN 5 G0 d6_4 rfl rfl ?_
    refine mifNo 8 G0 d6_5 ((if0 _ _).trans (feq (by decide : ¬ ((1 : Int32) = (0 : Int32)))).1) rfl ?_
    refine miloadN 9 G0 d6_8 rfl rfl ?_
    refine maloadN 10 G0 d6_9 rfl rfl rfl ?_
    refine st1 _ ?_
    show Steps p.tables e below (T1.setTop (mkF m 13 #[rv o0, iv (1 : Int32), iv (0 : Int32)] [(.ref w1), (.int (0 : Int32))])) _
    refine mlen 14 X1 hx hby hZ e1 V_w1 d6_13 rfl ?_
    refine miconst 15 G1 d6_14 (v := (1 : Int32)) rfl rfl ?_
    refine misub 16 G1 d6_15 (v := (3 : Int32)) rfl rfl ?_
    refine micmpNo 19 G1 d6_16 (tlt (by decide : (0 : Int32) < (3 : Int32))).2.1 rfl ?_
    refine maloadN 20 G1 d6_19 rfl rfl rfl ?_
    refine st2 _ ?_
    show Steps p.tables e below (T2.setTop (mkF m 23 #[rv o0, iv (1 : Int32), iv (0 : Int32)] [(.ref w1)])) _
    refine miloadN 24 G2 d6_23 rfl rfl ?_
    refine mdaload 25 X2 hx hby hZ e2 V_w1 (v := a0) d6_24 ⟨by decide, by decide⟩ rfl rfl ?_
    refine mdconst0 26 G2 d6_25 (v := (0 : UInt64)) rfl rfl ?_
    refine mdcmp 27 G2 d6_26 rfl ?_
    refine st4 _ ?_
    refine miloadN 5 G4 d6_4 rfl rfl ?_
    refine st8 _ ?_
    refine miloadN 54 G8 d6_53 rfl rfl ?_
    exact retOut X8 hx Bd.returns (by first | rfl | ((repeat' split) <;> rfl)) (Or.inl ⟨rfl, by simp, _, rfl⟩) (hb hby d6_54) hr
  · show Q6_4 Z o0 w1 w2 k1 a0 a1 a2 a3 k2 c0 c1 c2 c3 h0 n0 _ T8.heap _
    rw [e8]
    exact ⟨by simp only [rv6_4], rfl, rfl⟩
theorem ef0_4 (m : MethodId) (p0 : Int32) (p1 : Int32) (p2 : Int32) (p3 : Int32) (p4 : Int32) : entryFrame m #[(.int p0), (.int p1), (.int p2), (.int p3), (.int p4)] maxLocals = mkF m 0 #[iv p0, iv p1, iv p2, iv p3, iv p4, .unset, .unset, .unset, .unset, .unset, .unset, .unset, .unset, .unset, .unset, .unset, .unset, .unset, .unset, .unset, .unset, .unset, .unset, .unset, .unset, .unset] [] := by first | (simp [entryFrame, mkF, argsToLocals, Value.category, maxLocals]; done) | rfl
theorem own_rm0_4_end (p0 : Int32) (p1 : Int32) (p2 : Int32) (p3 : Int32) (p4 : Int32) (x2 : UInt64) (hx2 : x2 = (rv1 p0 (0 : Int32) p3)) (x4 : UInt64) (hx4 : x4 = (rv1 p0 (1 : Int32) (p3 + (1 : Int32)))) (x6 : UInt64) (hx6 : x6 = (rv1 p0 (2 : Int32) (p3 + (2 : Int32)))) (x8 : UInt64) (hx8 : x8 = (rv1 p0 (3 : Int32) (p3 + (3 : Int32)))) (x10 : UInt64) (hx10 : x10 = (rv1 p1 (0 : Int32) p4)) (x12 : UInt64) (hx12 : x12 = (rv1 p1 (1 : Int32) (p4 - (1 : Int32)))) (x14 : UInt64) (hx14 : x14 = (rv1 p1 (2 : Int32) (p4 - (2 : Int32)))) (x16 : UInt64) (hx16 : x16 = (rv1 p1 (3 : Int32) (p4 - (3 : Int32)))) (x40 : Int32) (hx40 : x40 = (rv6_4 x2 x4 x6 x10 x12 x14)) (x43 : Int32) (hx43 : x43 = (if (cmpValue (FP.dcmp x2 (0 : UInt64)) .l) = (0 : Int32) then (if (cmpValue (FP.dcmp x10 (0 : UInt64)) .l) = (0 : Int32) then (if (cmpValue (FP.dcmp x4 (0 : UInt64)) .l) = (0 : Int32) then (if (cmpValue (FP.dcmp x12 (0 : UInt64)) .l) = (0 : Int32) then (if (cmpValue (FP.dcmp x6 (0 : UInt64)) .l) = (0 : Int32) then (if (cmpValue (FP.dcmp x14 (0 : UInt64)) .l) = (0 : Int32) then (1 : Int32) else (0 : Int32)) else (0 : Int32)) else (0 : Int32)) else (0 : Int32)) else (0 : Int32)) else (0 : Int32))) (x51 : Int32) (hx51 : x51 = (if x40 = x43 then (1 : Int32) else (0 : Int32))) (hpin6 : (((p2 &&& (7 : Int32)) % (5 : Int32)) = (4 : Int32))) : x51 = 1 := by subst_vars; simp only [rv6_4]; (repeat' split) <;> simp_all
set_option maxRecDepth 65536 in
set_option maxHeartbeats 40000000 in
theorem rm0_4 (l : Launch) (Z : State) (a0 : Array Value) (hw : ∀ d ∈ tables_1, d.before a0 Z = true) (ws : List Jvm.Cond) (p0 : Int32) (p1 : Int32) (p2 : Int32) (p3 : Int32) (p4 : Int32)  (h0 : Heap) (n0 : Nat) (Z0 : n0 ≤ h0.size) (hpin6 : ((p2 &&& (7 : Int32)) % (5 : Int32)) = (4 : Int32)) :
    MetFree l x (head1 (Jvm.Cond.code x code maxLocals ret :: ws) room_1) (fun a U => a = #[(.int p0), (.int p1), (.int p2), (.int p3), (.int p4)] ∧ Z.Warmed39 U.vm ∧ U.heap = h0) (fun _ _ _ _ _ => True) (fun _ U o U' => ∃ v L, o = .returned v ∧ Q0 Z p0 p1 p2 p3 p4 h0 n0 v U'.heap L ∧ FrameEnd U o U' L room_1.cells room_1.slots) := by
  refine MetFree.of_bodySF (plainFor_of_name pn_0) hisR ?_
  intro p e s m args below meth c s₁ Bd hml0 hP hK
  obtain ⟨rfl, hZ, hh⟩ := hP
  have hx := Bd.exec
  have hby := Bd.bytes
  have hml : c.maxLocals = 26 := hml0
  have hown : s.vm.findClass "com/example/oceanus/oceanus/analysis/LinearIsConstantPinLaw" = some m.cls := findClass_of_methodNamed Bd.named
  have hnm := (name_of_methodNamed Bd.named Bd.method).1
  have X0 : Stand p l e room_1 s m #[(.int p0), (.int p1), (.int p2), (.int p3), (.int p4)] below meth c s₁ [] 0 0 := Stand.of_body Bd
  have e0 : s₁.heap = h0 := by rw [← hh, Bd.state]; rfl
  have N0 := Fr.nil n0
  have G0 := gd X0 hx hby
  have pre0 : ∀ t, Steps p.tables e below (s₁.setTop (mkF m 0 #[iv p0, iv p1, iv p2, iv p3, iv p4, .unset, .unset, .unset, .unset, .unset, .unset, .unset, .unset, .unset, .unset, .unset, .unset, .unset, .unset, .unset, .unset, .unset, .unset, .unset, .unset, .unset] [])) t → Steps p.tables e below (s₁.setTop (entryFrame m #[(.int p0), (.int p1), (.int p2), (.int p3), (.int p4)] maxLocals)) t := fun t k => castTop (ef0_4 m p0 p1 p2 p3 p4) k
  obtain ⟨_, _, ⟨T1, L1, k1, n1⟩, -, X1, ⟨Lc1, hQ1, l1, y1, z1⟩, st1⟩ := Jvm.LawKit.callS X0 hx (y := (⟨"com/example/oceanus/oceanus/analysis/LinearIsConstantPinLaw", "entry", "(III)D"⟩ : MethodName)) hown (mvT hZ (wd hw 0 rfl)) (mvT hZ (wd hw 1 rfl)) (mvT hZ (wd hw 2 rfl)) (mvT hZ (wd hw 3 rfl)) (by decide) (backOf (W := 0) (rm1 l Z a0 hw [] p0 (0 : Int32) p3 h0 n0 Z0 ) hZ (wd hw 3 rfl) (wd hw 2 rfl) (by decide) (by decide)) (g := (mkF m 11 #[iv p0, iv p1, iv p2, iv p3, iv p4, iv (4 : Int32), .unset, .unset, .unset, .unset, .unset, .unset, .unset, .unset, .unset, .unset, .unset, .unset, .unset, .unset, .unset, .unset, .unset, .unset, .unset, .unset] [(.int p3), (.int (0 : Int32)), (.int p0)])) rfl (by rw [hml]; rfl) (argsL := [(.int p0), (.int (0 : Int32)), (.int p3)]) (rest := []) (lenOf pd_1 rfl) rfl (by show 2 * 0 + _ ≤ _; exact Nat.le_of_eq rfl) (hb hby at_11) (fun _ _ => ⟨rfl, e0, (by decide : 0 + 0 ≤ _), (by decide : 0 + 0 ≤ _)⟩)
  dsimp only [Pt.U, Pt.locs, Pt.cells, Pt.slots] at X1 l1 y1 z1 st1 hQ1
  replace l1 : ([] ++ Lc1) = L1 := l1.symm
  subst l1 y1 z1
  obtain ⟨rfl, rfl, e1⟩ := hQ1
  simp only [List.append_nil, Nat.add_zero] at X1
  have G1 := gd X1 hx hby
  obtain ⟨x2, hx2⟩ : ∃ z : UInt64, z = (rv1 p0 (0 : Int32) p3) := ⟨_, rfl⟩
  obtain ⟨_, _, ⟨T3, L3, k3, n3⟩, -, X3, ⟨Lc3, hQ3, l3, y3, z3⟩, st3⟩ := Jvm.LawKit.callS X1 hx (y := (⟨"com/example/oceanus/oceanus/analysis/LinearIsConstantPinLaw", "entry", "(III)D"⟩ : MethodName)) hown (mvT hZ (wd hw 0 rfl)) (mvT hZ (wd hw 1 rfl)) (mvT hZ (wd hw 2 rfl)) (mvT hZ (wd hw 3 rfl)) (by decide) (backOf (W := 0) (rm1 l Z a0 hw [] p0 (1 : Int32) ((p3 + (1 : Int32))) h0 n0 Z0 ) hZ (wd hw 3 rfl) (wd hw 2 rfl) (by decide) (by decide)) (g := (mkF m 21 #[iv p0, iv p1, iv p2, iv p3, iv p4, iv (4 : Int32), dv x2, .second, .unset, .unset, .unset, .unset, .unset, .unset, .unset, .unset, .unset, .unset, .unset, .unset, .unset, .unset, .unset, .unset, .unset, .unset] [(.int (p3 + (1 : Int32))), (.int (1 : Int32)), (.int p0)])) rfl (by rw [hml]; rfl) (argsL := [(.int p0), (.int (1 : Int32)), (.int (p3 + (1 : Int32)))]) (rest := []) (lenOf pd_1 rfl) rfl (by show 2 * 0 + _ ≤ _; exact Nat.le_of_eq rfl) (hb hby at_21) (fun _ _ => ⟨rfl, e1, (by decide : 0 + 0 ≤ _), (by decide : 0 + 0 ≤ _)⟩)
  dsimp only [Pt.U, Pt.locs, Pt.cells, Pt.slots] at X3 l3 y3 z3 st3 hQ3
  replace l3 : ([] ++ Lc3) = L3 := l3.symm
  subst l3 y3 z3
  obtain ⟨rfl, rfl, e3⟩ := hQ3
  simp only [List.append_nil, Nat.add_zero] at X3
  have G3 := gd X3 hx hby
  obtain ⟨x4, hx4⟩ : ∃ z : UInt64, z = (rv1 p0 (1 : Int32) (p3 + (1 : Int32))) := ⟨_, rfl⟩
  obtain ⟨_, _, ⟨T5, L5, k5, n5⟩, -, X5, ⟨Lc5, hQ5, l5, y5, z5⟩, st5⟩ := Jvm.LawKit.callS X3 hx (y := (⟨"com/example/oceanus/oceanus/analysis/LinearIsConstantPinLaw", "entry", "(III)D"⟩ : MethodName)) hown (mvT hZ (wd hw 0 rfl)) (mvT hZ (wd hw 1 rfl)) (mvT hZ (wd hw 2 rfl)) (mvT hZ (wd hw 3 rfl)) (by decide) (backOf (W := 0) (rm1 l Z a0 hw [] p0 (2 : Int32) ((p3 + (2 : Int32))) h0 n0 Z0 ) hZ (wd hw 3 rfl) (wd hw 2 rfl) (by decide) (by decide)) (g := (mkF m 31 #[iv p0, iv p1, iv p2, iv p3, iv p4, iv (4 : Int32), dv x2, .second, dv x4, .second, .unset, .unset, .unset, .unset, .unset, .unset, .unset, .unset, .unset, .unset, .unset, .unset, .unset, .unset, .unset, .unset] [(.int (p3 + (2 : Int32))), (.int (2 : Int32)), (.int p0)])) rfl (by rw [hml]; rfl) (argsL := [(.int p0), (.int (2 : Int32)), (.int (p3 + (2 : Int32)))]) (rest := []) (lenOf pd_1 rfl) rfl (by show 2 * 0 + _ ≤ _; exact Nat.le_of_eq rfl) (hb hby at_31) (fun _ _ => ⟨rfl, e3, (by decide : 0 + 0 ≤ _), (by decide : 0 + 0 ≤ _)⟩)
  dsimp only [Pt.U, Pt.locs, Pt.cells, Pt.slots] at X5 l5 y5 z5 st5 hQ5
  replace l5 : ([] ++ Lc5) = L5 := l5.symm
  subst l5 y5 z5
  obtain ⟨rfl, rfl, e5⟩ := hQ5
  simp only [List.append_nil, Nat.add_zero] at X5
  have G5 := gd X5 hx hby
  obtain ⟨x6, hx6⟩ : ∃ z : UInt64, z = (rv1 p0 (2 : Int32) (p3 + (2 : Int32))) := ⟨_, rfl⟩
  obtain ⟨_, _, ⟨T7, L7, k7, n7⟩, -, X7, ⟨Lc7, hQ7, l7, y7, z7⟩, st7⟩ := Jvm.LawKit.callS X5 hx (y := (⟨"com/example/oceanus/oceanus/analysis/LinearIsConstantPinLaw", "entry", "(III)D"⟩ : MethodName)) hown (mvT hZ (wd hw 0 rfl)) (mvT hZ (wd hw 1 rfl)) (mvT hZ (wd hw 2 rfl)) (mvT hZ (wd hw 3 rfl)) (by decide) (backOf (W := 0) (rm1 l Z a0 hw [] p0 (3 : Int32) ((p3 + (3 : Int32))) h0 n0 Z0 ) hZ (wd hw 3 rfl) (wd hw 2 rfl) (by decide) (by decide)) (g := (mkF m 41 #[iv p0, iv p1, iv p2, iv p3, iv p4, iv (4 : Int32), dv x2, .second, dv x4, .second, dv x6, .second, .unset, .unset, .unset, .unset, .unset, .unset, .unset, .unset, .unset, .unset, .unset, .unset, .unset, .unset] [(.int (p3 + (3 : Int32))), (.int (3 : Int32)), (.int p0)])) rfl (by rw [hml]; rfl) (argsL := [(.int p0), (.int (3 : Int32)), (.int (p3 + (3 : Int32)))]) (rest := []) (lenOf pd_1 rfl) rfl (by show 2 * 0 + _ ≤ _; exact Nat.le_of_eq rfl) (hb hby at_41) (fun _ _ => ⟨rfl, e5, (by decide : 0 + 0 ≤ _), (by decide : 0 + 0 ≤ _)⟩)
  dsimp only [Pt.U, Pt.locs, Pt.cells, Pt.slots] at X7 l7 y7 z7 st7 hQ7
  replace l7 : ([] ++ Lc7) = L7 := l7.symm
  subst l7 y7 z7
  obtain ⟨rfl, rfl, e7⟩ := hQ7
  simp only [List.append_nil, Nat.add_zero] at X7
  have G7 := gd X7 hx hby
  obtain ⟨x8, hx8⟩ : ∃ z : UInt64, z = (rv1 p0 (3 : Int32) (p3 + (3 : Int32))) := ⟨_, rfl⟩
  obtain ⟨_, _, ⟨T9, L9, k9, n9⟩, -, X9, ⟨Lc9, hQ9, l9, y9, z9⟩, st9⟩ := Jvm.LawKit.callS X7 hx (y := (⟨"com/example/oceanus/oceanus/analysis/LinearIsConstantPinLaw", "entry", "(III)D"⟩ : MethodName)) hown (mvT hZ (wd hw 0 rfl)) (mvT hZ (wd hw 1 rfl)) (mvT hZ (wd hw 2 rfl)) (mvT hZ (wd hw 3 rfl)) (by decide) (backOf (W := 0) (rm1 l Z a0 hw [] p1 (0 : Int32) p4 h0 n0 Z0 ) hZ (wd hw 3 rfl) (wd hw 2 rfl) (by decide) (by decide)) (g := (mkF m 50 #[iv p0, iv p1, iv p2, iv p3, iv p4, iv (4 : Int32), dv x2, .second, dv x4, .second, dv x6, .second, dv x8, .second, .unset, .unset, .unset, .unset, .unset, .unset, .unset, .unset, .unset, .unset, .unset, .unset] [(.int p4), (.int (0 : Int32)), (.int p1)])) rfl (by rw [hml]; rfl) (argsL := [(.int p1), (.int (0 : Int32)), (.int p4)]) (rest := []) (lenOf pd_1 rfl) rfl (by show 2 * 0 + _ ≤ _; exact Nat.le_of_eq rfl) (hb hby at_50) (fun _ _ => ⟨rfl, e7, (by decide : 0 + 0 ≤ _), (by decide : 0 + 0 ≤ _)⟩)
  dsimp only [Pt.U, Pt.locs, Pt.cells, Pt.slots] at X9 l9 y9 z9 st9 hQ9
  replace l9 : ([] ++ Lc9) = L9 := l9.symm
  subst l9 y9 z9
  obtain ⟨rfl, rfl, e9⟩ := hQ9
  simp only [List.append_nil, Nat.add_zero] at X9
  have G9 := gd X9 hx hby
  obtain ⟨x10, hx10⟩ : ∃ z : UInt64, z = (rv1 p1 (0 : Int32) p4) := ⟨_, rfl⟩
  obtain ⟨_, _, ⟨T11, L11, k11, n11⟩, -, X11, ⟨Lc11, hQ11, l11, y11, z11⟩, st11⟩ := Jvm.LawKit.callS X9 hx (y := (⟨"com/example/oceanus/oceanus/analysis/LinearIsConstantPinLaw", "entry", "(III)D"⟩ : MethodName)) hown (mvT hZ (wd hw 0 rfl)) (mvT hZ (wd hw 1 rfl)) (mvT hZ (wd hw 2 rfl)) (mvT hZ (wd hw 3 rfl)) (by decide) (backOf (W := 0) (rm1 l Z a0 hw [] p1 (1 : Int32) ((p4 - (1 : Int32))) h0 n0 Z0 ) hZ (wd hw 3 rfl) (wd hw 2 rfl) (by decide) (by decide)) (g := (mkF m 61 #[iv p0, iv p1, iv p2, iv p3, iv p4, iv (4 : Int32), dv x2, .second, dv x4, .second, dv x6, .second, dv x8, .second, dv x10, .second, .unset, .unset, .unset, .unset, .unset, .unset, .unset, .unset, .unset, .unset] [(.int (p4 - (1 : Int32))), (.int (1 : Int32)), (.int p1)])) rfl (by rw [hml]; rfl) (argsL := [(.int p1), (.int (1 : Int32)), (.int (p4 - (1 : Int32)))]) (rest := []) (lenOf pd_1 rfl) rfl (by show 2 * 0 + _ ≤ _; exact Nat.le_of_eq rfl) (hb hby at_61) (fun _ _ => ⟨rfl, e9, (by decide : 0 + 0 ≤ _), (by decide : 0 + 0 ≤ _)⟩)
  dsimp only [Pt.U, Pt.locs, Pt.cells, Pt.slots] at X11 l11 y11 z11 st11 hQ11
  replace l11 : ([] ++ Lc11) = L11 := l11.symm
  subst l11 y11 z11
  obtain ⟨rfl, rfl, e11⟩ := hQ11
  simp only [List.append_nil, Nat.add_zero] at X11
  have G11 := gd X11 hx hby
  obtain ⟨x12, hx12⟩ : ∃ z : UInt64, z = (rv1 p1 (1 : Int32) (p4 - (1 : Int32))) := ⟨_, rfl⟩
  obtain ⟨_, _, ⟨T13, L13, k13, n13⟩, -, X13, ⟨Lc13, hQ13, l13, y13, z13⟩, st13⟩ := Jvm.LawKit.callS X11 hx (y := (⟨"com/example/oceanus/oceanus/analysis/LinearIsConstantPinLaw", "entry", "(III)D"⟩ : MethodName)) hown (mvT hZ (wd hw 0 rfl)) (mvT hZ (wd hw 1 rfl)) (mvT hZ (wd hw 2 rfl)) (mvT hZ (wd hw 3 rfl)) (by decide) (backOf (W := 0) (rm1 l Z a0 hw [] p1 (2 : Int32) ((p4 - (2 : Int32))) h0 n0 Z0 ) hZ (wd hw 3 rfl) (wd hw 2 rfl) (by decide) (by decide)) (g := (mkF m 72 #[iv p0, iv p1, iv p2, iv p3, iv p4, iv (4 : Int32), dv x2, .second, dv x4, .second, dv x6, .second, dv x8, .second, dv x10, .second, dv x12, .second, .unset, .unset, .unset, .unset, .unset, .unset, .unset, .unset] [(.int (p4 - (2 : Int32))), (.int (2 : Int32)), (.int p1)])) rfl (by rw [hml]; rfl) (argsL := [(.int p1), (.int (2 : Int32)), (.int (p4 - (2 : Int32)))]) (rest := []) (lenOf pd_1 rfl) rfl (by show 2 * 0 + _ ≤ _; exact Nat.le_of_eq rfl) (hb hby at_72) (fun _ _ => ⟨rfl, e11, (by decide : 0 + 0 ≤ _), (by decide : 0 + 0 ≤ _)⟩)
  dsimp only [Pt.U, Pt.locs, Pt.cells, Pt.slots] at X13 l13 y13 z13 st13 hQ13
  replace l13 : ([] ++ Lc13) = L13 := l13.symm
  subst l13 y13 z13
  obtain ⟨rfl, rfl, e13⟩ := hQ13
  simp only [List.append_nil, Nat.add_zero] at X13
  have G13 := gd X13 hx hby
  obtain ⟨x14, hx14⟩ : ∃ z : UInt64, z = (rv1 p1 (2 : Int32) (p4 - (2 : Int32))) := ⟨_, rfl⟩
  obtain ⟨_, _, ⟨T15, L15, k15, n15⟩, -, X15, ⟨Lc15, hQ15, l15, y15, z15⟩, st15⟩ := Jvm.LawKit.callS X13 hx (y := (⟨"com/example/oceanus/oceanus/analysis/LinearIsConstantPinLaw", "entry", "(III)D"⟩ : MethodName)) hown (mvT hZ (wd hw 0 rfl)) (mvT hZ (wd hw 1 rfl)) (mvT hZ (wd hw 2 rfl)) (mvT hZ (wd hw 3 rfl)) (by decide) (backOf (W := 0) (rm1 l Z a0 hw [] p1 (3 : Int32) ((p4 - (3 : Int32))) h0 n0 Z0 ) hZ (wd hw 3 rfl) (wd hw 2 rfl) (by decide) (by decide)) (g := (mkF m 83 #[iv p0, iv p1, iv p2, iv p3, iv p4, iv (4 : Int32), dv x2, .second, dv x4, .second, dv x6, .second, dv x8, .second, dv x10, .second, dv x12, .second, dv x14, .second, .unset, .unset, .unset, .unset, .unset, .unset] [(.int (p4 - (3 : Int32))), (.int (3 : Int32)), (.int p1)])) rfl (by rw [hml]; rfl) (argsL := [(.int p1), (.int (3 : Int32)), (.int (p4 - (3 : Int32)))]) (rest := []) (lenOf pd_1 rfl) rfl (by show 2 * 0 + _ ≤ _; exact Nat.le_of_eq rfl) (hb hby at_83) (fun _ _ => ⟨rfl, e13, (by decide : 0 + 0 ≤ _), (by decide : 0 + 0 ≤ _)⟩)
  dsimp only [Pt.U, Pt.locs, Pt.cells, Pt.slots] at X15 l15 y15 z15 st15 hQ15
  replace l15 : ([] ++ Lc15) = L15 := l15.symm
  subst l15 y15 z15
  obtain ⟨rfl, rfl, e15⟩ := hQ15
  simp only [List.append_nil, Nat.add_zero] at X15
  have G15 := gd X15 hx hby
  obtain ⟨x16, hx16⟩ : ∃ z : UInt64, z = (rv1 p1 (3 : Int32) (p4 - (3 : Int32))) := ⟨_, rfl⟩
  obtain ⟨_, _, ⟨T17, L17, k17, n17⟩, -, X17, ⟨Lc17, hQ17, l17, y17, z17⟩, st17⟩ := Jvm.LawKit.callS X15 hx (y := (⟨"com/example/oceanus/oceanus/analysis/LinearIsConstantPinLaw", "make", "(IDDDD)[D"⟩ : MethodName)) hown (mvT hZ (wd hw 4 rfl)) (mvT hZ (wd hw 5 rfl)) (mvT hZ (wd hw 2 rfl)) (mvT hZ (wd hw 6 rfl)) (by decide) (backOf (W := 0) (rm2_4 l Z a0 hw [] x2 x4 x6 x8 h0 n0 Z0 ) hZ (wd hw 6 rfl) (wd hw 2 rfl) (by decide) (by decide)) (g := (mkF m 98 #[iv p0, iv p1, iv p2, iv p3, iv p4, iv (4 : Int32), dv x2, .second, dv x4, .second, dv x6, .second, dv x8, .second, dv x10, .second, dv x12, .second, dv x14, .second, dv x16, .second, .unset, .unset, .unset, .unset] [(.double x8), (.double x6), (.double x4), (.double x2), (.int (4 : Int32))])) rfl (by rw [hml]; rfl) (argsL := [(.int (4 : Int32)), (.double x2), (.double x4), (.double x6), (.double x8)]) (rest := []) (lenOf pd_2 rfl) rfl (by show 2 * 0 + _ ≤ _; exact Nat.le_of_eq rfl) (hb hby at_98) (fun _ _ => ⟨rfl, e15, (by decide : 0 + 1 ≤ _), (by decide : 0 + 4 ≤ _)⟩)
  dsimp only [Pt.U, Pt.locs, Pt.cells, Pt.slots] at X17 l17 y17 z17 st17 hQ17
  replace l17 : ([] ++ Lc17) = L17 := l17.symm
  subst l17 y17 z17
  obtain ⟨b17, k17, rfl, g_b17, sz17, Nq17, K17, V_b17⟩ := hQ17
  have N17 := Fr.app N0 Nq17
  have Z17k := Nat.le_trans Z0 K17.1
  have G17 := gd X17 hx hby
  obtain ⟨_, _, ⟨T19, L19, k19, n19⟩, -, X19, ⟨Lc19, hQ19, l19, y19, z19⟩, st19⟩ := Jvm.LawKit.callS X17 hx (y := (⟨"com/example/oceanus/oceanus/analysis/LinearIsConstantPinLaw", "make", "(IDDDD)[D"⟩ : MethodName)) hown (mvT hZ (wd hw 4 rfl)) (mvT hZ (wd hw 5 rfl)) (mvT hZ (wd hw 2 rfl)) (mvT hZ (wd hw 6 rfl)) (by decide) (backOf (W := 0) (rm2_4 l Z a0 hw [] x10 x12 x14 x16 T17.heap n0 Z17k ) hZ (wd hw 6 rfl) (wd hw 2 rfl) (by decide) (by decide)) (g := (mkF m 113 #[iv p0, iv p1, iv p2, iv p3, iv p4, iv (4 : Int32), dv x2, .second, dv x4, .second, dv x6, .second, dv x8, .second, dv x10, .second, dv x12, .second, dv x14, .second, dv x16, .second, rv b17, .unset, .unset, .unset] [(.double x16), (.double x14), (.double x12), (.double x10), (.int (4 : Int32))])) rfl (by rw [hml]; rfl) (argsL := [(.int (4 : Int32)), (.double x10), (.double x12), (.double x14), (.double x16)]) (rest := []) (lenOf pd_2 rfl) rfl (by show 2 * 0 + _ ≤ _; exact Nat.le_of_eq rfl) (hb hby at_113) (fun _ _ => ⟨rfl, rfl, (by decide : 1 + 1 ≤ _), (by decide : 4 + 4 ≤ _)⟩)
  dsimp only [Pt.U, Pt.locs, Pt.cells, Pt.slots] at X19 l19 y19 z19 st19 hQ19
  replace l19 : (([] ++ Lc17) ++ Lc19) = L19 := l19.symm
  subst l19 y19 z19
  obtain ⟨b19, k19, rfl, g_b19, sz19, Nq19, K19, V_b19⟩ := hQ19
  have ne_b17_b19 : b17 ≠ b19 := Nat.ne_of_lt (Nat.lt_of_lt_of_le V_b17.lt sz19)
  have N19 := Fr.app N17 Nq19
  have f21 := V_b17.keep K19 nin0
  have Z19k := Nat.le_trans Z17k K19.1
  have G19 := gd X19 hx hby
  obtain ⟨T24, h24, X24, e24, E24, A24, D24, -, st24⟩ := newO X19 hx hZ hown (wd hw 8 rfl) (wd hw 9 rfl) (wd hw 10 rfl) rfl (g := (mkF m 118 #[iv p0, iv p1, iv p2, iv p3, iv p4, iv (4 : Int32), dv x2, .second, dv x4, .second, dv x6, .second, dv x8, .second, dv x10, .second, dv x12, .second, dv x14, .second, dv x16, .second, rv b17, rv b19, .unset, .unset] [])) rfl (hb hby at_118) (by decide) (by decide)
  have G24 := gd X24 hx hby
  obtain ⟨b24, g24⟩ : ∃ z, z = T19.heap.size := ⟨_, rfl⟩
  rw [← g24] at A24 D24 st24
  have ne_b17_b24 : b17 ≠ b24 := Nat.ne_of_lt (Nat.lt_of_lt_of_le f21.lt (Nat.le_of_eq g24.symm))
  have ne_b19_b24 : b19 ≠ b24 := Nat.ne_of_lt (Nat.lt_of_lt_of_le V_b19.lt (Nat.le_of_eq g24.symm))
  have g_b24 : n0 ≤ b24 := Nat.le_trans Z19k (Nat.le_of_eq g24.symm)
  have f25 := f21.ext E24
  have f26 := V_b19.ext E24
  have Z24 := Nat.le_trans Z19k E24.1
  have F_lows_b24 : Fld Z h24 b24 "com/example/oceanus/oceanus/analysis/RoundingSpanArithmetic$Linear" "lows" "[D" .null := D24 (Or.inr (wd hw 23 rfl)) (ty := (.array .double)) (by decide)
  have F_highs_b24 : Fld Z h24 b24 "com/example/oceanus/oceanus/analysis/RoundingSpanArithmetic$Linear" "highs" "[D" .null := D24 (Or.inr (wd hw 25 rfl)) (ty := (.array .double)) (by decide)
  obtain ⟨_, _, ⟨T27, L27, k27, n27⟩, -, X27, ⟨Lc27, hQ27, l27, y27, z27⟩, st27⟩ := X24.specialBack hx (y := (⟨"com/example/oceanus/oceanus/analysis/RoundingSpanArithmetic$Linear", "<init>", "([D[D)V"⟩ : MethodName)) rfl hown (mvT hZ (wd hw 11 rfl)) (mvT hZ (wd hw 12 rfl)) (mvT hZ (wd hw 13 rfl)) (by decide) (backOf (W := 1) (rm3 l Z a0 hw [] b24 b17 b19 h24 n0 Z24 A24 g_b24 F_lows_b24 F_highs_b24) hZ (wd hw 13 rfl) (wd hw 10 rfl) (by decide) (by decide)) (g := (mkF m 126 #[iv p0, iv p1, iv p2, iv p3, iv p4, iv (4 : Int32), dv x2, .second, dv x4, .second, dv x6, .second, dv x8, .second, dv x10, .second, dv x12, .second, dv x14, .second, dv x16, .second, rv b17, rv b19, .unset, .unset] [(.ref b19), (.ref b17), (.ref b24), (.ref b24)])) rfl (by rw [hml]; rfl) (Steps.refl _) (a := b24) (argsL := [(.ref b17), (.ref b19)]) (rest := [(.ref b24)]) (lenOf pd_3 rfl) rfl (by show 2 * 0 + _ ≤ _; exact Nat.le_of_eq rfl) (hb hby at_126) (fun _ _ => ⟨rfl, e24, (by decide : 3 + 0 ≤ _), (by decide : 10 + 0 ≤ _)⟩)
  dsimp only [Pt.U, Pt.locs, Pt.cells, Pt.slots] at X27 l27 y27 z27 st27 hQ27
  replace l27 : ((([] ++ Lc17) ++ Lc19) ++ Lc27) = L27 := l27.symm
  subst l27 y27 z27
  obtain ⟨rfl, Nq27, K27, Eq27, Fq27_0, Fq27_1⟩ := hQ27
  have N27 := Fr.app N19 Nq27
  have f29 := f25.keep K27 (ninS ne_b17_b24 nin0)
  have f32 := f26.keep K27 (ninS ne_b19_b24 nin0)
  have f38 := A24.keep K27
  have Z27k := Nat.le_trans Z24 K27.1
  have G27 := gd X27 hx hby
  obtain ⟨cq39, kq39, q39a, q39b, q39c⟩ := isOf hZ rfl Eq27
  obtain ⟨_, _, ⟨T39, L39, k39, n39⟩, -, X39, ⟨Lc39, hQ39, l39, y39, z39⟩, st39⟩ := X27.virtualBack hx (y := (⟨"com/example/oceanus/oceanus/analysis/RoundingSpanArithmetic$Linear", "isConstant", "()Z"⟩ : MethodName)) (z := (⟨"com/example/oceanus/oceanus/analysis/RoundingSpanArithmetic$Linear", "isConstant", "()Z"⟩ : MethodName)) hown (mvT hZ (wd hw 26 rfl)) (mvT hZ (wd hw 27 rfl)) (notFace_of_selects (args := #[]) (mvT hZ (wd hw 29 rfl))) (mvT hZ (wd hw 29 rfl)) (mvT hZ (wd hw 28 rfl)) (by decide) (backOf (W := 0) (rm6_4 l Z a0 hw [] b24 T27.heap n0 Z27k Fq27_0 Fq27_1 f29 f32) hZ (wd hw 30 rfl) (wd hw 10 rfl) (by decide) (by decide)) q39a q39c (g := (mkF m 129 #[iv p0, iv p1, iv p2, iv p3, iv p4, iv (4 : Int32), dv x2, .second, dv x4, .second, dv x6, .second, dv x8, .second, dv x10, .second, dv x12, .second, dv x14, .second, dv x16, .second, rv b17, rv b19, .unset, .unset] [(.ref b24)])) rfl (by rw [hml]; rfl) (Steps.refl _) (argsL := []) (rest := []) (lenOf pd_4 rfl) rfl (by show 2 * 0 + _ ≤ _; exact Nat.le_of_eq rfl) (hb hby at_129) (fun _ _ => ⟨rfl, rfl, (by decide : 3 + 0 ≤ _), (by decide : 10 + 0 ≤ _)⟩)
  dsimp only [Pt.U, Pt.locs, Pt.cells, Pt.slots] at X39 l39 y39 z39 st39 hQ39
  replace l39 : (((([] ++ Lc17) ++ Lc19) ++ Lc27) ++ Lc39) = L39 := l39.symm
  subst l39 y39 z39
  obtain ⟨rfl, rfl, e39⟩ := hQ39
  simp only [List.append_nil, Nat.add_zero] at X39
  have G39 := gd X39 hx hby
  obtain ⟨x40, hx40⟩ : ∃ z : Int32, z = (rv6_4 x2 x4 x6 x10 x12 x14) := ⟨_, rfl⟩
  obtain ⟨x43, hx43⟩ : ∃ z : Int32, z = (if (cmpValue (FP.dcmp x2 (0 : UInt64)) .l) = (0 : Int32) then (if (cmpValue (FP.dcmp x10 (0 : UInt64)) .l) = (0 : Int32) then (if (cmpValue (FP.dcmp x4 (0 : UInt64)) .l) = (0 : Int32) then (if (cmpValue (FP.dcmp x12 (0 : UInt64)) .l) = (0 : Int32) then (if (cmpValue (FP.dcmp x6 (0 : UInt64)) .l) = (0 : Int32) then (if (cmpValue (FP.dcmp x14 (0 : UInt64)) .l) = (0 : Int32) then (1 : Int32) else (0 : Int32)) else (0 : Int32)) else (0 : Int32)) else (0 : Int32)) else (0 : Int32)) else (0 : Int32)) := ⟨_, rfl⟩
  obtain ⟨T42, X42, e42, st42⟩ : ∃ T' : State, Stand p l e room_1 s m #[(.int p0), (.int p1), (.int p2), (.int p3), (.int p4)] below meth c T' ((([] ++ Lc17) ++ Lc19) ++ Lc27) 3 10 ∧ T'.heap = T27.heap ∧ ∀ target, Steps p.tables e below (T'.setTop (mkF m 199 #[iv p0, iv p1, iv p2, iv p3, iv p4, iv (4 : Int32), dv x2, .second, dv x4, .second, dv x6, .second, dv x8, .second, dv x10, .second, dv x12, .second, dv x14, .second, dv x16, .second, rv b17, rv b19, iv x40, .unset] [(.int x43)])) target → Steps p.tables e below (T39.setTop (mkF m 144 #[iv p0, iv p1, iv p2, iv p3, iv p4, iv (4 : Int32), dv x2, .second, dv x4, .second, dv x6, .second, dv x8, .second, dv x10, .second, dv x12, .second, dv x14, .second, dv x16, .second, rv b17, rv b19, iv x40, .unset] [(.int (cmpValue (FP.dcmp x2 (0 : UInt64)) .l))])) target := by
    by_cases hc144_41 : (cmpValue (FP.dcmp x2 (0 : UInt64)) .l) = (0 : Int32)
    · by_cases hc151_44 : (cmpValue (FP.dcmp x10 (0 : UInt64)) .l) = (0 : Int32)
      · by_cases hc164_45 : (cmpValue (FP.dcmp x4 (0 : UInt64)) .l) = (0 : Int32)
        · by_cases hc171_46 : (cmpValue (FP.dcmp x12 (0 : UInt64)) .l) = (0 : Int32)
          · by_cases hc184_47 : (cmpValue (FP.dcmp x6 (0 : UInt64)) .l) = (0 : Int32)
            · by_cases hc191_48 : (cmpValue (FP.dcmp x14 (0 : UInt64)) .l) = (0 : Int32)
              · refine ⟨T39, X39, e39, fun target kt => ?_⟩
                refine mifNo 147 G39 at_144 ((if0 _ _).trans (teq hc144_41).2) rfl ?_
                refine mdload 149 G39 at_147 rfl rfl ?_
                refine mdconst0 150 G39 at_149 (v := (0 : UInt64)) rfl rfl ?_
                refine mdcmp 151 G39 at_150 rfl ?_
                refine mifNo 154 G39 at_151 ((if0 _ _).trans (teq hc151_44).2) rfl ?_
                refine miload 156 G39 at_154 rfl rfl ?_
                refine miconst 157 G39 at_156 (v := (2 : Int32)) rfl rfl ?_
                refine micmpNo 160 G39 at_157 (tlt (by decide : (2 : Int32) < (4 : Int32))).2.2.2 rfl ?_
                refine mdload 162 G39 at_160 rfl rfl ?_
                refine mdconst0 163 G39 at_162 (v := (0 : UInt64)) rfl rfl ?_
                refine mdcmp 164 G39 at_163 rfl ?_
                refine mifNo 167 G39 at_164 ((if0 _ _).trans (teq hc164_45).2) rfl ?_
                refine mdload 169 G39 at_167 rfl rfl ?_
                refine mdconst0 170 G39 at_169 (v := (0 : UInt64)) rfl rfl ?_
                refine mdcmp 171 G39 at_170 rfl ?_
                refine mifNo 174 G39 at_171 ((if0 _ _).trans (teq hc171_46).2) rfl ?_
                refine miload 176 G39 at_174 rfl rfl ?_
                refine miconst 177 G39 at_176 (v := (3 : Int32)) rfl rfl ?_
                refine micmpNo 180 G39 at_177 (tlt (by decide : (3 : Int32) < (4 : Int32))).2.2.2 rfl ?_
                refine mdload 182 G39 at_180 rfl rfl ?_
                refine mdconst0 183 G39 at_182 (v := (0 : UInt64)) rfl rfl ?_
                refine mdcmp 184 G39 at_183 rfl ?_
                refine mifNo 187 G39 at_184 ((if0 _ _).trans (teq hc184_47).2) rfl ?_
                refine mdload 189 G39 at_187 rfl rfl ?_
                refine mdconst0 190 G39 at_189 (v := (0 : UInt64)) rfl rfl ?_
                refine mdcmp 191 G39 at_190 rfl ?_
                refine mifNo 194 G39 at_191 ((if0 _ _).trans (teq hc191_48).2) rfl ?_
                refine miconst 195 G39 at_194 (v := (1 : Int32)) rfl rfl ?_
                refine mgoto 199 G39 at_195 (by decide) rfl ?_
                exact castTop (g' := (mkF m 199 #[iv p0, iv p1, iv p2, iv p3, iv p4, iv (4 : Int32), dv x2, .second, dv x4, .second, dv x6, .second, dv x8, .second, dv x10, .second, dv x12, .second, dv x14, .second, dv x16, .second, rv b17, rv b19, iv x40, .unset] [(.int x43)])) (by simp only [hx43, if_pos hc144_41, if_pos hc151_44, if_pos hc164_45, if_pos hc171_46, if_pos hc184_47, if_pos hc191_48]) kt
              · refine ⟨T39, X39, e39, fun target kt => ?_⟩
                refine mifNo 147 G39 at_144 ((if0 _ _).trans (teq hc144_41).2) rfl ?_
                refine mdload 149 G39 at_147 rfl rfl ?_
                refine mdconst0 150 G39 at_149 (v := (0 : UInt64)) rfl rfl ?_
                refine mdcmp 151 G39 at_150 rfl ?_
                refine mifNo 154 G39 at_151 ((if0 _ _).trans (teq hc151_44).2) rfl ?_
                refine miload 156 G39 at_154 rfl rfl ?_
                refine miconst 157 G39 at_156 (v := (2 : Int32)) rfl rfl ?_
                refine micmpNo 160 G39 at_157 (tlt (by decide : (2 : Int32) < (4 : Int32))).2.2.2 rfl ?_
                refine mdload 162 G39 at_160 rfl rfl ?_
                refine mdconst0 163 G39 at_162 (v := (0 : UInt64)) rfl rfl ?_
                refine mdcmp 164 G39 at_163 rfl ?_
                refine mifNo 167 G39 at_164 ((if0 _ _).trans (teq hc164_45).2) rfl ?_
                refine mdload 169 G39 at_167 rfl rfl ?_
                refine mdconst0 170 G39 at_169 (v := (0 : UInt64)) rfl rfl ?_
                refine mdcmp 171 G39 at_170 rfl ?_
                refine mifNo 174 G39 at_171 ((if0 _ _).trans (teq hc171_46).2) rfl ?_
                refine miload 176 G39 at_174 rfl rfl ?_
                refine miconst 177 G39 at_176 (v := (3 : Int32)) rfl rfl ?_
                refine micmpNo 180 G39 at_177 (tlt (by decide : (3 : Int32) < (4 : Int32))).2.2.2 rfl ?_
                refine mdload 182 G39 at_180 rfl rfl ?_
                refine mdconst0 183 G39 at_182 (v := (0 : UInt64)) rfl rfl ?_
                refine mdcmp 184 G39 at_183 rfl ?_
                refine mifNo 187 G39 at_184 ((if0 _ _).trans (teq hc184_47).2) rfl ?_
                refine mdload 189 G39 at_187 rfl rfl ?_
                refine mdconst0 190 G39 at_189 (v := (0 : UInt64)) rfl rfl ?_
                refine mdcmp 191 G39 at_190 rfl ?_
                refine mifYes 198 G39 at_191 ((if0 _ _).trans (feq hc191_48).2) (by decide) rfl ?_
                refine miconst 199 G39 at_198 (v := (0 : Int32)) rfl rfl ?_
                exact castTop (g' := (mkF m 199 #[iv p0, iv p1, iv p2, iv p3, iv p4, iv (4 : Int32), dv x2, .second, dv x4, .second, dv x6, .second, dv x8, .second, dv x10, .second, dv x12, .second, dv x14, .second, dv x16, .second, rv b17, rv b19, iv x40, .unset] [(.int x43)])) (by simp only [hx43, if_pos hc144_41, if_pos hc151_44, if_pos hc164_45, if_pos hc171_46, if_pos hc184_47, if_neg hc191_48]) kt
            · refine ⟨T39, X39, e39, fun target kt => ?_⟩
              refine mifNo 147 G39 at_144 ((if0 _ _).trans (teq hc144_41).2) rfl ?_
              refine mdload 149 G39 at_147 rfl rfl ?_
              refine mdconst0 150 G39 at_149 (v := (0 : UInt64)) rfl rfl ?_
              refine mdcmp 151 G39 at_150 rfl ?_
              refine mifNo 154 G39 at_151 ((if0 _ _).trans (teq hc151_44).2) rfl ?_
              refine miload 156 G39 at_154 rfl rfl ?_
              refine miconst 157 G39 at_156 (v := (2 : Int32)) rfl rfl ?_
              refine micmpNo 160 G39 at_157 (tlt (by decide : (2 : Int32) < (4 : Int32))).2.2.2 rfl ?_
              refine mdload 162 G39 at_160 rfl rfl ?_
              refine mdconst0 163 G39 at_162 (v := (0 : UInt64)) rfl rfl ?_
              refine mdcmp 164 G39 at_163 rfl ?_
              refine mifNo 167 G39 at_164 ((if0 _ _).trans (teq hc164_45).2) rfl ?_
              refine mdload 169 G39 at_167 rfl rfl ?_
              refine mdconst0 170 G39 at_169 (v := (0 : UInt64)) rfl rfl ?_
              refine mdcmp 171 G39 at_170 rfl ?_
              refine mifNo 174 G39 at_171 ((if0 _ _).trans (teq hc171_46).2) rfl ?_
              refine miload 176 G39 at_174 rfl rfl ?_
              refine miconst 177 G39 at_176 (v := (3 : Int32)) rfl rfl ?_
              refine micmpNo 180 G39 at_177 (tlt (by decide : (3 : Int32) < (4 : Int32))).2.2.2 rfl ?_
              refine mdload 182 G39 at_180 rfl rfl ?_
              refine mdconst0 183 G39 at_182 (v := (0 : UInt64)) rfl rfl ?_
              refine mdcmp 184 G39 at_183 rfl ?_
              refine mifYes 198 G39 at_184 ((if0 _ _).trans (feq hc184_47).2) (by decide) rfl ?_
              refine miconst 199 G39 at_198 (v := (0 : Int32)) rfl rfl ?_
              exact castTop (g' := (mkF m 199 #[iv p0, iv p1, iv p2, iv p3, iv p4, iv (4 : Int32), dv x2, .second, dv x4, .second, dv x6, .second, dv x8, .second, dv x10, .second, dv x12, .second, dv x14, .second, dv x16, .second, rv b17, rv b19, iv x40, .unset] [(.int x43)])) (by simp only [hx43, if_pos hc144_41, if_pos hc151_44, if_pos hc164_45, if_pos hc171_46, if_neg hc184_47]) kt
          · refine ⟨T39, X39, e39, fun target kt => ?_⟩
            refine mifNo 147 G39 at_144 ((if0 _ _).trans (teq hc144_41).2) rfl ?_
            refine mdload 149 G39 at_147 rfl rfl ?_
            refine mdconst0 150 G39 at_149 (v := (0 : UInt64)) rfl rfl ?_
            refine mdcmp 151 G39 at_150 rfl ?_
            refine mifNo 154 G39 at_151 ((if0 _ _).trans (teq hc151_44).2) rfl ?_
            refine miload 156 G39 at_154 rfl rfl ?_
            refine miconst 157 G39 at_156 (v := (2 : Int32)) rfl rfl ?_
            refine micmpNo 160 G39 at_157 (tlt (by decide : (2 : Int32) < (4 : Int32))).2.2.2 rfl ?_
            refine mdload 162 G39 at_160 rfl rfl ?_
            refine mdconst0 163 G39 at_162 (v := (0 : UInt64)) rfl rfl ?_
            refine mdcmp 164 G39 at_163 rfl ?_
            refine mifNo 167 G39 at_164 ((if0 _ _).trans (teq hc164_45).2) rfl ?_
            refine mdload 169 G39 at_167 rfl rfl ?_
            refine mdconst0 170 G39 at_169 (v := (0 : UInt64)) rfl rfl ?_
            refine mdcmp 171 G39 at_170 rfl ?_
            refine mifYes 198 G39 at_171 ((if0 _ _).trans (feq hc171_46).2) (by decide) rfl ?_
            refine miconst 199 G39 at_198 (v := (0 : Int32)) rfl rfl ?_
            exact castTop (g' := (mkF m 199 #[iv p0, iv p1, iv p2, iv p3, iv p4, iv (4 : Int32), dv x2, .second, dv x4, .second, dv x6, .second, dv x8, .second, dv x10, .second, dv x12, .second, dv x14, .second, dv x16, .second, rv b17, rv b19, iv x40, .unset] [(.int x43)])) (by simp only [hx43, if_pos hc144_41, if_pos hc151_44, if_pos hc164_45, if_neg hc171_46]) kt
        · refine ⟨T39, X39, e39, fun target kt => ?_⟩
          refine mifNo 147 G39 at_144 ((if0 _ _).trans (teq hc144_41).2) rfl ?_
          refine mdload 149 G39 at_147 rfl rfl ?_
          refine mdconst0 150 G39 at_149 (v := (0 : UInt64)) rfl rfl ?_
          refine mdcmp 151 G39 at_150 rfl ?_
          refine mifNo 154 G39 at_151 ((if0 _ _).trans (teq hc151_44).2) rfl ?_
          refine miload 156 G39 at_154 rfl rfl ?_
          refine miconst 157 G39 at_156 (v := (2 : Int32)) rfl rfl ?_
          refine micmpNo 160 G39 at_157 (tlt (by decide : (2 : Int32) < (4 : Int32))).2.2.2 rfl ?_
          refine mdload 162 G39 at_160 rfl rfl ?_
          refine mdconst0 163 G39 at_162 (v := (0 : UInt64)) rfl rfl ?_
          refine mdcmp 164 G39 at_163 rfl ?_
          refine mifYes 198 G39 at_164 ((if0 _ _).trans (feq hc164_45).2) (by decide) rfl ?_
          refine miconst 199 G39 at_198 (v := (0 : Int32)) rfl rfl ?_
          exact castTop (g' := (mkF m 199 #[iv p0, iv p1, iv p2, iv p3, iv p4, iv (4 : Int32), dv x2, .second, dv x4, .second, dv x6, .second, dv x8, .second, dv x10, .second, dv x12, .second, dv x14, .second, dv x16, .second, rv b17, rv b19, iv x40, .unset] [(.int x43)])) (by simp only [hx43, if_pos hc144_41, if_pos hc151_44, if_neg hc164_45]) kt
      · refine ⟨T39, X39, e39, fun target kt => ?_⟩
        refine mifNo 147 G39 at_144 ((if0 _ _).trans (teq hc144_41).2) rfl ?_
        refine mdload 149 G39 at_147 rfl rfl ?_
        refine mdconst0 150 G39 at_149 (v := (0 : UInt64)) rfl rfl ?_
        refine mdcmp 151 G39 at_150 rfl ?_
        refine mifYes 198 G39 at_151 ((if0 _ _).trans (feq hc151_44).2) (by decide) rfl ?_
        refine miconst 199 G39 at_198 (v := (0 : Int32)) rfl rfl ?_
        exact castTop (g' := (mkF m 199 #[iv p0, iv p1, iv p2, iv p3, iv p4, iv (4 : Int32), dv x2, .second, dv x4, .second, dv x6, .second, dv x8, .second, dv x10, .second, dv x12, .second, dv x14, .second, dv x16, .second, rv b17, rv b19, iv x40, .unset] [(.int x43)])) (by simp only [hx43, if_pos hc144_41, if_neg hc151_44]) kt
    · refine ⟨T39, X39, e39, fun target kt => ?_⟩
      refine mifYes 198 G39 at_144 ((if0 _ _).trans (feq hc144_41).2) (by decide) rfl ?_
      refine miconst 199 G39 at_198 (v := (0 : Int32)) rfl rfl ?_
      exact castTop (g' := (mkF m 199 #[iv p0, iv p1, iv p2, iv p3, iv p4, iv (4 : Int32), dv x2, .second, dv x4, .second, dv x6, .second, dv x8, .second, dv x10, .second, dv x12, .second, dv x14, .second, dv x16, .second, rv b17, rv b19, iv x40, .unset] [(.int x43)])) (by simp only [hx43, if_neg hc144_41]) kt
  have G42 := gd X42 hx hby
  obtain ⟨x51, hx51⟩ : ∃ z : Int32, z = (if x40 = x43 then (1 : Int32) else (0 : Int32)) := ⟨_, rfl⟩
  obtain ⟨T50, X50, e50, st50⟩ : ∃ T' : State, Stand p l e room_1 s m #[(.int p0), (.int p1), (.int p2), (.int p3), (.int p4)] below meth c T' ((([] ++ Lc17) ++ Lc19) ++ Lc27) 3 10 ∧ T'.heap = T27.heap ∧ ∀ target, Steps p.tables e below (T'.setTop (mkF m 213 #[iv p0, iv p1, iv p2, iv p3, iv p4, iv (4 : Int32), dv x2, .second, dv x4, .second, dv x6, .second, dv x8, .second, dv x10, .second, dv x12, .second, dv x14, .second, dv x16, .second, rv b17, rv b19, iv x40, iv x43] [(.int x51)])) target → Steps p.tables e below (T42.setTop (mkF m 205 #[iv p0, iv p1, iv p2, iv p3, iv p4, iv (4 : Int32), dv x2, .second, dv x4, .second, dv x6, .second, dv x8, .second, dv x10, .second, dv x12, .second, dv x14, .second, dv x16, .second, rv b17, rv b19, iv x40, iv x43] [(.int x43), (.int x40)])) target := by
    by_cases hc205_49 : x40 = x43
    · refine ⟨T42, X42, e42, fun target kt => ?_⟩
      refine micmpNo 208 G42 at_205 (teq hc205_49).2 rfl ?_
      refine miconst 209 G42 at_208 (v := (1 : Int32)) rfl rfl ?_
      refine mgoto 213 G42 at_209 (by decide) rfl ?_
      exact castTop (g' := (mkF m 213 #[iv p0, iv p1, iv p2, iv p3, iv p4, iv (4 : Int32), dv x2, .second, dv x4, .second, dv x6, .second, dv x8, .second, dv x10, .second, dv x12, .second, dv x14, .second, dv x16, .second, rv b17, rv b19, iv x40, iv x43] [(.int x51)])) (by simp only [hx51, if_pos hc205_49]) kt
    · refine ⟨T42, X42, e42, fun target kt => ?_⟩
      refine micmpYes 212 G42 at_205 (feq hc205_49).2 (by decide) rfl ?_
      refine miconst 213 G42 at_212 (v := (0 : Int32)) rfl rfl ?_
      exact castTop (g' := (mkF m 213 #[iv p0, iv p1, iv p2, iv p3, iv p4, iv (4 : Int32), dv x2, .second, dv x4, .second, dv x6, .second, dv x8, .second, dv x10, .second, dv x12, .second, dv x14, .second, dv x16, .second, rv b17, rv b19, iv x40, iv x43] [(.int x51)])) (by simp only [hx51, if_neg hc205_49]) kt
  have G50 := gd X50 hx hby
  have hend : x51 = 1 := (own_rm0_4_end p0 p1 p2 p3 p4 x2 hx2 x4 hx4 x6 hx6 x8 hx8 x10 hx10 x12 hx12 x14 hx14 x16 hx16 x40 hx40 x43 hx43 x51 hx51 hpin6)
  obtain ⟨fs, hr, hrun, hended, hW, hsame⟩ := X50.leave (v := some (.int (1 : Int32))) (fun h => by rw [Bd.returns] at h; cases h)
  refine ⟨_, _, pre0 _ ?_, hrun, hended, _, _, rfl, ?_, ⟨_, rfl⟩, hW, hsame.mono (by decide) (by decide)⟩
  · show Steps p.tables e below (s₁.setTop (mkF m 0 #[iv p0, iv p1, iv p2, iv p3, iv p4, .unset, .unset, .unset, .unset, .unset, .unset, .unset, .unset, .unset, .unset, .unset, .unset, .unset, .unset, .unset, .unset, .unset, .unset, .unset, .unset, .unset] [])) _
    refine miloadN 1 G0 at_0 rfl rfl ?_
    refine mbipush 3 G0 at_1 (v := (7 : Int32)) rfl rfl ?_
    refine miand 4 G0 at_3 rfl rfl ?_
    refine miconst 5 G0 at_4 (v := (5 : Int32)) rfl rfl ?_
    refine mirem 6 G0 at_5 (by decide) (irem_eq_mod _ _) rfl ?_
    refine castTop (g' := (mkF m 6 #[iv p0, iv p1, iv p2, iv p3, iv p4, .unset, .unset, .unset, .unset, .unset, .unset, .unset, .unset, .unset, .unset, .unset, .unset, .unset, .unset, .unset, .unset, .unset, .unset, .unset, .unset, .unset] [(.int (4 : Int32))])) (by rw [hpin6]) ?_
    refine mistore 8 G0 at_6 #[iv p0, iv p1, iv p2, iv p3, iv p4, iv (4 : Int32), .unset, .unset, .unset, .unset, .unset, .unset, .unset, .unset, .unset, .unset, .unset, .unset, .unset, .unset, .unset, .unset, .unset, .unset, .unset, .unset] rfl rfl ?_
    refine miloadN 9 G0 at_8 rfl rfl ?_
    refine miconst 10 G0 at_9 (v := (0 : Int32)) rfl rfl ?_
    refine miloadN 11 G0 at_10 rfl rfl ?_
    refine st1 _ ?_
    show Steps p.tables e below (T1.setTop (mkF m 14 #[iv p0, iv p1, iv p2, iv p3, iv p4, iv (4 : Int32), .unset, .unset, .unset, .unset, .unset, .unset, .unset, .unset, .unset, .unset, .unset, .unset, .unset, .unset, .unset, .unset, .unset, .unset, .unset, .unset] [(.double (rv1 p0 (0 : Int32) p3))])) _
    refine castTop (g' := (mkF m 14 #[iv p0, iv p1, iv p2, iv p3, iv p4, iv (4 : Int32), .unset, .unset, .unset, .unset, .unset, .unset, .unset, .unset, .unset, .unset, .unset, .unset, .unset, .unset, .unset, .unset, .unset, .unset, .unset, .unset] [(.double x2)])) (by rw [hx2]) ?_
    refine mdstore 16 G1 at_14 #[iv p0, iv p1, iv p2, iv p3, iv p4, iv (4 : Int32), dv x2, .second, .unset, .unset, .unset, .unset, .unset, .unset, .unset, .unset, .unset, .unset, .unset, .unset, .unset, .unset, .unset, .unset, .unset, .unset] rfl rfl ?_
    refine miloadN 17 G1 at_16 rfl rfl ?_
    refine miconst 18 G1 at_17 (v := (1 : Int32)) rfl rfl ?_
    refine miloadN 19 G1 at_18 rfl rfl ?_
    refine miconst 20 G1 at_19 (v := (1 : Int32)) rfl rfl ?_
    refine miadd 21 G1 at_20 rfl rfl ?_
    refine st3 _ ?_
    show Steps p.tables e below (T3.setTop (mkF m 24 #[iv p0, iv p1, iv p2, iv p3, iv p4, iv (4 : Int32), dv x2, .second, .unset, .unset, .unset, .unset, .unset, .unset, .unset, .unset, .unset, .unset, .unset, .unset, .unset, .unset, .unset, .unset, .unset, .unset] [(.double (rv1 p0 (1 : Int32) (p3 + (1 : Int32))))])) _
    refine castTop (g' := (mkF m 24 #[iv p0, iv p1, iv p2, iv p3, iv p4, iv (4 : Int32), dv x2, .second, .unset, .unset, .unset, .unset, .unset, .unset, .unset, .unset, .unset, .unset, .unset, .unset, .unset, .unset, .unset, .unset, .unset, .unset] [(.double x4)])) (by rw [hx4]) ?_
    refine mdstore 26 G3 at_24 #[iv p0, iv p1, iv p2, iv p3, iv p4, iv (4 : Int32), dv x2, .second, dv x4, .second, .unset, .unset, .unset, .unset, .unset, .unset, .unset, .unset, .unset, .unset, .unset, .unset, .unset, .unset, .unset, .unset] rfl rfl ?_
    refine miloadN 27 G3 at_26 rfl rfl ?_
    refine miconst 28 G3 at_27 (v := (2 : Int32)) rfl rfl ?_
    refine miloadN 29 G3 at_28 rfl rfl ?_
    refine miconst 30 G3 at_29 (v := (2 : Int32)) rfl rfl ?_
    refine miadd 31 G3 at_30 rfl rfl ?_
    refine st5 _ ?_
    show Steps p.tables e below (T5.setTop (mkF m 34 #[iv p0, iv p1, iv p2, iv p3, iv p4, iv (4 : Int32), dv x2, .second, dv x4, .second, .unset, .unset, .unset, .unset, .unset, .unset, .unset, .unset, .unset, .unset, .unset, .unset, .unset, .unset, .unset, .unset] [(.double (rv1 p0 (2 : Int32) (p3 + (2 : Int32))))])) _
    refine castTop (g' := (mkF m 34 #[iv p0, iv p1, iv p2, iv p3, iv p4, iv (4 : Int32), dv x2, .second, dv x4, .second, .unset, .unset, .unset, .unset, .unset, .unset, .unset, .unset, .unset, .unset, .unset, .unset, .unset, .unset, .unset, .unset] [(.double x6)])) (by rw [hx6]) ?_
    refine mdstore 36 G5 at_34 #[iv p0, iv p1, iv p2, iv p3, iv p4, iv (4 : Int32), dv x2, .second, dv x4, .second, dv x6, .second, .unset, .unset, .unset, .unset, .unset, .unset, .unset, .unset, .unset, .unset, .unset, .unset, .unset, .unset] rfl rfl ?_
    refine miloadN 37 G5 at_36 rfl rfl ?_
    refine miconst 38 G5 at_37 (v := (3 : Int32)) rfl rfl ?_
    refine miloadN 39 G5 at_38 rfl rfl ?_
    refine miconst 40 G5 at_39 (v := (3 : Int32)) rfl rfl ?_
    refine miadd 41 G5 at_40 rfl rfl ?_
    refine st7 _ ?_
    show Steps p.tables e below (T7.setTop (mkF m 44 #[iv p0, iv p1, iv p2, iv p3, iv p4, iv (4 : Int32), dv x2, .second, dv x4, .second, dv x6, .second, .unset, .unset, .unset, .unset, .unset, .unset, .unset, .unset, .unset, .unset, .unset, .unset, .unset, .unset] [(.double (rv1 p0 (3 : Int32) (p3 + (3 : Int32))))])) _
    refine castTop (g' := (mkF m 44 #[iv p0, iv p1, iv p2, iv p3, iv p4, iv (4 : Int32), dv x2, .second, dv x4, .second, dv x6, .second, .unset, .unset, .unset, .unset, .unset, .unset, .unset, .unset, .unset, .unset, .unset, .unset, .unset, .unset] [(.double x8)])) (by rw [hx8]) ?_
    refine mdstore 46 G7 at_44 #[iv p0, iv p1, iv p2, iv p3, iv p4, iv (4 : Int32), dv x2, .second, dv x4, .second, dv x6, .second, dv x8, .second, .unset, .unset, .unset, .unset, .unset, .unset, .unset, .unset, .unset, .unset, .unset, .unset] rfl rfl ?_
    refine miloadN 47 G7 at_46 rfl rfl ?_
    refine miconst 48 G7 at_47 (v := (0 : Int32)) rfl rfl ?_
    refine miload 50 G7 at_48 rfl rfl ?_
    refine st9 _ ?_
    show Steps p.tables e below (T9.setTop (mkF m 53 #[iv p0, iv p1, iv p2, iv p3, iv p4, iv (4 : Int32), dv x2, .second, dv x4, .second, dv x6, .second, dv x8, .second, .unset, .unset, .unset, .unset, .unset, .unset, .unset, .unset, .unset, .unset, .unset, .unset] [(.double (rv1 p1 (0 : Int32) p4))])) _
    refine castTop (g' := (mkF m 53 #[iv p0, iv p1, iv p2, iv p3, iv p4, iv (4 : Int32), dv x2, .second, dv x4, .second, dv x6, .second, dv x8, .second, .unset, .unset, .unset, .unset, .unset, .unset, .unset, .unset, .unset, .unset, .unset, .unset] [(.double x10)])) (by rw [hx10]) ?_
    refine mdstore 55 G9 at_53 #[iv p0, iv p1, iv p2, iv p3, iv p4, iv (4 : Int32), dv x2, .second, dv x4, .second, dv x6, .second, dv x8, .second, dv x10, .second, .unset, .unset, .unset, .unset, .unset, .unset, .unset, .unset, .unset, .unset] rfl rfl ?_
    refine miloadN 56 G9 at_55 rfl rfl ?_
    refine miconst 57 G9 at_56 (v := (1 : Int32)) rfl rfl ?_
    refine miload 59 G9 at_57 rfl rfl ?_
    refine miconst 60 G9 at_59 (v := (1 : Int32)) rfl rfl ?_
    refine misub 61 G9 at_60 rfl rfl ?_
    refine st11 _ ?_
    show Steps p.tables e below (T11.setTop (mkF m 64 #[iv p0, iv p1, iv p2, iv p3, iv p4, iv (4 : Int32), dv x2, .second, dv x4, .second, dv x6, .second, dv x8, .second, dv x10, .second, .unset, .unset, .unset, .unset, .unset, .unset, .unset, .unset, .unset, .unset] [(.double (rv1 p1 (1 : Int32) (p4 - (1 : Int32))))])) _
    refine castTop (g' := (mkF m 64 #[iv p0, iv p1, iv p2, iv p3, iv p4, iv (4 : Int32), dv x2, .second, dv x4, .second, dv x6, .second, dv x8, .second, dv x10, .second, .unset, .unset, .unset, .unset, .unset, .unset, .unset, .unset, .unset, .unset] [(.double x12)])) (by rw [hx12]) ?_
    refine mdstore 66 G11 at_64 #[iv p0, iv p1, iv p2, iv p3, iv p4, iv (4 : Int32), dv x2, .second, dv x4, .second, dv x6, .second, dv x8, .second, dv x10, .second, dv x12, .second, .unset, .unset, .unset, .unset, .unset, .unset, .unset, .unset] rfl rfl ?_
    refine miloadN 67 G11 at_66 rfl rfl ?_
    refine miconst 68 G11 at_67 (v := (2 : Int32)) rfl rfl ?_
    refine miload 70 G11 at_68 rfl rfl ?_
    refine miconst 71 G11 at_70 (v := (2 : Int32)) rfl rfl ?_
    refine misub 72 G11 at_71 rfl rfl ?_
    refine st13 _ ?_
    show Steps p.tables e below (T13.setTop (mkF m 75 #[iv p0, iv p1, iv p2, iv p3, iv p4, iv (4 : Int32), dv x2, .second, dv x4, .second, dv x6, .second, dv x8, .second, dv x10, .second, dv x12, .second, .unset, .unset, .unset, .unset, .unset, .unset, .unset, .unset] [(.double (rv1 p1 (2 : Int32) (p4 - (2 : Int32))))])) _
    refine castTop (g' := (mkF m 75 #[iv p0, iv p1, iv p2, iv p3, iv p4, iv (4 : Int32), dv x2, .second, dv x4, .second, dv x6, .second, dv x8, .second, dv x10, .second, dv x12, .second, .unset, .unset, .unset, .unset, .unset, .unset, .unset, .unset] [(.double x14)])) (by rw [hx14]) ?_
    refine mdstore 77 G13 at_75 #[iv p0, iv p1, iv p2, iv p3, iv p4, iv (4 : Int32), dv x2, .second, dv x4, .second, dv x6, .second, dv x8, .second, dv x10, .second, dv x12, .second, dv x14, .second, .unset, .unset, .unset, .unset, .unset, .unset] rfl rfl ?_
    refine miloadN 78 G13 at_77 rfl rfl ?_
    refine miconst 79 G13 at_78 (v := (3 : Int32)) rfl rfl ?_
    refine miload 81 G13 at_79 rfl rfl ?_
    refine miconst 82 G13 at_81 (v := (3 : Int32)) rfl rfl ?_
    refine misub 83 G13 at_82 rfl rfl ?_
    refine st15 _ ?_
    show Steps p.tables e below (T15.setTop (mkF m 86 #[iv p0, iv p1, iv p2, iv p3, iv p4, iv (4 : Int32), dv x2, .second, dv x4, .second, dv x6, .second, dv x8, .second, dv x10, .second, dv x12, .second, dv x14, .second, .unset, .unset, .unset, .unset, .unset, .unset] [(.double (rv1 p1 (3 : Int32) (p4 - (3 : Int32))))])) _
    refine castTop (g' := (mkF m 86 #[iv p0, iv p1, iv p2, iv p3, iv p4, iv (4 : Int32), dv x2, .second, dv x4, .second, dv x6, .second, dv x8, .second, dv x10, .second, dv x12, .second, dv x14, .second, .unset, .unset, .unset, .unset, .unset, .unset] [(.double x16)])) (by rw [hx16]) ?_
    refine mdstore 88 G15 at_86 #[iv p0, iv p1, iv p2, iv p3, iv p4, iv (4 : Int32), dv x2, .second, dv x4, .second, dv x6, .second, dv x8, .second, dv x10, .second, dv x12, .second, dv x14, .second, dv x16, .second, .unset, .unset, .unset, .unset] rfl rfl ?_
    refine miload 90 G15 at_88 rfl rfl ?_
    refine mdload 92 G15 at_90 rfl rfl ?_
    refine mdload 94 G15 at_92 rfl rfl ?_
    refine mdload 96 G15 at_94 rfl rfl ?_
    refine mdload 98 G15 at_96 rfl rfl ?_
    refine st17 _ ?_
    show Steps p.tables e below (T17.setTop (mkF m 101 #[iv p0, iv p1, iv p2, iv p3, iv p4, iv (4 : Int32), dv x2, .second, dv x4, .second, dv x6, .second, dv x8, .second, dv x10, .second, dv x12, .second, dv x14, .second, dv x16, .second, .unset, .unset, .unset, .unset] [(.ref b17)])) _
    refine mastore 103 G17 at_101 rfl #[iv p0, iv p1, iv p2, iv p3, iv p4, iv (4 : Int32), dv x2, .second, dv x4, .second, dv x6, .second, dv x8, .second, dv x10, .second, dv x12, .second, dv x14, .second, dv x16, .second, rv b17, .unset, .unset, .unset] rfl rfl ?_
    refine miload 105 G17 at_103 rfl rfl ?_
    refine mdload 107 G17 at_105 rfl rfl ?_
    refine mdload 109 G17 at_107 rfl rfl ?_
    refine mdload 111 G17 at_109 rfl rfl ?_
    refine mdload 113 G17 at_111 rfl rfl ?_
    refine st19 _ ?_
    show Steps p.tables e below (T19.setTop (mkF m 116 #[iv p0, iv p1, iv p2, iv p3, iv p4, iv (4 : Int32), dv x2, .second, dv x4, .second, dv x6, .second, dv x8, .second, dv x10, .second, dv x12, .second, dv x14, .second, dv x16, .second, rv b17, .unset, .unset, .unset] [(.ref b19)])) _
    refine mastore 118 G19 at_116 rfl #[iv p0, iv p1, iv p2, iv p3, iv p4, iv (4 : Int32), dv x2, .second, dv x4, .second, dv x6, .second, dv x8, .second, dv x10, .second, dv x12, .second, dv x14, .second, dv x16, .second, rv b17, rv b19, .unset, .unset] rfl rfl ?_
    refine st24 _ ?_
    show Steps p.tables e below (T24.setTop (mkF m 121 #[iv p0, iv p1, iv p2, iv p3, iv p4, iv (4 : Int32), dv x2, .second, dv x4, .second, dv x6, .second, dv x8, .second, dv x10, .second, dv x12, .second, dv x14, .second, dv x16, .second, rv b17, rv b19, .unset, .unset] [(.ref b24)])) _
    refine mdup 122 G24 at_121 rfl rfl ?_
    refine maload 124 G24 at_122 rfl rfl rfl ?_
    refine maload 126 G24 at_124 rfl rfl rfl ?_
    refine st27.trans ?_
    show Steps p.tables e below (T27.setTop (mkF m 129 #[iv p0, iv p1, iv p2, iv p3, iv p4, iv (4 : Int32), dv x2, .second, dv x4, .second, dv x6, .second, dv x8, .second, dv x10, .second, dv x12, .second, dv x14, .second, dv x16, .second, rv b17, rv b19, .unset, .unset] [(.ref b24)])) _
    refine st39.trans ?_
    show Steps p.tables e below (T39.setTop (mkF m 132 #[iv p0, iv p1, iv p2, iv p3, iv p4, iv (4 : Int32), dv x2, .second, dv x4, .second, dv x6, .second, dv x8, .second, dv x10, .second, dv x12, .second, dv x14, .second, dv x16, .second, rv b17, rv b19, .unset, .unset] [(.int (rv6_4 x2 x4 x6 x10 x12 x14))])) _
    refine castTop (g' := (mkF m 132 #[iv p0, iv p1, iv p2, iv p3, iv p4, iv (4 : Int32), dv x2, .second, dv x4, .second, dv x6, .second, dv x8, .second, dv x10, .second, dv x12, .second, dv x14, .second, dv x16, .second, rv b17, rv b19, .unset, .unset] [(.int x40)])) (by rw [hx40]) ?_
    refine mistore 134 G39 at_132 #[iv p0, iv p1, iv p2, iv p3, iv p4, iv (4 : Int32), dv x2, .second, dv x4, .second, dv x6, .second, dv x8, .second, dv x10, .second, dv x12, .second, dv x14, .second, dv x16, .second, rv b17, rv b19, iv x40, .unset] rfl rfl ?_
    refine miload 136 G39 at_134 rfl rfl ?_
    refine miconst 137 G39 at_136 (v := (1 : Int32)) rfl rfl ?_
    refine micmpNo 140 G39 at_137 (tlt (by decide : (1 : Int32) < (4 : Int32))).2.2.2 rfl ?_
    refine mdload 142 G39 at_140 rfl rfl ?_
    refine mdconst0 143 G39 at_142 (v := (0 : UInt64)) rfl rfl ?_
    refine mdcmp 144 G39 at_143 rfl ?_
    refine st42 _ ?_
    refine mistore 201 G42 at_199 #[iv p0, iv p1, iv p2, iv p3, iv p4, iv (4 : Int32), dv x2, .second, dv x4, .second, dv x6, .second, dv x8, .second, dv x10, .second, dv x12, .second, dv x14, .second, dv x16, .second, rv b17, rv b19, iv x40, iv x43] rfl rfl ?_
    refine miload 203 G42 at_201 rfl rfl ?_
    refine miload 205 G42 at_203 rfl rfl ?_
    refine st50 _ ?_
    refine castTop (g' := (mkF m 213 #[iv p0, iv p1, iv p2, iv p3, iv p4, iv (4 : Int32), dv x2, .second, dv x4, .second, dv x6, .second, dv x8, .second, dv x10, .second, dv x12, .second, dv x14, .second, dv x16, .second, rv b17, rv b19, iv x40, iv x43] [(.int (1 : Int32))])) (by rw [hend]) ?_
    exact retN X50 hx (t := .boolean) Bd.returns (by simp) (hb hby at_213) hr
  · show Q0 Z p0 p1 p2 p3 p4 h0 n0 _ T50.heap _
    rw [e50]
    exact ⟨rfl, N27⟩
theorem rm0 (l : Launch) (Z : State) (a0 : Array Value) (hw : ∀ d ∈ tables_1, d.before a0 Z = true) (ws : List Jvm.Cond) (p0 : Int32) (p1 : Int32) (p2 : Int32) (p3 : Int32) (p4 : Int32)  (h0 : Heap) (n0 : Nat) (Z0 : n0 ≤ h0.size) :
    MetFree l x (head1 (Jvm.Cond.code x code maxLocals ret :: ws) room_1) (fun a U => a = #[(.int p0), (.int p1), (.int p2), (.int p3), (.int p4)] ∧ Z.Warmed39 U.vm ∧ U.heap = h0) (fun _ _ _ _ _ => True) (fun _ U o U' => ∃ v L, o = .returned v ∧ Q0 Z p0 p1 p2 p3 p4 h0 n0 v U'.heap L ∧ FrameEnd U o U' L room_1.cells room_1.slots) := by
  rcases own_cases p2 with h0_ | h0_ | h0_ | h0_ | h0_
  · exact rm0_0 l Z a0 hw ws p0 p1 p2 p3 p4 h0 n0 Z0  h0_
  · exact rm0_1 l Z a0 hw ws p0 p1 p2 p3 p4 h0 n0 Z0  h0_
  · exact rm0_2 l Z a0 hw ws p0 p1 p2 p3 p4 h0 n0 Z0  h0_
  · exact rm0_3 l Z a0 hw ws p0 p1 p2 p3 p4 h0 n0 Z0  h0_
  · exact rm0_4 l Z a0 hw ws p0 p1 p2 p3 p4 h0 n0 Z0  h0_
set_option maxRecDepth 65536 in
set_option maxHeartbeats 40000000 in
theorem comes_1 {Post : Tables → Env → Array Value → State → Outcome → State → Prop} (hpost : ∀ tb e args s v u, (limb_1_1.after args s (.returned v) u = true ∧ limb_1_2.after args s (.returned v) u = true ∧ True) → FrameEnd s (.returned v) u (Jvm.fieldLocs frame_1_writes args s ++ Jvm.arrayLocs frame_1_arrays args s ++ Jvm.staticLocs frame_1_statics s) 16 128 → Post tb e args s (.returned v) u) :
    ArmFor flags0 classFile x code maxLocals ret World_1 tables_1 room_1 Calls_1 rest_1 Pre_1 Post := by
  intro l hfl _ _ p e ha hc hk s m args below hf hA hF happ hP
  obtain ⟨hcalls, hrest, hpre⟩ := hP
  obtain ⟨-, -, -, hnamed, -, -, -, hat⟩ := (Spec.applies_iff hf).mp happ
  obtain ⟨hg, hn⟩ := and_e (Cond.before_iff.mp (show (Jvm.Cond.and given_1 narrow_1).before args s = true from hpre))
  obtain ⟨g1, g2⟩ := and_e hg
  obtain ⟨g3, g4⟩ := and_e g2
  obtain ⟨g5, g6⟩ := and_e g4
  obtain ⟨g7, g8⟩ := and_e g6
  obtain ⟨g9, g10⟩ := and_e g8
  obtain ⟨w0, w1, w2, w3, w4, rfl⟩ : ∃ w0 w1 w2 w3 w4 : Value, args = #[w0, w1, w2, w3, w4] := by
    have hs : args.size = 5 := by simpa [Cond.value, given_1] using g1
    obtain ⟨L⟩ := args
    match L, hs with
    | [w0, w1, w2, w3, w4], _ => exact ⟨w0, w1, w2, w3, w4, rfl⟩
  have hw := fun d (hd : d ∈ tables_1) => atoms_spec (ws := Jvm.Cond.code x code maxLocals ret :: tables_1) hat d (List.mem_cons_of_mem _ hd)
  have hfit : Fit s := fun {y c} hc i hi => by
    obtain ⟨ha, rfl⟩ := Array.getElem?_eq_some_iff.mp hc
    have q := List.all_eq_true.mp ((Array.all_eq_true_iff_forall_mem.mp hF) _ (Array.getElem_mem ha)) i (List.mem_range.mpr hi)
    simpa [Array.getElem?_eq_getElem hi] using q
  obtain ⟨i0, ei0⟩ := is_v g3
  obtain rfl : w0 = (.int i0) := Option.some.inj ei0
  obtain ⟨i1, ei1⟩ := is_v g5
  obtain rfl : w1 = (.int i1) := Option.some.inj ei1
  obtain ⟨i2, ei2⟩ := is_v g7
  obtain rfl : w2 = (.int i2) := Option.some.inj ei2
  obtain ⟨i3, ei3⟩ := is_v g9
  obtain rfl : w3 = (.int i3) := Option.some.inj ei3
  obtain ⟨i4, ei4⟩ := is_v g10
  obtain rfl : w4 = (.int i4) := Option.some.inj ei4
  obtain ⟨n, o, h1, h2, h3, _, L, rfl, ⟨rfl, N⟩, hq⟩ := rm0 l s _ hw tables_1 i0 i1 i2 i3 i4 s.heap s.heap.size (Nat.le_refl _)  p e ha hc hk s m _ below hf ((Spec.applies_iff_loose hf).mp happ).1 ⟨rfl, State.Warmed39.refl s, rfl⟩ trivial
  refine ⟨n, _, h1, h2, h3, hpost _ _ _ _ _ _ ⟨Cond.after_iff.mpr rfl, Cond.after_iff.mpr (eq_i res_at (Term.int_eval (1)) rfl), trivial⟩ ⟨hq.1, hq.2.1, (hq.2.2.sift fun y hy => Or.inr (N y hy)).mono (by decide) (by decide)⟩⟩
theorem main_1_1 : Claimed_1_1 := comes_1 fun _ _ _ _ _ _ h hF => ⟨h.1, hF⟩
theorem main_1_2 : Claimed_1_2 := comes_1 fun _ _ _ _ _ _ h hF => ⟨h.2.1, hF⟩
end Jvm.Pilot.@@N@@
namespace Jvm.Pilot.@@N@@
open Jvm Jvm.ClassFile Sem Op Lib Jvm.Free Jvm.Stand Jvm.Pilot.@@N@@.Jvm.D
/-! MADE BY PROGRAM (witnessworld.py) out of the Statement's table words and the real class files: 12 classes; the members and pool entries that the words name. The judged class is class 1, her method 1. -/
namespace start1
open Jvm.ClassFile
def u (s : String) : CpInfo := .utf8 (stringToUtf16 s)
/-- a pool by its gaps: so many unusable entries, then the entry; so many at the end -/
def gap : Nat → List CpInfo → List CpInfo
  | 0, r => r
  | n + 1, r => .unusable :: gap n r
def poolList (es : List (Nat × CpInfo)) (last : Nat) : List CpInfo := es.foldr (fun e r => gap e.1 (e.2 :: r)) (gap last [])
def pool (es : List (Nat × CpInfo)) (last : Nat) : Array CpInfo := ⟨poolList es last⟩
def fileOf (pool : Array CpInfo) (this : Nat) (attrs : Array Attribute := #[]) (ms : Array MethodInfo := #[]) (fl : Nat := 33) (sup : Nat := 0) (ifs : Array Nat := #[]) (fds : Array FieldInfo := #[]) : ClassFile where
  minorVersion := 0
  majorVersion := 65
  constantPool := pool
  accessFlags := fl
  thisClass := this
  superClass := sup
  interfaces := ifs
  fields := fds
  methods := ms
  attributes := attrs
def plain (name : String) (sup : Option ClassId) : Class where
  name := name
  kind := .ordinary
  loader := none
  accessFlags := 33
  super := sup
  interfaces := #[]
  cf := none
  fields := #[]
  methods := #[]
  instanceTypes := #[]
  staticTypes := #[]
  resolved := #[]
  callSites := []
  init := .initialized
  statics := none
  mirror := none

def pool0 : Array CpInfo := pool [(5, u "<init>"), (0, u "()V"), (1, .class_ 10), (1, u "java/lang/Object")] 113

def k0c0 : Code := { maxStack := 0, maxLocals := 1, code := object_method_1_code, exceptionTable := #[], attributes := #[] }
def k0m0 : Method := { name := "<init>", desc := "()V", sig := { parameters := [], returnType := none }, accessFlags := 1, code := some k0c0 }
/-- java/lang/Object -/
def k0 : Class := { plain "java/lang/Object" none with
  accessFlags := 33
  interfaces := #[]
  cf := some (fileOf pool0 8 #[] #[{ accessFlags := 1, nameIndex := 5, descriptorIndex := 6, attributes := #[] }] 33 0 #[] #[])
  fields := #[]
  methods := #[k0m0]
  instanceTypes := #[]
  staticTypes := #[]
  resolved := Array.replicate 124 none
  statics := none }

def pool1 : Array CpInfo := pool [(2, .class_ 4), (1, u "java/lang/Object"), (0, u "<init>"), (0, u "()V"), (0, .methodref 8 9), (0, .class_ 10), (0, .nameAndType 11 12), (0, u "com/example/oceanus/oceanus/analysis/LinearIsConstantPinLaw"), (0, u "entry"), (0, u "(III)D"), (0, .methodref 8 14), (0, .nameAndType 15 16), (0, u "make"), (0, u "(IDDDD)[D"), (0, .class_ 18), (0, u "com/example/oceanus/oceanus/analysis/RoundingSpanArithmetic$Linear"), (0, .methodref 17 20), (0, .nameAndType 5 21), (0, u "([D[D)V"), (0, .methodref 17 23), (0, .nameAndType 24 25), (0, u "isConstant"), (0, u "()Z"), (2, u "law"), (0, u "(IIIII)Z")] 9

def k1m0 : Method := { name := "<init>", desc := "()V", sig := { parameters := [], returnType := none }, accessFlags := 1, code := none }
def k1c1 : Code := { maxStack := 9, maxLocals := 26, code := code, exceptionTable := #[], attributes := #[] }
def k1m1 : Method := { name := "law", desc := "(IIIII)Z", sig := { parameters := [.int, .int, .int, .int, .int], returnType := some .boolean }, accessFlags := 9, code := some k1c1 }
def k1c2 : Code := { maxStack := 2, maxLocals := 3, code := method_3_code, exceptionTable := #[], attributes := #[] }
def k1m2 : Method := { name := "entry", desc := "(III)D", sig := { parameters := [.int, .int, .int], returnType := some .double }, accessFlags := 10, code := some k1c2 }
def k1c3 : Code := { maxStack := 4, maxLocals := 10, code := method_4_code, exceptionTable := #[], attributes := #[] }
def k1m3 : Method := { name := "make", desc := "(IDDDD)[D", sig := { parameters := [.int, .double, .double, .double, .double], returnType := some (.array .double) }, accessFlags := 10, code := some k1c3 }
/-- com/example/oceanus/oceanus/analysis/LinearIsConstantPinLaw -/
def k1 : Class := { plain "com/example/oceanus/oceanus/analysis/LinearIsConstantPinLaw" (some 0) with
  accessFlags := 49
  interfaces := #[]
  cf := some (fileOf pool1 8 #[] #[{ accessFlags := 1, nameIndex := 5, descriptorIndex := 6, attributes := #[] }, { accessFlags := 9, nameIndex := 28, descriptorIndex := 29, attributes := #[] }, { accessFlags := 10, nameIndex := 11, descriptorIndex := 12, attributes := #[] }, { accessFlags := 10, nameIndex := 15, descriptorIndex := 16, attributes := #[] }] 49 2 #[] #[])
  fields := #[]
  methods := #[k1m0, k1m1, k1m2, k1m3]
  instanceTypes := #[]
  staticTypes := #[]
  resolved := Array.replicate 39 none
  statics := none }

def pool2 : Array CpInfo := pool [(1, .methodref 2 3), (0, .class_ 4), (0, .nameAndType 5 6), (0, u "java/lang/Object"), (0, u "<init>"), (0, u "()V"), (0, .class_ 8), (0, u "java/lang/Record")] 13

def k2c0 : Code := { maxStack := 1, maxLocals := 1, code := jdk_30_method_1_code, exceptionTable := #[], attributes := #[] }
def k2m0 : Method := { name := "<init>", desc := "()V", sig := { parameters := [], returnType := none }, accessFlags := 4, code := some k2c0 }
/-- java/lang/Record -/
def k2 : Class := { plain "java/lang/Record" (some 0) with
  accessFlags := 1057
  interfaces := #[]
  cf := some (fileOf pool2 7 #[] #[{ accessFlags := 4, nameIndex := 5, descriptorIndex := 6, attributes := #[] }] 1057 2 #[] #[])
  fields := #[]
  methods := #[k2m0]
  instanceTypes := #[]
  staticTypes := #[]
  resolved := Array.replicate 22 none
  statics := none }

def pool3 : Array CpInfo := pool [(1, .methodref 2 3), (0, .class_ 4), (0, .nameAndType 5 6), (0, u "java/lang/Record"), (0, u "<init>"), (0, u "()V"), (0, .fieldref 8 9), (0, .class_ 10), (0, .nameAndType 11 12), (0, u "com/example/oceanus/oceanus/analysis/RoundingSpanArithmetic$Linear"), (0, u "lows"), (0, u "[D"), (0, .fieldref 8 14), (0, .nameAndType 15 12), (0, u "highs"), (7, u "([D[D)V"), (1, .class_ 27), (1, u "com/example/oceanus/oceanus/analysis/RoundingSpanArithmetic"), (47, u "isConstant"), (0, u "()Z")] 29

def k3c0 : Code := { maxStack := 2, maxLocals := 3, code := prog_23_method_1_code, exceptionTable := #[], attributes := #[] }
def k3m0 : Method := { name := "<init>", desc := "([D[D)V", sig := { parameters := [(.array .double), (.array .double)], returnType := none }, accessFlags := 0, code := some k3c0 }
def k3c1 : Code := { maxStack := 4, maxLocals := 3, code := prog_23_method_6_code, exceptionTable := #[], attributes := #[] }
def k3m1 : Method := { name := "isConstant", desc := "()Z", sig := { parameters := [], returnType := some .boolean }, accessFlags := 0, code := some k3c1 }
/-- com/example/oceanus/oceanus/analysis/RoundingSpanArithmetic$Linear -/
def k3 : Class := { plain "com/example/oceanus/oceanus/analysis/RoundingSpanArithmetic$Linear" (some 2) with
  accessFlags := 48
  interfaces := #[]
  cf := some (fileOf pool3 8 #[.nestHost 25] #[{ accessFlags := 0, nameIndex := 5, descriptorIndex := 23, attributes := #[] }, { accessFlags := 0, nameIndex := 75, descriptorIndex := 76, attributes := #[] }] 48 2 #[] #[{ accessFlags := 18, nameIndex := 11, descriptorIndex := 12, attributes := #[] }, { accessFlags := 18, nameIndex := 15, descriptorIndex := 12, attributes := #[] }])
  fields := #[{ name := "lows", type := (.array .double), accessFlags := 18, slot := 0, constantValue := 0 }, { name := "highs", type := (.array .double), accessFlags := 18, slot := 1, constantValue := 0 }]
  methods := #[k3m0, k3m1]
  instanceTypes := #[(.array .double), (.array .double)]
  staticTypes := #[]
  resolved := Array.replicate 106 none
  statics := none }

def pool4 : Array CpInfo := pool [(1, u "java/lang/Cloneable"), (0, .class_ 1), (0, u "java/lang/Object"), (0, .class_ 3)] 3

/-- java/lang/Cloneable -/
def k4 : Class := { plain "java/lang/Cloneable" (some 0) with
  accessFlags := 1537
  interfaces := #[]
  cf := some (fileOf pool4 2 #[] #[] 1537 4 #[] #[])
  fields := #[]
  methods := #[]
  instanceTypes := #[]
  staticTypes := #[]
  resolved := Array.replicate 8 none
  statics := none }

def pool5 : Array CpInfo := pool [(1, u "java/io/Serializable"), (0, .class_ 1), (0, u "java/lang/Object"), (0, .class_ 3)] 3

/-- java/io/Serializable -/
def k5 : Class := { plain "java/io/Serializable" (some 0) with
  accessFlags := 1537
  interfaces := #[]
  cf := some (fileOf pool5 2 #[] #[] 1537 4 #[] #[])
  fields := #[]
  methods := #[]
  instanceTypes := #[]
  staticTypes := #[]
  resolved := Array.replicate 8 none
  statics := none }

/-- the primitive byte -/
def k6 : Class := { plain "byte" none with kind := .primitive 'B', accessFlags := 0x411 }
/-- [B -/
def k7 : Class := { plain "[B" (some 0) with kind := .array 6 .byte, interfaces := #[4, 5], accessFlags := 1041 }

/-- the primitive double -/
def k8 : Class := { plain "double" none with kind := .primitive 'D', accessFlags := 0x411 }
/-- [D -/
def k9 : Class := { plain "[D" (some 0) with kind := .array 8 .double, interfaces := #[4, 5], accessFlags := 1041 }

/-- the primitive int -/
def k10 : Class := { plain "int" none with kind := .primitive 'I', accessFlags := 0x411 }
/-- [I -/
def k11 : Class := { plain "[I" (some 0) with kind := .array 10 .int, interfaces := #[4, 5], accessFlags := 1041 }

def heap : Heap := #[]
def classes : Array Class := #[k0, k1, k2, k3, k4, k5, k6, k7, k8, k9, k10, k11]
def interned : List (Array UInt16 × Addr) := []
def slotsUsed : Nat := 0
def theMethod : MethodId := ⟨1, 1⟩
def args0 : Array Value := #[.int 5, .int 5, .int 5, .int 5, .int 5]
def aboutOver (below : List Frame) : State where
  vm := { classes := classes, interned := interned.toArray }
  heap := heap
  slotsUsed := slotsUsed
  threads := #[{ frames := .invoking theMethod args0 :: below }]
def below0 : List Frame := [.native { method := ⟨0, 0⟩, args := #[] }]
def about1 : State := aboutOver below0
def p0 : Program := .bare "" "" ""
def e0 : Env := launch0.env 0 0 0
theorem w_frames : about1.frames = Frame.invoking theMethod args0 :: below0 := rfl
set_option maxRecDepth 65536 in
theorem w_args : argsFit about1.vm theMethod args0 = true := by decide +kernel
set_option maxRecDepth 65536 in
theorem w_heap : heapFits about1 = true := by decide +kernel
set_option maxRecDepth 65536 in
theorem w_runnable : about1.curStatus? = some .runnable := by decide +kernel
set_option maxRecDepth 65536 in
theorem w_alone : about1.alone = true := by decide +kernel
set_option maxRecDepth 65536 in
theorem w_named : about1.methodNamed? x = some theMethod := by decide +kernel
set_option maxRecDepth 65536 in
theorem w_hears : about1.hears theMethod below0 = true := by decide +kernel
set_option maxRecDepth 65536 in
theorem w_ripe : about1.ripe theMethod args0 below0 = true := by decide +kernel
theorem w_running : about1.status = .running := rfl
set_option maxRecDepth 65536 in
theorem w_room : about1.hasRoom e0.platform room_1 = true :=
  launch0.hasRoom_least _ room_1 (by decide +kernel) (by decide +kernel) (by decide +kernel) (by decide +kernel) (by decide +kernel) (by decide +kernel)
theorem allAtoms_all (ts : List Jvm.Cond) (a : Array Jvm.Value) (st : Jvm.State) : (allAtoms ts).before a st = ts.all (fun c => c.before a st) := by
  induction ts with
  | nil => rfl
  | cons c t ih =>
    show (Jvm.Cond.and c (allAtoms t)).before a st = _
    rw [Jvm.Cond.before_and, ih, List.all_cons]
def words1 : List Jvm.Cond := Jvm.Cond.code x code maxLocals ret :: tables_1
/-- a 'code' word, met by the world's own term for the bytes: nothing is compared byte by byte -/
theorem code_word {y : MethodName} {bytes : ByteArray} {mx : Nat} {rt : Option FieldType} {a : Array Value} {s : State} {m : MethodId} {meth : Method} {c : Code} (h1 : s.methodNamed? y = some m) (h2 : s.vm.method? m = some meth) (h3 : meth.code = some c) (h4 : c.code = bytes)
    (h5 : (c.maxLocals == mx && c.exceptionTable.isEmpty && decide (c.maxStack ≤ mostOperands) && decide (meth.sig.returnType = rt) && !meth.locks && decide (parseMethodDescriptor y.desc = some meth.sig)) = true) : (Jvm.Cond.code y bytes mx rt).before a s = true := by
  simp only [Bool.and_eq_true, beq_iff_eq, Bool.not_eq_true', decide_eq_true_eq] at h5
  obtain ⟨⟨⟨⟨⟨g1, g2⟩, g3⟩, g4⟩, g5⟩, g6⟩ := h5
  simp [Cond.before, Cond.holds, Cond.value, h1, h2, h3, h4, g1, g2, g3, g4, g5, g6]
def isCode : Jvm.Cond → Bool
  | .code _ _ _ _ => true
  | _ => false
theorem all_split {L : List Jvm.Cond} {P : Jvm.Cond → Bool} (h1 : L.all (fun c => isCode c || P c) = true) (h2 : ∀ c ∈ L.filter isCode, P c = true) : L.all P = true := by
  refine List.all_eq_true.mpr fun c hc => ?_
  have h := List.all_eq_true.mp h1 c hc
  rcases Bool.eq_false_or_eq_true (isCode c) with hi | hi
  · exact h2 c (List.mem_filter.mpr ⟨hc, hi⟩)
  · simpa [hi] using h
set_option maxRecDepth 65536 in
theorem w_c0 : (Jvm.Cond.code x code maxLocals ret).before args0 about1 = true := code_word (m := ⟨1, 1⟩) (meth := k1m1) (c := k1c1) (by decide +kernel) rfl rfl rfl (by decide +kernel)
set_option maxRecDepth 65536 in
theorem w_c1 : (Jvm.Cond.code ({ cls := "com/example/oceanus/oceanus/analysis/LinearIsConstantPinLaw", name := "entry", desc := "(III)D" } : Jvm.MethodName) method_3_code (3 : Nat) (Option.some Jvm.ClassFile.FieldType.double)).before args0 about1 = true := code_word (m := ⟨1, 2⟩) (meth := k1m2) (c := k1c2) (by decide +kernel) rfl rfl rfl (by decide +kernel)
set_option maxRecDepth 65536 in
theorem w_c2 : (Jvm.Cond.code ({ cls := "com/example/oceanus/oceanus/analysis/LinearIsConstantPinLaw", name := "make", desc := "(IDDDD)[D" } : Jvm.MethodName) method_4_code (10 : Nat) (Option.some (Jvm.ClassFile.FieldType.array Jvm.ClassFile.FieldType.double))).before args0 about1 = true := code_word (m := ⟨1, 3⟩) (meth := k1m3) (c := k1c3) (by decide +kernel) rfl rfl rfl (by decide +kernel)
set_option maxRecDepth 65536 in
theorem w_c3 : (Jvm.Cond.code ({ cls := "com/example/oceanus/oceanus/analysis/RoundingSpanArithmetic$Linear", name := "<init>", desc := "([D[D)V" } : Jvm.MethodName) prog_23_method_1_code (3 : Nat) (Option.none : Option Jvm.ClassFile.FieldType)).before args0 about1 = true := code_word (m := ⟨3, 0⟩) (meth := k3m0) (c := k3c0) (by decide +kernel) rfl rfl rfl (by decide +kernel)
set_option maxRecDepth 65536 in
theorem w_c4 : (Jvm.Cond.code ({ cls := "java/lang/Record", name := "<init>", desc := "()V" } : Jvm.MethodName) jdk_30_method_1_code (1 : Nat) (Option.none : Option Jvm.ClassFile.FieldType)).before args0 about1 = true := code_word (m := ⟨2, 0⟩) (meth := k2m0) (c := k2c0) (by decide +kernel) rfl rfl rfl (by decide +kernel)
set_option maxRecDepth 65536 in
theorem w_c5 : (Jvm.Cond.code ({ cls := "java/lang/Object", name := "<init>", desc := "()V" } : Jvm.MethodName) object_method_1_code (1 : Nat) (Option.none : Option Jvm.ClassFile.FieldType)).before args0 about1 = true := code_word (m := ⟨0, 0⟩) (meth := k0m0) (c := k0c0) (by decide +kernel) rfl rfl rfl (by decide +kernel)
set_option maxRecDepth 65536 in
theorem w_c6 : (Jvm.Cond.code ({ cls := "com/example/oceanus/oceanus/analysis/RoundingSpanArithmetic$Linear", name := "isConstant", desc := "()Z" } : Jvm.MethodName) prog_23_method_6_code (3 : Nat) (Option.some Jvm.ClassFile.FieldType.boolean)).before args0 about1 = true := code_word (m := ⟨3, 1⟩) (meth := k3m1) (c := k3c1) (by decide +kernel) rfl rfl rfl (by decide +kernel)
def codes1 : List Jvm.Cond := [Jvm.Cond.code x code maxLocals ret, Jvm.Cond.code ({ cls := "com/example/oceanus/oceanus/analysis/LinearIsConstantPinLaw", name := "entry", desc := "(III)D" } : Jvm.MethodName) method_3_code (3 : Nat) (Option.some Jvm.ClassFile.FieldType.double), Jvm.Cond.code ({ cls := "com/example/oceanus/oceanus/analysis/LinearIsConstantPinLaw", name := "make", desc := "(IDDDD)[D" } : Jvm.MethodName) method_4_code (10 : Nat) (Option.some (Jvm.ClassFile.FieldType.array Jvm.ClassFile.FieldType.double)), Jvm.Cond.code ({ cls := "com/example/oceanus/oceanus/analysis/RoundingSpanArithmetic$Linear", name := "<init>", desc := "([D[D)V" } : Jvm.MethodName) prog_23_method_1_code (3 : Nat) (Option.none : Option Jvm.ClassFile.FieldType), Jvm.Cond.code ({ cls := "java/lang/Record", name := "<init>", desc := "()V" } : Jvm.MethodName) jdk_30_method_1_code (1 : Nat) (Option.none : Option Jvm.ClassFile.FieldType), Jvm.Cond.code ({ cls := "java/lang/Object", name := "<init>", desc := "()V" } : Jvm.MethodName) object_method_1_code (1 : Nat) (Option.none : Option Jvm.ClassFile.FieldType), Jvm.Cond.code ({ cls := "com/example/oceanus/oceanus/analysis/RoundingSpanArithmetic$Linear", name := "isConstant", desc := "()Z" } : Jvm.MethodName) prog_23_method_6_code (3 : Nat) (Option.some Jvm.ClassFile.FieldType.boolean)]
set_option maxRecDepth 65536 in
theorem codes_eq : words1.filter isCode = codes1 := rfl
theorem w_codes : ∀ c ∈ words1.filter isCode, c.before args0 about1 = true := by
  rw [codes_eq]
  intro c hc
  simp only [codes1, List.mem_cons, List.not_mem_nil, or_false] at hc
  rcases hc with rfl | rfl | rfl | rfl | rfl | rfl | rfl
  · exact w_c0
  · exact w_c1
  · exact w_c2
  · exact w_c3
  · exact w_c4
  · exact w_c5
  · exact w_c6
set_option maxRecDepth 65536 in
theorem w_t1 : (words1.take 24).all (fun c => isCode c || c.before args0 about1) = true := by decide +kernel
set_option maxRecDepth 65536 in
theorem w_t2 : (words1.drop 24).all (fun c => isCode c || c.before args0 about1) = true := by decide +kernel
theorem w_tables : (allAtoms (Jvm.Cond.code x code maxLocals ret :: tables_1)).before args0 about1 = true := by
  rw [allAtoms_all]
  show words1.all (fun c => c.before args0 about1) = true
  refine all_split ?_ w_codes
  rw [← List.take_append_drop 24 words1, List.all_append, w_t1, w_t2]
  rfl
set_option maxRecDepth 65536 in
theorem w_case : (Jvm.Cond.and given_1 narrow_1).before args0 about1 = true := by decide +kernel
theorem w_applies : (headSpec (Jvm.Cond.code x code maxLocals ret :: tables_1) room_1).applies x e0.platform about1 = true :=
  (Spec.applies_iff w_frames).mpr ⟨w_running, w_runnable, w_alone, w_named, w_hears, w_ripe, w_room, w_tables⟩
theorem atStart : AtStart classFile x code maxLocals ret World_1 tables_1 room_1 Calls_1 rest_1 Pre_1 launch0 p0 e0 about1 theMethod args0 below0 :=
  ⟨lists_1, trivial, launch0.admits_env _ _ _, launch0.least_env, fairChoices_fair.cas, fairChoices_fair.clock, w_frames, w_args, w_heap, w_applies, trivial, trivial, w_case⟩
end start1
theorem witness_1 : WitnessClaimed_1 := ⟨start1.p0, start1.e0, start1.about1, start1.theMethod, start1.args0, start1.below0, start1.atStart⟩
end Jvm.Pilot.@@N@@
