import JvmDerived
import JvmDerived.Pilot.@@N@@Statement
import JvmDerived.Pilot.@@N@@Code
set_option linter.unusedVariables false
set_option linter.unusedSimpArgs false
namespace Jvm.RoadKit
open Sem ClassFile Op Lib Jvm.Stand Jvm.Free Jvm.LawKit
theorem own_getDI (L : List Int32) (i : Nat) (d : Int32) : (L.map Value.int).getD i (.int d) = .int (L.getD i d) := by simp [List.getD, List.getElem?_map]
theorem own_getDJ (L : List Int64) (i : Nat) (d : Int64) : (L.map Value.long).getD i (.long d) = .long (L.getD i d) := by simp [List.getD, List.getElem?_map]
theorem own_getDD (L : List UInt64) (i : Nat) (d : UInt64) : (L.map Value.double).getD i (.double d) = .double (L.getD i d) := by simp [List.getD, List.getElem?_map]
end Jvm.RoadKit
@@BLOCK:NumsL.lean.txt@@
namespace Jvm.OwnSt
open Sem ClassFile Op Lib Jvm.Free Jvm.Stand Jvm.RoadKit
abbrev lv (x : Int64) : Slot := .val (.long x)
abbrev dv (x : UInt64) : Slot := .val (.double x)
def Gd (tb : Tables) (T : State) (m : MethodId) (c : Code) (below : List Frame) (code : ByteArray) : Prop := At T m c below ∧ tb.exec = Jvm.exec ∧ c.code = code
theorem gd {p : Program} {l : Launch} {e : Env} {R : Room} {s : State} {m : MethodId} {args : Array Value} {below : List Frame} {meth : Method} {c : Code} {T : State} {locs : List Loc} {cells slots : Nat} {code : ByteArray} (X : Stand p l e R s m args below meth c T locs cells slots) (hx : p.tables.exec = Jvm.exec) (hby : c.code = code) : Gd p.tables T m c below code := ⟨X.here, hx, hby⟩
section Steps
variable {tb : Tables} [Ours tb] {e : Env} {below : List Frame} {T target : State} {m : MethodId} {c : Code} {pc : Nat} {L L' : Array Slot} {S : List Value} {code : ByteArray}
theorem miload (pc' : Nat) (G : Gd tb T m c below code) {k : Nat} {v : Int32} (hd : decode code pc = .ok (.iload k, 2)) (hl : L[k]? = some (.val (.int v))) (hp : pc + 2 = pc') (hr : Steps tb e below (T.setTop (mkF m pc' L (.int v :: S))) target) : Steps tb e below (T.setTop (mkF m pc L S)) target := by
  subst hp; exact XS.iload G.1 G.2.1 rfl (hb G.2.2 hd) hl hr
theorem miloadN (pc' : Nat) (G : Gd tb T m c below code) {k : Fin 4} {v : Int32} (hd : decode code pc = .ok (.iload_n k, 1)) (hl : L[k.val]? = some (.val (.int v))) (hp : pc + 1 = pc') (hr : Steps tb e below (T.setTop (mkF m pc' L (.int v :: S))) target) : Steps tb e below (T.setTop (mkF m pc L S)) target := by
  subst hp; exact XS.iloadN G.1 G.2.1 rfl (hb G.2.2 hd) hl hr
theorem mistore (pc' : Nat) (G : Gd tb T m c below code) {k : Nat} {x : Int32} (hd : decode code pc = .ok (.istore k, 2)) (L' : Array Slot) (hl : storeLocals L k (.int x) = some L') (hp : pc + 2 = pc') (hr : Steps tb e below (T.setTop (mkF m pc' L' S)) target) : Steps tb e below (T.setTop (mkF m pc L (.int x :: S))) target := by
  subst hp; exact XS.istore G.1 G.2.1 rfl (hb G.2.2 hd) rfl hl hr
theorem mistoreN (pc' : Nat) (G : Gd tb T m c below code) {k : Fin 4} {x : Int32} (hd : decode code pc = .ok (.istore_n k, 1)) (L' : Array Slot) (hl : storeLocals L k.val (.int x) = some L') (hp : pc + 1 = pc') (hr : Steps tb e below (T.setTop (mkF m pc' L' S)) target) : Steps tb e below (T.setTop (mkF m pc L (.int x :: S))) target := by
  subst hp; exact XS.istoreN G.1 G.2.1 rfl (hb G.2.2 hd) rfl hl hr
theorem mlload (pc' : Nat) (G : Gd tb T m c below code) {k : Nat} {v : Int64} (hd : decode code pc = .ok (.lload k, 2)) (hl : L[k]? = some (.val (.long v))) (hp : pc + 2 = pc') (hr : Steps tb e below (T.setTop (mkF m pc' L (.long v :: S))) target) : Steps tb e below (T.setTop (mkF m pc L S)) target := by
  subst hp; exact XS.lload G.1 G.2.1 rfl (hb G.2.2 hd) hl hr
theorem mlloadN (pc' : Nat) (G : Gd tb T m c below code) {k : Fin 4} {v : Int64} (hd : decode code pc = .ok (.lload_n k, 1)) (hl : L[k.val]? = some (.val (.long v))) (hp : pc + 1 = pc') (hr : Steps tb e below (T.setTop (mkF m pc' L (.long v :: S))) target) : Steps tb e below (T.setTop (mkF m pc L S)) target := by
  subst hp; exact XS.lloadN G.1 G.2.1 rfl (hb G.2.2 hd) hl hr
theorem mlstore (pc' : Nat) (G : Gd tb T m c below code) {k : Nat} {x : Int64} (hd : decode code pc = .ok (.lstore k, 2)) (L' : Array Slot) (hl : storeLocals L k (.long x) = some L') (hp : pc + 2 = pc') (hr : Steps tb e below (T.setTop (mkF m pc' L' S)) target) : Steps tb e below (T.setTop (mkF m pc L (.long x :: S))) target := by
  subst hp; exact XS.lstore G.1 G.2.1 rfl (hb G.2.2 hd) rfl hl hr
theorem mlstoreN (pc' : Nat) (G : Gd tb T m c below code) {k : Fin 4} {x : Int64} (hd : decode code pc = .ok (.lstore_n k, 1)) (L' : Array Slot) (hl : storeLocals L k.val (.long x) = some L') (hp : pc + 1 = pc') (hr : Steps tb e below (T.setTop (mkF m pc' L' S)) target) : Steps tb e below (T.setTop (mkF m pc L (.long x :: S))) target := by
  subst hp; exact XS.lstoreN G.1 G.2.1 rfl (hb G.2.2 hd) rfl hl hr
theorem mdload (pc' : Nat) (G : Gd tb T m c below code) {k : Nat} {v : UInt64} (hd : decode code pc = .ok (.dload k, 2)) (hl : L[k]? = some (.val (.double v))) (hp : pc + 2 = pc') (hr : Steps tb e below (T.setTop (mkF m pc' L (.double v :: S))) target) : Steps tb e below (T.setTop (mkF m pc L S)) target := by
  subst hp; exact XS.dload G.1 G.2.1 rfl (hb G.2.2 hd) hl hr
theorem mdloadN (pc' : Nat) (G : Gd tb T m c below code) {k : Fin 4} {v : UInt64} (hd : decode code pc = .ok (.dload_n k, 1)) (hl : L[k.val]? = some (.val (.double v))) (hp : pc + 1 = pc') (hr : Steps tb e below (T.setTop (mkF m pc' L (.double v :: S))) target) : Steps tb e below (T.setTop (mkF m pc L S)) target := by
  subst hp; exact XS.dloadN G.1 G.2.1 rfl (hb G.2.2 hd) hl hr
theorem mdstore (pc' : Nat) (G : Gd tb T m c below code) {k : Nat} {x : UInt64} (hd : decode code pc = .ok (.dstore k, 2)) (L' : Array Slot) (hl : storeLocals L k (.double x) = some L') (hp : pc + 2 = pc') (hr : Steps tb e below (T.setTop (mkF m pc' L' S)) target) : Steps tb e below (T.setTop (mkF m pc L (.double x :: S))) target := by
  subst hp; exact XS.dstore G.1 G.2.1 rfl (hb G.2.2 hd) rfl hl hr
theorem mdstoreN (pc' : Nat) (G : Gd tb T m c below code) {k : Fin 4} {x : UInt64} (hd : decode code pc = .ok (.dstore_n k, 1)) (L' : Array Slot) (hl : storeLocals L k.val (.double x) = some L') (hp : pc + 1 = pc') (hr : Steps tb e below (T.setTop (mkF m pc' L' S)) target) : Steps tb e below (T.setTop (mkF m pc L (.double x :: S))) target := by
  subst hp; exact XS.dstoreN G.1 G.2.1 rfl (hb G.2.2 hd) rfl hl hr
theorem maload (pc' : Nat) (G : Gd tb T m c below code) {k : Nat} {v : Value} (hd : decode code pc = .ok (.aload k, 2)) (hl : L[k]? = some (.val v)) (hv : v.isRef = true) (hp : pc + 2 = pc') (hr : Steps tb e below (T.setTop (mkF m pc' L (v :: S))) target) : Steps tb e below (T.setTop (mkF m pc L S)) target := by
  subst hp; exact XS.aload G.1 G.2.1 rfl (hb G.2.2 hd) hl hv hr
theorem maloadN (pc' : Nat) (G : Gd tb T m c below code) {k : Fin 4} {v : Value} (hd : decode code pc = .ok (.aload_n k, 1)) (hl : L[k.val]? = some (.val v)) (hv : v.isRef = true) (hp : pc + 1 = pc') (hr : Steps tb e below (T.setTop (mkF m pc' L (v :: S))) target) : Steps tb e below (T.setTop (mkF m pc L S)) target := by
  subst hp; exact XS.aloadN G.1 G.2.1 rfl (hb G.2.2 hd) hl hv hr
theorem mastore (pc' : Nat) (G : Gd tb T m c below code) {k : Nat} {x : Value} (hd : decode code pc = .ok (.astore k, 2)) (hv : x.isRef = true) (L' : Array Slot) (hl : storeLocals L k x = some L') (hp : pc + 2 = pc') (hr : Steps tb e below (T.setTop (mkF m pc' L' S)) target) : Steps tb e below (T.setTop (mkF m pc L (x :: S))) target := by
  subst hp; exact XS.astore G.1 G.2.1 rfl (hb G.2.2 hd) rfl hv hl hr
theorem mastoreN (pc' : Nat) (G : Gd tb T m c below code) {k : Fin 4} {x : Value} (hd : decode code pc = .ok (.astore_n k, 1)) (hv : x.isRef = true) (L' : Array Slot) (hl : storeLocals L k.val x = some L') (hp : pc + 1 = pc') (hr : Steps tb e below (T.setTop (mkF m pc' L' S)) target) : Steps tb e below (T.setTop (mkF m pc L (x :: S))) target := by
  subst hp; exact XS.astoreN G.1 G.2.1 rfl (hb G.2.2 hd) rfl hv hl hr
theorem miconst (pc' : Nat) (G : Gd tb T m c below code) {i : Int} {v : Int32} (hd : decode code pc = .ok (.iconst i, 1)) (hv : Int32.ofInt i = v) (hp : pc + 1 = pc') (hr : Steps tb e below (T.setTop (mkF m pc' L (.int v :: S))) target) : Steps tb e below (T.setTop (mkF m pc L S)) target := by
  subst hp; subst hv; exact XS.iconst G.1 G.2.1 rfl (hb G.2.2 hd) hr
theorem mbipush (pc' : Nat) (G : Gd tb T m c below code) {i : Int} {v : Int32} (hd : decode code pc = .ok (.bipush i, 2)) (hv : (Int8.ofInt i).toInt32 = v) (hp : pc + 2 = pc') (hr : Steps tb e below (T.setTop (mkF m pc' L (.int v :: S))) target) : Steps tb e below (T.setTop (mkF m pc L S)) target := by
  subst hp; subst hv; exact XS.bipush G.1 G.2.1 rfl (hb G.2.2 hd) hr
theorem msipush (pc' : Nat) (G : Gd tb T m c below code) {i : Int} {v : Int32} (hd : decode code pc = .ok (.sipush i, 3)) (hv : (Int16.ofInt i).toInt32 = v) (hp : pc + 3 = pc') (hr : Steps tb e below (T.setTop (mkF m pc' L (.int v :: S))) target) : Steps tb e below (T.setTop (mkF m pc L S)) target := by
  subst hp; subst hv; exact XS.sipush G.1 G.2.1 rfl (hb G.2.2 hd) hr
theorem mlconst (pc' : Nat) (G : Gd tb T m c below code) {k : Fin 2} {v : Int64} (hd : decode code pc = .ok (.lconst k, 1)) (hv : Int64.ofNat k = v) (hp : pc + 1 = pc') (hr : Steps tb e below (T.setTop (mkF m pc' L (.long v :: S))) target) : Steps tb e below (T.setTop (mkF m pc L S)) target := by
  subst hp; subst hv; exact XS.lconst G.1 G.2.1 rfl (hb G.2.2 hd) hr
theorem mdconst0 (pc' : Nat) (G : Gd tb T m c below code) {v : UInt64} (hd : decode code pc = .ok (.dconst 0, 1)) (hv : FP.dconst0 = v) (hp : pc + 1 = pc') (hr : Steps tb e below (T.setTop (mkF m pc' L (.double v :: S))) target) : Steps tb e below (T.setTop (mkF m pc L S)) target := by
  subst hp; exact XS.dconst0 G.1 G.2.1 rfl (hb G.2.2 hd) hv hr
theorem mdconst1 (pc' : Nat) (G : Gd tb T m c below code) {v : UInt64} (hd : decode code pc = .ok (.dconst 1, 1)) (hv : FP.dconst1 = v) (hp : pc + 1 = pc') (hr : Steps tb e below (T.setTop (mkF m pc' L (.double v :: S))) target) : Steps tb e below (T.setTop (mkF m pc L S)) target := by
  subst hp; exact XS.dconst1 G.1 G.2.1 rfl (hb G.2.2 hd) hv hr
theorem maconst_null (pc' : Nat) (G : Gd tb T m c below code)  (hd : decode code pc = .ok (.aconst_null, 1)) (hp : pc + 1 = pc') (hr : Steps tb e below (T.setTop (mkF m pc' L (.null :: S))) target) : Steps tb e below (T.setTop (mkF m pc L S)) target := by
  subst hp; exact XS.aconstNull G.1 G.2.1 rfl (hb G.2.2 hd)  hr
theorem miadd (pc' : Nat) (G : Gd tb T m c below code) {x : Int32} {y : Int32} {v : Int32} (hd : decode code pc = .ok (.iadd, 1)) (hv : x + y = v) (hp : pc + 1 = pc') (hr : Steps tb e below (T.setTop (mkF m pc' L (.int v :: S))) target) : Steps tb e below (T.setTop (mkF m pc L (.int y :: .int x :: S))) target := by
  subst hp; subst hv; exact XS.iadd G.1 G.2.1 rfl (hb G.2.2 hd) rfl  hr
theorem misub (pc' : Nat) (G : Gd tb T m c below code) {x : Int32} {y : Int32} {v : Int32} (hd : decode code pc = .ok (.isub, 1)) (hv : x - y = v) (hp : pc + 1 = pc') (hr : Steps tb e below (T.setTop (mkF m pc' L (.int v :: S))) target) : Steps tb e below (T.setTop (mkF m pc L (.int y :: .int x :: S))) target := by
  subst hp; subst hv; exact XS.isub G.1 G.2.1 rfl (hb G.2.2 hd) rfl  hr
theorem mimul (pc' : Nat) (G : Gd tb T m c below code) {x : Int32} {y : Int32} {v : Int32} (hd : decode code pc = .ok (.imul, 1)) (hv : x * y = v) (hp : pc + 1 = pc') (hr : Steps tb e below (T.setTop (mkF m pc' L (.int v :: S))) target) : Steps tb e below (T.setTop (mkF m pc L (.int y :: .int x :: S))) target := by
  subst hp; subst hv; exact XS.imul G.1 G.2.1 rfl (hb G.2.2 hd) rfl  hr
theorem miand (pc' : Nat) (G : Gd tb T m c below code) {x : Int32} {y : Int32} {v : Int32} (hd : decode code pc = .ok (.iand, 1)) (hv : x &&& y = v) (hp : pc + 1 = pc') (hr : Steps tb e below (T.setTop (mkF m pc' L (.int v :: S))) target) : Steps tb e below (T.setTop (mkF m pc L (.int y :: .int x :: S))) target := by
  subst hp; subst hv; exact XS.iand G.1 G.2.1 rfl (hb G.2.2 hd) rfl  hr
theorem mior (pc' : Nat) (G : Gd tb T m c below code) {x : Int32} {y : Int32} {v : Int32} (hd : decode code pc = .ok (.ior, 1)) (hv : x ||| y = v) (hp : pc + 1 = pc') (hr : Steps tb e below (T.setTop (mkF m pc' L (.int v :: S))) target) : Steps tb e below (T.setTop (mkF m pc L (.int y :: .int x :: S))) target := by
  subst hp; subst hv; exact XS.ior G.1 G.2.1 rfl (hb G.2.2 hd) rfl  hr
theorem mixor (pc' : Nat) (G : Gd tb T m c below code) {x : Int32} {y : Int32} {v : Int32} (hd : decode code pc = .ok (.ixor, 1)) (hv : x ^^^ y = v) (hp : pc + 1 = pc') (hr : Steps tb e below (T.setTop (mkF m pc' L (.int v :: S))) target) : Steps tb e below (T.setTop (mkF m pc L (.int y :: .int x :: S))) target := by
  subst hp; subst hv; exact XS.ixor G.1 G.2.1 rfl (hb G.2.2 hd) rfl  hr
theorem midiv (pc' : Nat) (G : Gd tb T m c below code) {x : Int32} {y : Int32} {v : Int32} (hd : decode code pc = .ok (.idiv, 1)) (hz : y ≠ 0) (hv : x / y = v) (hp : pc + 1 = pc') (hr : Steps tb e below (T.setTop (mkF m pc' L (.int v :: S))) target) : Steps tb e below (T.setTop (mkF m pc L (.int y :: .int x :: S))) target := by
  subst hp; subst hv; exact XS.idiv G.1 G.2.1 rfl (hb G.2.2 hd) rfl hz hr
theorem mladd (pc' : Nat) (G : Gd tb T m c below code) {x : Int64} {y : Int64} {v : Int64} (hd : decode code pc = .ok (.ladd, 1)) (hv : x + y = v) (hp : pc + 1 = pc') (hr : Steps tb e below (T.setTop (mkF m pc' L (.long v :: S))) target) : Steps tb e below (T.setTop (mkF m pc L (.long y :: .long x :: S))) target := by
  subst hp; subst hv; exact XS.ladd G.1 G.2.1 rfl (hb G.2.2 hd) rfl  hr
theorem mlsub (pc' : Nat) (G : Gd tb T m c below code) {x : Int64} {y : Int64} {v : Int64} (hd : decode code pc = .ok (.lsub, 1)) (hv : x - y = v) (hp : pc + 1 = pc') (hr : Steps tb e below (T.setTop (mkF m pc' L (.long v :: S))) target) : Steps tb e below (T.setTop (mkF m pc L (.long y :: .long x :: S))) target := by
  subst hp; subst hv; exact XS.lsub G.1 G.2.1 rfl (hb G.2.2 hd) rfl  hr
theorem mlmul (pc' : Nat) (G : Gd tb T m c below code) {x : Int64} {y : Int64} {v : Int64} (hd : decode code pc = .ok (.lmul, 1)) (hv : x * y = v) (hp : pc + 1 = pc') (hr : Steps tb e below (T.setTop (mkF m pc' L (.long v :: S))) target) : Steps tb e below (T.setTop (mkF m pc L (.long y :: .long x :: S))) target := by
  subst hp; subst hv; exact XS.lmul G.1 G.2.1 rfl (hb G.2.2 hd) rfl  hr
theorem mland (pc' : Nat) (G : Gd tb T m c below code) {x : Int64} {y : Int64} {v : Int64} (hd : decode code pc = .ok (.land, 1)) (hv : x &&& y = v) (hp : pc + 1 = pc') (hr : Steps tb e below (T.setTop (mkF m pc' L (.long v :: S))) target) : Steps tb e below (T.setTop (mkF m pc L (.long y :: .long x :: S))) target := by
  subst hp; subst hv; exact XS.land G.1 G.2.1 rfl (hb G.2.2 hd) rfl  hr
theorem mlor (pc' : Nat) (G : Gd tb T m c below code) {x : Int64} {y : Int64} {v : Int64} (hd : decode code pc = .ok (.lor, 1)) (hv : x ||| y = v) (hp : pc + 1 = pc') (hr : Steps tb e below (T.setTop (mkF m pc' L (.long v :: S))) target) : Steps tb e below (T.setTop (mkF m pc L (.long y :: .long x :: S))) target := by
  subst hp; subst hv; exact XS.lor G.1 G.2.1 rfl (hb G.2.2 hd) rfl  hr
theorem mlxor (pc' : Nat) (G : Gd tb T m c below code) {x : Int64} {y : Int64} {v : Int64} (hd : decode code pc = .ok (.lxor, 1)) (hv : x ^^^ y = v) (hp : pc + 1 = pc') (hr : Steps tb e below (T.setTop (mkF m pc' L (.long v :: S))) target) : Steps tb e below (T.setTop (mkF m pc L (.long y :: .long x :: S))) target := by
  subst hp; subst hv; exact XS.lxor G.1 G.2.1 rfl (hb G.2.2 hd) rfl  hr
theorem mldiv (pc' : Nat) (G : Gd tb T m c below code) {x : Int64} {y : Int64} {v : Int64} (hd : decode code pc = .ok (.ldiv, 1)) (hz : y ≠ 0) (hv : x / y = v) (hp : pc + 1 = pc') (hr : Steps tb e below (T.setTop (mkF m pc' L (.long v :: S))) target) : Steps tb e below (T.setTop (mkF m pc L (.long y :: .long x :: S))) target := by
  subst hp; subst hv; exact XS.ldiv G.1 G.2.1 rfl (hb G.2.2 hd) rfl hz hr
theorem mlrem (pc' : Nat) (G : Gd tb T m c below code) {x : Int64} {y : Int64} {v : Int64} (hd : decode code pc = .ok (.lrem, 1)) (hz : y ≠ 0) (hv : x - (x / y) * y = v) (hp : pc + 1 = pc') (hr : Steps tb e below (T.setTop (mkF m pc' L (.long v :: S))) target) : Steps tb e below (T.setTop (mkF m pc L (.long y :: .long x :: S))) target := by
  subst hp; subst hv; exact XS.lrem G.1 G.2.1 rfl (hb G.2.2 hd) rfl hz hr
theorem mirem (pc' : Nat) (G : Gd tb T m c below code) {x : Int32} {y : Int32} {v : Int32} (hd : decode code pc = .ok (.irem, 1)) (hz : y ≠ 0) (hv : x - (x / y) * y = v) (hp : pc + 1 = pc') (hr : Steps tb e below (T.setTop (mkF m pc' L (.int v :: S))) target) : Steps tb e below (T.setTop (mkF m pc L (.int y :: .int x :: S))) target := by
  subst hp; subst hv; exact XS.irem G.1 G.2.1 rfl (hb G.2.2 hd) rfl hz hr
theorem mishl (pc' : Nat) (G : Gd tb T m c below code) {x : Int32} {y : Int32} {v : Int32} (hd : decode code pc = .ok (.ishl, 1)) (hv : x <<< (y &&& 31) = v) (hp : pc + 1 = pc') (hr : Steps tb e below (T.setTop (mkF m pc' L (.int v :: S))) target) : Steps tb e below (T.setTop (mkF m pc L (.int y :: .int x :: S))) target := by
  subst hp; subst hv; exact XS.ishl G.1 G.2.1 rfl (hb G.2.2 hd) rfl  hr
theorem mishr (pc' : Nat) (G : Gd tb T m c below code) {x : Int32} {y : Int32} {v : Int32} (hd : decode code pc = .ok (.ishr, 1)) (hv : x >>> (y &&& 31) = v) (hp : pc + 1 = pc') (hr : Steps tb e below (T.setTop (mkF m pc' L (.int v :: S))) target) : Steps tb e below (T.setTop (mkF m pc L (.int y :: .int x :: S))) target := by
  subst hp; subst hv; exact XS.ishr G.1 G.2.1 rfl (hb G.2.2 hd) rfl  hr
theorem miushr (pc' : Nat) (G : Gd tb T m c below code) {x : Int32} {y : Int32} {v : Int32} (hd : decode code pc = .ok (.iushr, 1)) (hv : (x.toUInt32 >>> (y &&& 31).toUInt32).toInt32 = v) (hp : pc + 1 = pc') (hr : Steps tb e below (T.setTop (mkF m pc' L (.int v :: S))) target) : Steps tb e below (T.setTop (mkF m pc L (.int y :: .int x :: S))) target := by
  subst hp; subst hv; exact XS.iushr G.1 G.2.1 rfl (hb G.2.2 hd) rfl  hr
theorem mlshl (pc' : Nat) (G : Gd tb T m c below code) {x : Int64} {y : Int32} {v : Int64} (hd : decode code pc = .ok (.lshl, 1)) (hv : x <<< (y &&& 0x3f).toInt64 = v) (hp : pc + 1 = pc') (hr : Steps tb e below (T.setTop (mkF m pc' L (.long v :: S))) target) : Steps tb e below (T.setTop (mkF m pc L (.int y :: .long x :: S))) target := by
  subst hp; subst hv; exact XS.lshl G.1 G.2.1 rfl (hb G.2.2 hd) rfl  hr
theorem mlshr (pc' : Nat) (G : Gd tb T m c below code) {x : Int64} {y : Int32} {v : Int64} (hd : decode code pc = .ok (.lshr, 1)) (hv : x >>> (y &&& 0x3f).toInt64 = v) (hp : pc + 1 = pc') (hr : Steps tb e below (T.setTop (mkF m pc' L (.long v :: S))) target) : Steps tb e below (T.setTop (mkF m pc L (.int y :: .long x :: S))) target := by
  subst hp; subst hv; exact XS.lshr G.1 G.2.1 rfl (hb G.2.2 hd) rfl  hr
theorem mlushr (pc' : Nat) (G : Gd tb T m c below code) {x : Int64} {y : Int32} {v : Int64} (hd : decode code pc = .ok (.lushr, 1)) (hv : (x.toUInt64 >>> (y &&& 0x3f).toInt64.toUInt64).toInt64 = v) (hp : pc + 1 = pc') (hr : Steps tb e below (T.setTop (mkF m pc' L (.long v :: S))) target) : Steps tb e below (T.setTop (mkF m pc L (.int y :: .long x :: S))) target := by
  subst hp; subst hv; exact XS.lushr G.1 G.2.1 rfl (hb G.2.2 hd) rfl  hr
theorem mineg (pc' : Nat) (G : Gd tb T m c below code) {x : Int32} (hd : decode code pc = .ok (.ineg, 1)) (hp : pc + 1 = pc') (hr : Steps tb e below (T.setTop (mkF m pc' L (.int (-x) :: S))) target) : Steps tb e below (T.setTop (mkF m pc L (.int x :: S))) target := by
  subst hp; exact XS.ineg G.1 G.2.1 rfl (hb G.2.2 hd) rfl hr
theorem mlneg (pc' : Nat) (G : Gd tb T m c below code) {x : Int64} (hd : decode code pc = .ok (.lneg, 1)) (hp : pc + 1 = pc') (hr : Steps tb e below (T.setTop (mkF m pc' L (.long (-x) :: S))) target) : Steps tb e below (T.setTop (mkF m pc L (.long x :: S))) target := by
  subst hp; exact XS.lneg G.1 G.2.1 rfl (hb G.2.2 hd) rfl hr
theorem mi2l (pc' : Nat) (G : Gd tb T m c below code) {x : Int32} (hd : decode code pc = .ok (.i2l, 1)) (hp : pc + 1 = pc') (hr : Steps tb e below (T.setTop (mkF m pc' L (.long (x.toInt64) :: S))) target) : Steps tb e below (T.setTop (mkF m pc L (.int x :: S))) target := by
  subst hp; exact XS.i2l G.1 G.2.1 rfl (hb G.2.2 hd) rfl hr
theorem ml2i (pc' : Nat) (G : Gd tb T m c below code) {x : Int64} (hd : decode code pc = .ok (.l2i, 1)) (hp : pc + 1 = pc') (hr : Steps tb e below (T.setTop (mkF m pc' L (.int (x.toInt32) :: S))) target) : Steps tb e below (T.setTop (mkF m pc L (.long x :: S))) target := by
  subst hp; exact XS.l2i G.1 G.2.1 rfl (hb G.2.2 hd) rfl hr
theorem mi2d (pc' : Nat) (G : Gd tb T m c below code) {x : Int32} (hd : decode code pc = .ok (.i2d, 1)) (hp : pc + 1 = pc') (hr : Steps tb e below (T.setTop (mkF m pc' L (.double (FP.i2d x) :: S))) target) : Steps tb e below (T.setTop (mkF m pc L (.int x :: S))) target := by
  subst hp; exact XS.i2dS G.1 G.2.1 rfl (hb G.2.2 hd) rfl rfl hr
theorem ml2d (pc' : Nat) (G : Gd tb T m c below code) {x : Int64} (hd : decode code pc = .ok (.l2d, 1)) (hp : pc + 1 = pc') (hr : Steps tb e below (T.setTop (mkF m pc' L (.double (FP.l2d x) :: S))) target) : Steps tb e below (T.setTop (mkF m pc L (.long x :: S))) target := by
  subst hp; exact XS.l2dS G.1 G.2.1 rfl (hb G.2.2 hd) rfl rfl hr
theorem mdneg (pc' : Nat) (G : Gd tb T m c below code) {x : UInt64} (hd : decode code pc = .ok (.dneg, 1)) (hp : pc + 1 = pc') (hr : Steps tb e below (T.setTop (mkF m pc' L (.double (FP.dneg x) :: S))) target) : Steps tb e below (T.setTop (mkF m pc L (.double x :: S))) target := by
  subst hp; exact XS.dnegS G.1 G.2.1 rfl (hb G.2.2 hd) rfl rfl hr
theorem md2i (pc' : Nat) (G : Gd tb T m c below code) {x : UInt64} (hd : decode code pc = .ok (.d2i, 1)) (hp : pc + 1 = pc') (hr : Steps tb e below (T.setTop (mkF m pc' L (.int (FP.d2i x) :: S))) target) : Steps tb e below (T.setTop (mkF m pc L (.double x :: S))) target := by
  subst hp; exact XS.d2iS G.1 G.2.1 rfl (hb G.2.2 hd) rfl rfl hr
theorem md2l (pc' : Nat) (G : Gd tb T m c below code) {x : UInt64} (hd : decode code pc = .ok (.d2l, 1)) (hp : pc + 1 = pc') (hr : Steps tb e below (T.setTop (mkF m pc' L (.long (FP.d2l x) :: S))) target) : Steps tb e below (T.setTop (mkF m pc L (.double x :: S))) target := by
  subst hp; exact XS.d2lS G.1 G.2.1 rfl (hb G.2.2 hd) rfl rfl hr
theorem mdadd (pc' : Nat) (G : Gd tb T m c below code) {x y : UInt64} (hd : decode code pc = .ok (.dadd, 1)) (hn : Jvm.Free.Fl.NoNaN64 (FP.dadd x y)) (hp : pc + 1 = pc') (hr : Steps tb e below (T.setTop (mkF m pc' L (.double (FP.dadd x y) :: S))) target) : Steps tb e below (T.setTop (mkF m pc L (.double y :: .double x :: S))) target := by
  subst hp; exact XS.daddS G.1 G.2.1 rfl (hb G.2.2 hd) rfl hn rfl hr
theorem mdsub (pc' : Nat) (G : Gd tb T m c below code) {x y : UInt64} (hd : decode code pc = .ok (.dsub, 1)) (hn : Jvm.Free.Fl.NoNaN64 (FP.dsub x y)) (hp : pc + 1 = pc') (hr : Steps tb e below (T.setTop (mkF m pc' L (.double (FP.dsub x y) :: S))) target) : Steps tb e below (T.setTop (mkF m pc L (.double y :: .double x :: S))) target := by
  subst hp; exact XS.dsubS G.1 G.2.1 rfl (hb G.2.2 hd) rfl hn rfl hr
theorem mdmul (pc' : Nat) (G : Gd tb T m c below code) {x y : UInt64} (hd : decode code pc = .ok (.dmul, 1)) (hn : Jvm.Free.Fl.NoNaN64 (FP.dmul x y)) (hp : pc + 1 = pc') (hr : Steps tb e below (T.setTop (mkF m pc' L (.double (FP.dmul x y) :: S))) target) : Steps tb e below (T.setTop (mkF m pc L (.double y :: .double x :: S))) target := by
  subst hp; exact XS.dmulS G.1 G.2.1 rfl (hb G.2.2 hd) rfl hn rfl hr
theorem mddiv (pc' : Nat) (G : Gd tb T m c below code) {x y : UInt64} (hd : decode code pc = .ok (.ddiv, 1)) (hn : Jvm.Free.Fl.NoNaN64 (FP.ddiv x y)) (hp : pc + 1 = pc') (hr : Steps tb e below (T.setTop (mkF m pc' L (.double (FP.ddiv x y) :: S))) target) : Steps tb e below (T.setTop (mkF m pc L (.double y :: .double x :: S))) target := by
  subst hp; exact XS.ddivS G.1 G.2.1 rfl (hb G.2.2 hd) rfl hn rfl hr
theorem mdcmp (pc' : Nat) (G : Gd tb T m c below code) {o : CmpOp} {x y : UInt64} (hd : decode code pc = .ok (.dcmp o, 1)) (hp : pc + 1 = pc') (hr : Steps tb e below (T.setTop (mkF m pc' L (.int (cmpValue (FP.dcmp x y) o) :: S))) target) : Steps tb e below (T.setTop (mkF m pc L (.double y :: .double x :: S))) target := by
  subst hp; exact XS.dcmpS G.1 G.2.1 rfl (hb G.2.2 hd) rfl rfl hr
theorem mlcmp (pc' : Nat) (G : Gd tb T m c below code) {x y : Int64} (hd : decode code pc = .ok (.lcmp, 1)) (hp : pc + 1 = pc') (hr : Steps tb e below (T.setTop (mkF m pc' L (.int (lcmpW x y) :: S))) target) : Steps tb e below (T.setTop (mkF m pc L (.long y :: .long x :: S))) target := by
  subst hp; exact XS.lcmp G.1 G.2.1 rfl (hb G.2.2 hd) rfl hr
theorem mdup (pc' : Nat) (G : Gd tb T m c below code) {x : Value} (hd : decode code pc = .ok (.dup, 1)) (hc : x.category = 1) (hp : pc + 1 = pc') (hr : Steps tb e below (T.setTop (mkF m pc' L (x :: x :: S))) target) : Steps tb e below (T.setTop (mkF m pc L (x :: S))) target := by
  subst hp; exact XS.dup G.1 G.2.1 rfl (hb G.2.2 hd) rfl hc hr
theorem mpop (pc' : Nat) (G : Gd tb T m c below code) {x : Value} (hd : decode code pc = .ok (.pop, 1)) (hc : x.category = 1) (hp : pc + 1 = pc') (hr : Steps tb e below (T.setTop (mkF m pc' L S)) target) : Steps tb e below (T.setTop (mkF m pc L (x :: S))) target := by
  subst hp; exact XS.pop G.1 G.2.1 rfl (hb G.2.2 hd) rfl hc hr
theorem mdup2 (pc' : Nat) (G : Gd tb T m c below code) {x y : Value} (hd : decode code pc = .ok (.dup2, 1)) (hc : x.category = 1) (hc' : y.category = 1) (hp : pc + 1 = pc') (hr : Steps tb e below (T.setTop (mkF m pc' L (x :: y :: x :: y :: S))) target) : Steps tb e below (T.setTop (mkF m pc L (x :: y :: S))) target := by
  subst hp; exact Jvm.Free.XT.dup2 G.1 G.2.1 rfl (hb G.2.2 hd) rfl hc hc' hr
theorem mdup_x1 (pc' : Nat) (G : Gd tb T m c below code) {x y : Value} (hd : decode code pc = .ok (.dup_x1, 1)) (hc : x.category = 1) (hc' : y.category = 1) (hp : pc + 1 = pc') (hr : Steps tb e below (T.setTop (mkF m pc' L (x :: y :: x :: S))) target) : Steps tb e below (T.setTop (mkF m pc L (x :: y :: S))) target := by
  subst hp; exact XS.dupX1 G.1 G.2.1 rfl (hb G.2.2 hd) rfl hc hc' hr
theorem miinc (pc' : Nat) (G : Gd tb T m c below code) {k : Nat} {i : Int} {x : Int32} (hd : decode code pc = .ok (.iinc k i, 3)) (hl : L[k]? = some (.val (.int x))) (L' : Array Slot) (hl' : storeLocals L k (.int (x + Int32.ofInt i)) = some L') (hp : pc + 3 = pc') (hr : Steps tb e below (T.setTop (mkF m pc' L' S)) target) : Steps tb e below (T.setTop (mkF m pc L S)) target := by
  subst hp; exact XS.iinc G.1 G.2.1 rfl (hb G.2.2 hd) hl hl' hr
theorem mgoto (pc' : Nat) (G : Gd tb T m c below code) {o : Int} (hd : decode code pc = .ok (.goto o, 3)) (ho : 0 ≤ (pc : Int) + o) (hp : ((pc : Int) + o).toNat = pc') (hr : Steps tb e below (T.setTop (mkF m pc' L S)) target) : Steps tb e below (T.setTop (mkF m pc L S)) target := XS.goto G.1 G.2.1 rfl rfl (hb G.2.2 hd) ho hp hr
theorem mifYes (pc' : Nat) (G : Gd tb T m c below code) {cd : ClassFile.Cond} {o : Int} {x : Int32} (hd : decode code pc = .ok (.ifCond cd o, 3)) (hc : ifCond.holds cd x = true) (ho : 0 ≤ (pc : Int) + o) (hp : ((pc : Int) + o).toNat = pc') (hr : Steps tb e below (T.setTop (mkF m pc' L S)) target) : Steps tb e below (T.setTop (mkF m pc L (.int x :: S))) target := XS.ifYes G.1 G.2.1 rfl rfl (hb G.2.2 hd) rfl hc ho hp hr
theorem mifNo (pc' : Nat) (G : Gd tb T m c below code) {cd : ClassFile.Cond} {o : Int} {x : Int32} (hd : decode code pc = .ok (.ifCond cd o, 3)) (hc : ifCond.holds cd x = false) (hp : pc + 3 = pc') (hr : Steps tb e below (T.setTop (mkF m pc' L S)) target) : Steps tb e below (T.setTop (mkF m pc L (.int x :: S))) target := by
  subst hp; exact XS.ifNo G.1 G.2.1 rfl (hb G.2.2 hd) rfl hc hr
theorem micmpYes (pc' : Nat) (G : Gd tb T m c below code) {cd : ClassFile.Cond} {o : Int} {x y : Int32} (hd : decode code pc = .ok (.if_icmp cd o, 3)) (hc : if_icmp.holds cd x y = true) (ho : 0 ≤ (pc : Int) + o) (hp : ((pc : Int) + o).toNat = pc') (hr : Steps tb e below (T.setTop (mkF m pc' L S)) target) : Steps tb e below (T.setTop (mkF m pc L (.int y :: .int x :: S))) target := XS.icmpYes G.1 G.2.1 rfl rfl (hb G.2.2 hd) rfl hc ho hp hr
theorem micmpNo (pc' : Nat) (G : Gd tb T m c below code) {cd : ClassFile.Cond} {o : Int} {x y : Int32} (hd : decode code pc = .ok (.if_icmp cd o, 3)) (hc : if_icmp.holds cd x y = false) (hp : pc + 3 = pc') (hr : Steps tb e below (T.setTop (mkF m pc' L S)) target) : Steps tb e below (T.setTop (mkF m pc L (.int y :: .int x :: S))) target := by
  subst hp; exact XS.icmpNo G.1 G.2.1 rfl (hb G.2.2 hd) rfl hc hr
end Steps
section Arrays
variable {p : Program} {l : Launch} {e : Env} {R : Room} {s : State} {m : MethodId} {args : Array Value} {below : List Frame} {meth : Method} {c : Code} {T : State} {locs : List Loc} {cells slots : Nat} {Z : State} {h : Heap} {a : Addr} {k : ClassId} {z j : Int32} {vs : List Value} {dv : Value} {pc : Nat} {L : Array Slot} {S : List Value} {code : ByteArray} {target : State}
theorem wd {ws : List Cond} {a0 : Array Value} (hw : ∀ d ∈ ws, d.before a0 Z = true) (i : Nat) {d : Cond} (q : ws[i]? = some d) : d.before a0 Z = true := hw d (List.mem_of_getElem? q)
theorem miaload (pc' : Nat) (X : Stand p l e R s m args below meth c T locs cells slots) (hx : p.tables.exec = Jvm.exec) (hby : c.code = code) (hZ : Z.Warmed39 s.vm) (eT : T.heap = h) (F : Arv Z h a k .int z vs dv) {v : Int32} (hd : decode code pc = .ok (.iaload, 1)) (hin : ¬ j < 0 ∧ j < z) (hv : vs.getD j.toNatClampNeg dv = .int v) (hp : pc + 1 = pc') (hr : Steps p.tables e below (T.setTop (mkF m pc' L (.int v :: S))) target) : Steps p.tables e below (T.setTop (mkF m pc L (.int j :: .ref a :: S))) target := by
  subst hp
  obtain ⟨cl, A, -, q2, q3, H, -⟩ := F
  have hb' := inb_of q2 hin
  exact X.iaload hx (j := j) (v := .int v) (by rw [eT]; exact A.1) (State.isArrayOf_alike hZ.alike A.2.1) A.2.2 hb' (H.at hb' hv) (g := mkF m pc L (.int j :: .ref a :: S)) rfl rfl (hb hby hd) _ hr
theorem own_stI (X : Stand p l e R s m args below meth c T locs cells slots) (hx : p.tables.exec = Jvm.exec) (hby : c.code = code) (hZ : Z.Warmed39 s.vm) (eT : T.heap = h) (F : Arv Z h a k .int z vs dv) {v : Int32} (hd : decode code pc = .ok (.iastore, 1)) (hin : ¬ j < 0 ∧ j < z) (i : Nat) (hj : j.toNatClampNeg = i) (hi : i < vs.length) (L : Array Slot) (S : List Value) (pc' : Nat) (hp : pc + 1 = pc') :
    ∃ T' h', Stand p l e R s m args below meth c T' (locs ++ [⟨a, j.toNatClampNeg⟩]) cells slots ∧ T'.heap = h' ∧ Wr h h' a j.toNatClampNeg (.int v) ∧ Arv Z h' a k .int z (vs.set i (.int v)) dv ∧ ∀ target, Steps p.tables e below (T'.setTop (mkF m pc' L S)) target → Steps p.tables e below (T.setTop (mkF m pc L (.int v :: .int j :: .ref a :: S))) target := by
  subst hp
  obtain ⟨cl, A, q1, q2, q3, H, G⟩ := F
  obtain ⟨T', h', X', e', W, st⟩ := Jvm.RoadKit.stI X hx hZ eT A (j := j) (inb_of q2 hin) (g := mkF m pc L (.int v :: .int j :: .ref a :: S)) rfl rfl (hb hby hd)
  exact ⟨T', h', X', e', W, Arv.set A q1 q2 q3 H G rfl W i hj hi, st⟩
theorem mlaload (pc' : Nat) (X : Stand p l e R s m args below meth c T locs cells slots) (hx : p.tables.exec = Jvm.exec) (hby : c.code = code) (hZ : Z.Warmed39 s.vm) (eT : T.heap = h) (F : Arv Z h a k .long z vs dv) {v : Int64} (hd : decode code pc = .ok (.laload, 1)) (hin : ¬ j < 0 ∧ j < z) (hv : vs.getD j.toNatClampNeg dv = .long v) (hp : pc + 1 = pc') (hr : Steps p.tables e below (T.setTop (mkF m pc' L (.long v :: S))) target) : Steps p.tables e below (T.setTop (mkF m pc L (.int j :: .ref a :: S))) target := by
  subst hp
  obtain ⟨cl, A, -, q2, q3, H, -⟩ := F
  have hb' := inb_of q2 hin
  exact X.laload hx (j := j) (v := .long v) (by rw [eT]; exact A.1) (State.isArrayOf_alike hZ.alike A.2.1) A.2.2 hb' (H.at hb' hv) (g := mkF m pc L (.int j :: .ref a :: S)) rfl rfl (hb hby hd) _ hr
theorem own_stJ (X : Stand p l e R s m args below meth c T locs cells slots) (hx : p.tables.exec = Jvm.exec) (hby : c.code = code) (hZ : Z.Warmed39 s.vm) (eT : T.heap = h) (F : Arv Z h a k .long z vs dv) {v : Int64} (hd : decode code pc = .ok (.lastore, 1)) (hin : ¬ j < 0 ∧ j < z) (i : Nat) (hj : j.toNatClampNeg = i) (hi : i < vs.length) (L : Array Slot) (S : List Value) (pc' : Nat) (hp : pc + 1 = pc') :
    ∃ T' h', Stand p l e R s m args below meth c T' (locs ++ [⟨a, j.toNatClampNeg⟩]) cells slots ∧ T'.heap = h' ∧ Wr h h' a j.toNatClampNeg (.long v) ∧ Arv Z h' a k .long z (vs.set i (.long v)) dv ∧ ∀ target, Steps p.tables e below (T'.setTop (mkF m pc' L S)) target → Steps p.tables e below (T.setTop (mkF m pc L (.long v :: .int j :: .ref a :: S))) target := by
  subst hp
  obtain ⟨cl, A, q1, q2, q3, H, G⟩ := F
  obtain ⟨T', h', X', e', W, st⟩ := Jvm.RoadKit.stJ X hx hZ eT A (j := j) (inb_of q2 hin) (g := mkF m pc L (.long v :: .int j :: .ref a :: S)) rfl rfl (hb hby hd)
  exact ⟨T', h', X', e', W, Arv.set A q1 q2 q3 H G rfl W i hj hi, st⟩
theorem mdaload (pc' : Nat) (X : Stand p l e R s m args below meth c T locs cells slots) (hx : p.tables.exec = Jvm.exec) (hby : c.code = code) (hZ : Z.Warmed39 s.vm) (eT : T.heap = h) (F : Arv Z h a k .double z vs dv) {v : UInt64} (hd : decode code pc = .ok (.daload, 1)) (hin : ¬ j < 0 ∧ j < z) (hv : vs.getD j.toNatClampNeg dv = .double v) (hp : pc + 1 = pc') (hr : Steps p.tables e below (T.setTop (mkF m pc' L (.double v :: S))) target) : Steps p.tables e below (T.setTop (mkF m pc L (.int j :: .ref a :: S))) target := by
  subst hp
  obtain ⟨cl, A, -, q2, q3, H, -⟩ := F
  have hb' := inb_of q2 hin
  exact X.daload hx (j := j) (v := .double v) (by rw [eT]; exact A.1) (State.isArrayOf_alike hZ.alike A.2.1) A.2.2 hb' (H.at hb' hv) (g := mkF m pc L (.int j :: .ref a :: S)) rfl rfl (hb hby hd) _ hr
theorem own_stD (X : Stand p l e R s m args below meth c T locs cells slots) (hx : p.tables.exec = Jvm.exec) (hby : c.code = code) (hZ : Z.Warmed39 s.vm) (eT : T.heap = h) (F : Arv Z h a k .double z vs dv) {v : UInt64} (hd : decode code pc = .ok (.dastore, 1)) (hin : ¬ j < 0 ∧ j < z) (i : Nat) (hj : j.toNatClampNeg = i) (hi : i < vs.length) (L : Array Slot) (S : List Value) (pc' : Nat) (hp : pc + 1 = pc') :
    ∃ T' h', Stand p l e R s m args below meth c T' (locs ++ [⟨a, j.toNatClampNeg⟩]) cells slots ∧ T'.heap = h' ∧ Wr h h' a j.toNatClampNeg (.double v) ∧ Arv Z h' a k .double z (vs.set i (.double v)) dv ∧ ∀ target, Steps p.tables e below (T'.setTop (mkF m pc' L S)) target → Steps p.tables e below (T.setTop (mkF m pc L (.double v :: .int j :: .ref a :: S))) target := by
  subst hp
  obtain ⟨cl, A, q1, q2, q3, H, G⟩ := F
  obtain ⟨T', h', X', e', W, st⟩ := Jvm.RoadKit.stD X hx hZ eT A (j := j) (inb_of q2 hin) (g := mkF m pc L (.double v :: .int j :: .ref a :: S)) rfl rfl (hb hby hd)
  exact ⟨T', h', X', e', W, Arv.set A q1 q2 q3 H G rfl W i hj hi, st⟩
theorem mlen {ty : FieldType} (pc' : Nat) (X : Stand p l e R s m args below meth c T locs cells slots) (hx : p.tables.exec = Jvm.exec) (hby : c.code = code) (hZ : Z.Warmed39 s.vm) (eT : T.heap = h) (F : Arv Z h a k ty z vs dv) (hd : decode code pc = .ok (.arraylength, 1)) (hp : pc + 1 = pc') (hr : Steps p.tables e below (T.setTop (mkF m pc' L (.int z :: S))) target) : Steps p.tables e below (T.setTop (mkF m pc L (.ref a :: S))) target := by
  subst hp
  obtain ⟨cl, A, -, q2, q3, -, -⟩ := F
  refine X.arraylength hx (by rw [eT]; exact A.1) (State.isArrayOf_alike hZ.alike A.2.1) (g := mkF m pc L (.ref a :: S)) rfl rfl (hb hby hd) _ ?_
  rw [len_of q2 q3]
  exact hr
end Arrays
end Jvm.OwnSt
namespace Jvm.OwnFl
open Jvm.FP Jvm.FP.Core Jvm.Free.Fl Jvm.Op
/-- a double's value, in units of 2^-1074 -/
def zv (a : UInt64) : Int := zval b64 (val64 a)
theorem vv_ddiv (a b : UInt64) : val64 (FP.ddiv a b) = quotient b64 (val64 a) (val64 b) := val64_ddiv a b
theorem vv_dmul (a b : UInt64) : val64 (FP.dmul a b) = round b64 (exactProduct (val64 a) (val64 b)) := val64_dmul a b
theorem vv_dadd (a b : UInt64) : val64 (FP.dadd a b) = round b64 (exactSum (val64 a) (val64 b)) := val64_dadd a b
theorem vv_dsub (a b : UInt64) : val64 (FP.dsub a b) = round b64 (exactSum (val64 a) (negate (val64 b))) := val64_dsub a b
/-- one, in these units -/
def ONE : Int := (one64 : Int)
theorem one_pos : 0 < ONE := Int.natCast_pos.mpr one64_pos
theorem qm : b64.qmin = -1074 := qmin_b64
theorem one_qm : (2 : Nat) ^ (-b64.qmin).toNat = one64 := pow_qmin64
theorem own_quot (f : Fmt) (s t : Bool) (c d : Nat) (q r : Int) : quotient f (.fin s c q) (.fin t d r) = if d = 0 then (if c = 0 then .nan else .inf (s != t)) else roundRatio f (s != t) c d (q - r) := rfl
theorem own_inU (c : Nat) (q e : Int) : inUnits c q e = c * 2 ^ (q - e).toNat := rfl
theorem pow3 {a b c d : Nat} (x : Nat) (h : a + b = c + d) : x * 2 ^ a * 2 ^ b = x * 2 ^ c * 2 ^ d := by
  rw [Nat.mul_assoc, ← Nat.pow_add, h, Nat.pow_add, ← Nat.mul_assoc]
section Mag
variable {s t : Bool} {c d : Nat} {q r : Int} {V : Datum}
theorem scale_quot (h1 : b64.qmin ≤ q) (h2 : b64.qmin ≤ r) :
    c * 2 ^ (q - r - min b64.qmin (q - r)).toNat * 2 ^ (r - b64.qmin).toNat = c * 2 ^ (q - b64.qmin).toNat * one64 * 2 ^ (b64.qmin - min b64.qmin (q - r)).toNat := by
  rw [← one_qm]
  have e : (q - r - min b64.qmin (q - r)).toNat + (r - b64.qmin).toNat = ((q - b64.qmin).toNat + (-b64.qmin).toNat) + (b64.qmin - min b64.qmin (q - r)).toNat := by
    have := qm; omega
  rw [Nat.mul_assoc, ← Nat.pow_add, e, Nat.pow_add, Nat.pow_add]
  simp only [Nat.mul_assoc]
theorem quot_mag_le (hx : FP.Core.fits b64 (.fin s c q)) (hy : FP.Core.fits b64 (.fin t d r)) (hd : d ≠ 0) (hV : FP.Core.fits b64 V) (hn : V ≠ .nan)
    (h : inUnits c q b64.qmin * one64 ≤ zmag b64 V * inUnits d r b64.qmin) : zmag b64 (roundRatio b64 (s != t) c d (q - r)) ≤ zmag b64 V := by
  refine zmag_roundRatio_le good_b64 (e0 := min b64.qmin (q - r)) (Nat.pos_of_ne_zero hd) hV hn (by omega) (by omega) ?_
  have h1 := hx.2.1
  have h2 := hy.2.1
  have hP := Nat.two_pow_pos (r - b64.qmin).toNat
  refine Nat.le_of_mul_le_mul_right (c := 2 ^ (r - b64.qmin).toNat) ?_ hP
  rw [own_inU] at h ⊢
  rw [own_inU] at h
  rw [scale_quot h1 h2]
  have := Nat.mul_le_mul_right (2 ^ (b64.qmin - min b64.qmin (q - r)).toNat) h
  refine Nat.le_trans this (Nat.le_of_eq ?_)
  simp only [Nat.mul_assoc, Nat.mul_left_comm, Nat.mul_comm]
theorem quot_mag_ge (hx : FP.Core.fits b64 (.fin s c q)) (hy : FP.Core.fits b64 (.fin t d r)) (hd : d ≠ 0) (hV : FP.Core.fits b64 V)
    (h : zmag b64 V * inUnits d r b64.qmin ≤ inUnits c q b64.qmin * one64) : zmag b64 V ≤ zmag b64 (roundRatio b64 (s != t) c d (q - r)) := by
  refine zmag_roundRatio_ge good_b64 (e0 := min b64.qmin (q - r)) (Nat.pos_of_ne_zero hd) hV (by omega) (by omega) ?_
  have h1 := hx.2.1
  have h2 := hy.2.1
  have hP := Nat.two_pow_pos (r - b64.qmin).toNat
  refine Nat.le_of_mul_le_mul_right (c := 2 ^ (r - b64.qmin).toNat) ?_ hP
  rw [own_inU] at h ⊢
  rw [own_inU] at h
  rw [scale_quot h1 h2]
  have := Nat.mul_le_mul_right (2 ^ (b64.qmin - min b64.qmin (q - r)).toNat) h
  refine Nat.le_trans (Nat.le_of_eq ?_) this
  simp only [Nat.mul_assoc, Nat.mul_left_comm, Nat.mul_comm]
end Mag
theorem fin_at {a : UInt64} (h : DFin a) : ∃ s c q, val64 a = .fin s c q ∧ FP.Core.fits b64 (.fin s c q) ∧ zv a = signed s (inUnits c q b64.qmin) := by
  obtain ⟨s, c, q, e⟩ := h
  have f := val64_fits a
  rw [e] at f
  exact ⟨s, c, q, e, f, by unfold zv; rw [e]; rfl⟩
theorem units_zero {d : Nat} {r : Int} : inUnits d r b64.qmin = 0 ↔ d = 0 := by
  rw [own_inU]
  have hP := Nat.two_pow_pos (r - b64.qmin).toNat
  constructor
  · intro h
    rcases Nat.mul_eq_zero.mp h with h | h
    · exact h
    · omega
  · rintro rfl; simp
theorem div_core {a b V : UInt64} (ha : DFin a) (hb : DFin b) (hz : zv b ≠ 0) (hV : val64 V ≠ .nan) :
    ∃ (U A D W : Nat) (s t w : Bool) (M : Nat), ONE = (U : Int) ∧ zv a = signed s A ∧ zv b = signed t D ∧ 0 < D ∧ zv V = signed w W ∧ val64 (FP.ddiv a b) ≠ .nan ∧ zv (FP.ddiv a b) = signed (s != t) M ∧ (A * U ≤ W * D → M ≤ W) ∧ (W * D ≤ A * U → W ≤ M) := by
  obtain ⟨s, c, q, e1, f1, z1⟩ := fin_at ha
  obtain ⟨t, d, r, e2, f2, z2⟩ := fin_at hb
  have hd : d ≠ 0 := by
    rintro rfl
    apply hz; rw [z2, units_zero.mpr rfl]; exact signed_zero t
  have e3 : val64 (FP.ddiv a b) = roundRatio b64 (s != t) c d (q - r) := by
    rw [vv_ddiv, e1, e2, own_quot, if_neg hd]
  have fV := val64_fits V
  refine ⟨one64, _, _, zmag b64 (val64 V), s, t, sgn (val64 V), zmag b64 (roundRatio b64 (s != t) c d (q - r)), rfl, z1, z2, ?_, rfl, ?_, ?_, quot_mag_le f1 f2 hd fV hV, quot_mag_ge f1 f2 hd fV⟩
  · exact Nat.pos_of_ne_zero fun h => hd (units_zero.mp h)
  · rw [e3]; exact roundRatio_ne_nan _ _ _ _ _
  · unfold zv; rw [e3]; unfold zval; rw [sgn_roundRatio]
theorem sg_t (n : Nat) : signed true n = -(n : Int) := rfl
theorem sg_f (n : Nat) : signed false n = (n : Int) := rfl
theorem div_le_pos {a b V : UInt64} (ha : DFin a) (hb : DFin b) (hz : 0 < zv b) (hV : val64 V ≠ .nan) (h : zv a * ONE ≤ zv V * zv b) : zv (FP.ddiv a b) ≤ zv V := by
  obtain ⟨U, A, D, W, s, t, w, M, e0, e1, e2, hD, e3, -, e4, l1, l2⟩ := div_core ha hb (by omega) hV
  rw [e1, e2, e3] at h
  rw [e2] at hz
  rw [e3, e4]
  obtain rfl : t = false := by cases t <;> simp only [sg_t, sg_f] at hz <;> first | rfl | omega
  rw [sg_f, e0, ← signed_mul, ← signed_mul] at h
  have hz2 : W * D = 0 → W = 0 := fun x => (Nat.mul_eq_zero.mp x).elim id (fun y => by omega)
  generalize A * U = P at *
  generalize W * D = R at *
  cases s <;> cases w <;> simp only [sg_t, sg_f, Bool.bne_false, bne_self_eq_false] at h ⊢
  · have := l1 (by omega); omega
  · have := l1 (by omega); have := hz2 (by omega); omega
  · omega
  · have := l2 (by omega); omega
theorem div_ge_pos {a b V : UInt64} (ha : DFin a) (hb : DFin b) (hz : 0 < zv b) (hV : val64 V ≠ .nan) (h : zv V * zv b ≤ zv a * ONE) : zv V ≤ zv (FP.ddiv a b) := by
  obtain ⟨U, A, D, W, s, t, w, M, e0, e1, e2, hD, e3, -, e4, l1, l2⟩ := div_core ha hb (by omega) hV
  rw [e1, e2, e3] at h
  rw [e2] at hz
  rw [e3, e4]
  obtain rfl : t = false := by cases t <;> simp only [sg_t, sg_f] at hz <;> first | rfl | omega
  rw [sg_f, e0, ← signed_mul, ← signed_mul] at h
  have hz2 : W * D = 0 → W = 0 := fun x => (Nat.mul_eq_zero.mp x).elim id (fun y => by omega)
  generalize A * U = P at *
  generalize W * D = R at *
  cases s <;> cases w <;> simp only [sg_t, sg_f, Bool.bne_false, bne_self_eq_false] at h ⊢
  · have := l2 (by omega); omega
  · omega
  · have := l1 (by omega); have := hz2 (by omega); omega
  · have := l1 (by omega); omega
theorem div_le_neg {a b V : UInt64} (ha : DFin a) (hb : DFin b) (hz : zv b < 0) (hV : val64 V ≠ .nan) (h : zv V * zv b ≤ zv a * ONE) : zv (FP.ddiv a b) ≤ zv V := by
  obtain ⟨U, A, D, W, s, t, w, M, e0, e1, e2, hD, e3, -, e4, l1, l2⟩ := div_core ha hb (by omega) hV
  rw [e1, e2, e3] at h
  rw [e2] at hz
  rw [e3, e4]
  obtain rfl : t = true := by cases t <;> simp only [sg_t, sg_f] at hz <;> first | rfl | omega
  rw [sg_t, Int.mul_neg, e0, ← signed_mul, ← signed_mul] at h
  have hz2 : W * D = 0 → W = 0 := fun x => (Nat.mul_eq_zero.mp x).elim id (fun y => by omega)
  generalize A * U = P at *
  generalize W * D = R at *
  cases s <;> cases w <;> simp only [sg_t, sg_f, Bool.bne_true, Bool.not_true, Bool.not_false] at h ⊢
  · omega
  · have := l2 (by omega); omega
  · have := l1 (by omega); omega
  · have := l1 (by omega); have := hz2 (by omega); omega
theorem div_ge_neg {a b V : UInt64} (ha : DFin a) (hb : DFin b) (hz : zv b < 0) (hV : val64 V ≠ .nan) (h : zv a * ONE ≤ zv V * zv b) : zv V ≤ zv (FP.ddiv a b) := by
  obtain ⟨U, A, D, W, s, t, w, M, e0, e1, e2, hD, e3, -, e4, l1, l2⟩ := div_core ha hb (by omega) hV
  rw [e1, e2, e3] at h
  rw [e2] at hz
  rw [e3, e4]
  obtain rfl : t = true := by cases t <;> simp only [sg_t, sg_f] at hz <;> first | rfl | omega
  rw [sg_t, Int.mul_neg, e0, ← signed_mul, ← signed_mul] at h
  have hz2 : W * D = 0 → W = 0 := fun x => (Nat.mul_eq_zero.mp x).elim id (fun y => by omega)
  generalize A * U = P at *
  generalize W * D = R at *
  cases s <;> cases w <;> simp only [sg_t, sg_f, Bool.bne_true, Bool.not_true, Bool.not_false] at h ⊢
  · have := l1 (by omega); have := hz2 (by omega); omega
  · have := l1 (by omega); omega
  · have := l2 (by omega); omega
  · omega
theorem div_nan {a b : UInt64} (ha : DFin a) (hb : DFin b) (hz : zv b ≠ 0) : val64 (FP.ddiv a b) ≠ .nan := by
  obtain ⟨U, A, D, W, s, t, w, M, -, -, -, -, -, h, -⟩ := div_core (V := a) ha hb hz ha.ne_nan
  exact h
theorem no_of {x : UInt64} (h : val64 x ≠ .nan) : NoNaN64 x := noNaN64_no.mpr ((notNaN_iff x).mpr h)
theorem of_no {x : UInt64} (h : NoNaN64 x) : val64 x ≠ .nan := (notNaN_iff x).mp (noNaN64_no.mp h)
theorem fin_no {x : UInt64} (h : DFin x) : NoNaN64 x := no_of h.ne_nan
/-- as great as a finite one: finite -/
theorem fin_of_eq {a V : UInt64} (hn : val64 a ≠ .nan) (hV : DFin V) (h : zv a = zv V) : DFin a := by
  cases e : val64 a with
  | nan => exact absurd e hn
  | fin s c q => exact ⟨s, c, q, e⟩
  | inf s =>
    exfalso
    have h1 := hV.zval_lt
    have h2 : (zv a).natAbs = b64.tails * 2 ^ (b64.exps - 2) := by unfold zv; rw [e]; exact natAbs_signed _ _
    have h3 : (zv V).natAbs = zmag b64 (val64 V) := natAbs_signed _ _
    rw [h] at h2
    omega
theorem fin_of_le {a V W : UInt64} (hn : val64 a ≠ .nan) (hV : DFin V) (hW : DFin W) (h : zv V ≤ zv a) (h' : zv a ≤ zv W) : DFin a := by
  cases e : val64 a with
  | nan => exact absurd e hn
  | fin s c q => exact ⟨s, c, q, e⟩
  | inf s =>
    exfalso
    have h1 := hV.zval_lt
    have h1' := hW.zval_lt
    have h2 : (zv a).natAbs = b64.tails * 2 ^ (b64.exps - 2) := by unfold zv; rw [e]; exact natAbs_signed _ _
    have h3 : (zv V).natAbs = zmag b64 (val64 V) := natAbs_signed _ _
    have h3' : (zv W).natAbs = zmag b64 (val64 W) := natAbs_signed _ _
    omega
/-! a finite double of a known value -/
def Dy (a : UInt64) (x : Int) : Prop := DFin a ∧ zv a = x
def Rep (x : Int) : Prop := ∃ V, Dy V x
theorem Dy.rep {a : UInt64} {x : Int} (h : Dy a x) : Rep x := ⟨a, h⟩
theorem Dy.no {a : UInt64} {x : Int} (h : Dy a x) : NoNaN64 a := fin_no h.1
theorem Dy.nn {a : UInt64} {x : Int} (h : Dy a x) : val64 a ≠ .nan := h.1.ne_nan
theorem dy_div {a b : UInt64} {x y z : Int} (ha : Dy a x) (hb : Dy b y) (hy : y ≠ 0) (hz : Rep z) (h : z * y = x * ONE) : Dy (FP.ddiv a b) z := by
  obtain ⟨V, fV, rfl⟩ := hz
  obtain ⟨fa, rfl⟩ := ha
  obtain ⟨fb, rfl⟩ := hb
  have hn := div_nan fa fb hy
  have e : zv (FP.ddiv a b) = zv V := by
    rcases Int.lt_or_gt_of_ne hy with q | q
    · exact Int.le_antisymm (div_le_neg fa fb q fV.ne_nan (Int.le_of_eq h)) (div_ge_neg fa fb q fV.ne_nan (Int.le_of_eq h.symm))
    · exact Int.le_antisymm (div_le_pos fa fb q fV.ne_nan (Int.le_of_eq h.symm)) (div_ge_pos fa fb q fV.ne_nan (Int.le_of_eq h))
  exact ⟨fin_of_eq hn fV e, e⟩
theorem mul_le {a b V : UInt64} (ha : DFin a) (hb : DFin b) (hV : val64 V ≠ .nan) (h : zv a * zv b ≤ zv V * ONE) : zv (FP.dmul a b) ≤ zv V := by
  obtain ⟨s, c, q, e1, f1, z1⟩ := fin_at ha
  obtain ⟨t, d, r, e2, f2, z2⟩ := fin_at hb
  obtain ⟨p1, p2, p3⟩ := product_units f1 f2
  unfold zv
  rw [vv_dmul, e1, e2, p1]
  refine zval_round_le good_b64 (val64_fits V) hV (e0 := 2 * b64.qmin) (by have := qm; omega) p2 ?_
  rw [p3, signed_xor, show (b64.qmin - 2 * b64.qmin).toNat = (-b64.qmin).toNat by omega, one_qm]
  rw [z1, z2] at h
  exact h
theorem mul_ge {a b V : UInt64} (ha : DFin a) (hb : DFin b) (hV : val64 V ≠ .nan) (h : zv V * ONE ≤ zv a * zv b) : zv V ≤ zv (FP.dmul a b) := by
  obtain ⟨s, c, q, e1, f1, z1⟩ := fin_at ha
  obtain ⟨t, d, r, e2, f2, z2⟩ := fin_at hb
  obtain ⟨p1, p2, p3⟩ := product_units f1 f2
  unfold zv
  rw [vv_dmul, e1, e2, p1]
  refine zval_round_ge good_b64 (val64_fits V) hV (e0 := 2 * b64.qmin) (by have := qm; omega) p2 ?_
  rw [p3, signed_xor, show (b64.qmin - 2 * b64.qmin).toNat = (-b64.qmin).toNat by omega, one_qm]
  rw [z1, z2] at h
  exact h
theorem mul_nan {a b : UInt64} (ha : DFin a) (hb : DFin b) : val64 (FP.dmul a b) ≠ .nan := (notNaN_iff _).mp (dmul_out ha hb)
theorem dy_mul {a b : UInt64} {x y z : Int} (ha : Dy a x) (hb : Dy b y) (hz : Rep z) (h : z * ONE = x * y) : Dy (FP.dmul a b) z := by
  obtain ⟨V, fV, rfl⟩ := hz
  obtain ⟨fa, rfl⟩ := ha
  obtain ⟨fb, rfl⟩ := hb
  have e : zv (FP.dmul a b) = zv V := Int.le_antisymm (mul_le fa fb fV.ne_nan (Int.le_of_eq h.symm)) (mul_ge fa fb fV.ne_nan (Int.le_of_eq h))
  exact ⟨fin_of_eq (mul_nan fa fb) fV e, e⟩
theorem add_le {a b V : UInt64} (ha : DFin a) (hb : DFin b) (hV : val64 V ≠ .nan) (h : zv a + zv b ≤ zv V) : zv (FP.dadd a b) ≤ zv V := by
  unfold zv
  rw [vv_dadd]
  exact sum_le good_b64 ha hb (val64_fits a) (val64_fits b) (val64_fits V) hV h
theorem add_ge {a b V : UInt64} (ha : DFin a) (hb : DFin b) (hV : val64 V ≠ .nan) (h : zv V ≤ zv a + zv b) : zv V ≤ zv (FP.dadd a b) := by
  unfold zv
  rw [vv_dadd]
  exact sum_ge good_b64 ha hb (val64_fits a) (val64_fits b) (val64_fits V) hV h
theorem add_nan {a b : UInt64} (ha : DFin a) (hb : DFin b) : val64 (FP.dadd a b) ≠ .nan := (notNaN_iff _).mp (dadd_out ha.notNaN hb)
theorem dy_add {a b : UInt64} {x y : Int} (ha : Dy a x) (hb : Dy b y) (hz : Rep (x + y)) : Dy (FP.dadd a b) (x + y) := by
  obtain ⟨V, fV, e0⟩ := hz
  obtain ⟨fa, rfl⟩ := ha
  obtain ⟨fb, rfl⟩ := hb
  have e : zv (FP.dadd a b) = zv V := Int.le_antisymm (add_le fa fb fV.ne_nan (Int.le_of_eq e0.symm)) (add_ge fa fb fV.ne_nan (Int.le_of_eq e0))
  exact ⟨fin_of_eq (add_nan fa fb) fV e, e.trans e0⟩
theorem neg_fin {b : UInt64} (hb : DFin b) : ∃ s c q, negate (val64 b) = .fin s c q := by
  obtain ⟨s, c, q, e⟩ := hb
  exact ⟨!s, c, q, by rw [e]; rfl⟩
theorem sub_le {a b V : UInt64} (ha : DFin a) (hb : DFin b) (hV : val64 V ≠ .nan) (h : zv a - zv b ≤ zv V) : zv (FP.dsub a b) ≤ zv V := by
  unfold zv
  rw [vv_dsub]
  refine sum_le good_b64 ha (neg_fin hb) (val64_fits a) (negate_fits (val64_fits b)) (val64_fits V) hV ?_
  rw [zval_negate]; unfold zv at h; omega
theorem sub_ge {a b V : UInt64} (ha : DFin a) (hb : DFin b) (hV : val64 V ≠ .nan) (h : zv V ≤ zv a - zv b) : zv V ≤ zv (FP.dsub a b) := by
  unfold zv
  rw [vv_dsub]
  refine sum_ge good_b64 ha (neg_fin hb) (val64_fits a) (negate_fits (val64_fits b)) (val64_fits V) hV ?_
  rw [zval_negate]; unfold zv at h; omega
theorem sub_nan {a b : UInt64} (ha : DFin a) (hb : DFin b) : val64 (FP.dsub a b) ≠ .nan := (notNaN_iff _).mp (dsub_out ha.notNaN hb)
theorem dy_sub {a b : UInt64} {x y : Int} (ha : Dy a x) (hb : Dy b y) (hz : Rep (x - y)) : Dy (FP.dsub a b) (x - y) := by
  obtain ⟨V, fV, e0⟩ := hz
  obtain ⟨fa, rfl⟩ := ha
  obtain ⟨fb, rfl⟩ := hb
  have e : zv (FP.dsub a b) = zv V := Int.le_antisymm (sub_le fa fb fV.ne_nan (Int.le_of_eq e0.symm)) (sub_ge fa fb fV.ne_nan (Int.le_of_eq e0))
  exact ⟨fin_of_eq (sub_nan fa fb) fV e, e.trans e0⟩
theorem dy_i2d (n : Int32) : Dy (FP.i2d n) (n.toInt * ONE) := ⟨Core.i2d_fin n, DInt_zval (i2d_int n)⟩
theorem dy_l2d {n : Int64} (h : n.toInt.natAbs ≤ 2 ^ 53) : Dy (FP.l2d n) (n.toInt * ONE) := ⟨Core.l2d_fin n, DInt_zval (l2d_int h)⟩
theorem rep_nat (s : Bool) (n j : Nat) (hn : n < 2 ^ 53) (hj : j ≤ 1074) : Rep (signed s (n * 2 ^ (1074 - j))) := by
  obtain ⟨c, q, h1, h2⟩ := round_exact good_b64 s (c := n) (q := -(j : Int)) hn (by rw [qm]; omega) (by rw [show b64.qmax = 971 by decide +kernel]; omega)
  have e : val64 (of64 (round b64 (.fin s n (-(j : Int))))) = .fin s c q := by rw [val64_of64 (round_fits good_b64 _), h1]
  refine ⟨of64 (round b64 (.fin s n (-(j : Int)))), ⟨s, c, q, e⟩, ?_⟩
  unfold zv; rw [e]
  show signed s (inUnits c q b64.qmin) = _
  rw [h2, own_inU, qm, show (-(j : Int) - -1074).toNat = 1074 - j by omega]
/-- n / 2^j is a double -/
theorem rep_int (n : Int) (j : Nat) (hn : n.natAbs < 2 ^ 53) (hj : j ≤ 1074) : Rep (n * ((2 ^ (1074 - j) : Nat) : Int)) := by
  have h := rep_nat (decide (n < 0)) n.natAbs j hn hj
  rw [signed_mul] at h
  have e : signed (decide (n < 0)) n.natAbs = n := by
    by_cases q : n < 0
    · simp only [q, decide_true, sg_t]; omega
    · simp only [q, decide_false, sg_f]; omega
  rwa [e] at h
theorem rep_whole (n : Int) (hn : n.natAbs < 2 ^ 53) : Rep (n * ONE) := rep_int n 0 hn (by decide)
theorem cv {a b : UInt64} (ha : val64 a ≠ .nan) (hb : val64 b ≠ .nan) (o : ClassFile.CmpOp) : cmpValue (FP.dcmp a b) o = if zv a < zv b then -1 else if zv a = zv b then 0 else 1 := by
  rw [show FP.dcmp a b = some (compare (zv a) (zv b)) from dcmp_zval ha hb, compare_ite]
  by_cases h1 : zv a < zv b
  · rw [if_pos h1, if_pos h1]; rfl
  · rw [if_neg h1, if_neg h1]
    by_cases h2 : zv a = zv b
    · rw [if_pos h2, if_pos h2]; rfl
    · rw [if_neg h2, if_neg h2]; rfl
theorem cv_lt {a b : UInt64} (ha : val64 a ≠ .nan) (hb : val64 b ≠ .nan) (o : ClassFile.CmpOp) : cmpValue (FP.dcmp a b) o < 0 ↔ zv a < zv b := by
  rw [cv ha hb]
  by_cases h1 : zv a < zv b
  · rw [if_pos h1]; exact ⟨fun _ => h1, fun _ => by decide⟩
  · by_cases h2 : zv a = zv b
    · rw [if_neg h1, if_pos h2]; exact ⟨fun h => absurd h (by decide), fun h => absurd h h1⟩
    · rw [if_neg h1, if_neg h2]; exact ⟨fun h => absurd h (by decide), fun h => absurd h h1⟩
theorem cv_gt {a b : UInt64} (ha : val64 a ≠ .nan) (hb : val64 b ≠ .nan) (o : ClassFile.CmpOp) : 0 < cmpValue (FP.dcmp a b) o ↔ zv b < zv a := by
  rw [cv ha hb]
  by_cases h1 : zv a < zv b
  · rw [if_pos h1]; exact ⟨fun h => absurd h (by decide), fun h => by omega⟩
  · by_cases h2 : zv a = zv b
    · rw [if_neg h1, if_pos h2]; exact ⟨fun h => absurd h (by decide), fun h => by omega⟩
    · rw [if_neg h1, if_neg h2]; exact ⟨fun _ => by omega, fun _ => by decide⟩
theorem cv_eq {a b : UInt64} (ha : val64 a ≠ .nan) (hb : val64 b ≠ .nan) (o : ClassFile.CmpOp) : cmpValue (FP.dcmp a b) o = 0 ↔ zv a = zv b := by
  rw [cv ha hb]
  by_cases h1 : zv a < zv b
  · rw [if_pos h1]; exact ⟨fun h => absurd h (by decide), fun h => by omega⟩
  · by_cases h2 : zv a = zv b
    · rw [if_neg h1, if_pos h2]; exact ⟨fun _ => h2, fun _ => rfl⟩
    · rw [if_neg h1, if_neg h2]; exact ⟨fun h => absurd h (by decide), fun h => absurd h h2⟩
theorem dy_zero : Dy 0 0 := ⟨⟨_, _, _, val64_zero⟩, zval64_zero⟩
theorem dy_lit (a : UInt64) (x : Int) (h1 : a.toNat % 2 ^ 63 < 9218868437227405312) (h2 : zval b64 (val64 a) = x) : Dy a x := ⟨(fin_bits a).mpr h1, h2⟩
theorem dy_one : Dy 4607182418800017408 ONE := dy_lit _ _ (by decide) (by have := DInt_zval dint_one; rw [Int.one_mul] at this; exact this)
/-- two quotients of one ratio are one double -/
theorem div_congr {a b a' b' : UInt64} (ha : DFin a) (hb : DFin b) (ha' : DFin a') (hb' : DFin b') (h0 : 0 ≤ zv a) (h0' : 0 ≤ zv a') (hz : 0 < zv b) (hz' : 0 < zv b') (h : zv a * zv b' = zv a' * zv b) : zv (FP.ddiv a b) = zv (FP.ddiv a' b') := by
  obtain ⟨s, c, q, e1, f1, z1⟩ := fin_at ha
  obtain ⟨t, d, r, e2, f2, z2⟩ := fin_at hb
  obtain ⟨s', c', q', e1', f1', z1'⟩ := fin_at ha'
  obtain ⟨t', d', r', e2', f2', z2'⟩ := fin_at hb'
  rw [z1] at h0; rw [z1'] at h0'; rw [z2] at hz; rw [z2'] at hz'
  rw [z1, z1', z2, z2'] at h
  obtain rfl : t = false := by cases t <;> simp only [sg_t, sg_f] at hz <;> first | rfl | omega
  obtain rfl : t' = false := by cases t' <;> simp only [sg_t, sg_f] at hz' <;> first | rfl | omega
  have k1 : signed s (inUnits c q b64.qmin) = (inUnits c q b64.qmin : Int) := by cases s <;> simp only [sg_t, sg_f] at h0 ⊢; omega
  have k2 : signed s' (inUnits c' q' b64.qmin) = (inUnits c' q' b64.qmin : Int) := by cases s' <;> simp only [sg_t, sg_f] at h0' ⊢; omega
  rw [k1, k2, sg_f, sg_f] at h
  have hN : inUnits c q b64.qmin * inUnits d' r' b64.qmin = inUnits c' q' b64.qmin * inUnits d r b64.qmin := by exact_mod_cast h
  have hd : d ≠ 0 := fun x => by rw [x, units_zero.mpr rfl] at hz; simp [sg_f] at hz
  have hd' : d' ≠ 0 := fun x => by rw [x, units_zero.mpr rfl] at hz'; simp [sg_f] at hz'
  have g1 := f1.2.1; have g2 := f2.2.1; have g3 := f1'.2.1; have g4 := f2'.2.1
  have key : zmag b64 (roundRatio b64 (s != false) c d (q - r)) = zmag b64 (roundRatio b64 (s' != false) c' d' (q' - r')) := by
    have E : roundRatio b64 false c d (q - r) = roundRatio b64 false c' d' (q' - r') := by
      refine roundRatio_congr (Nat.pos_of_ne_zero hd) (Nat.pos_of_ne_zero hd') ?_
      simp only [own_inU] at hN
      generalize b64.qmin = Q at *
      have a1 : c * 2 ^ (q - Q).toNat * (d' * 2 ^ (r' - Q).toNat) = c * d' * 2 ^ ((q - Q).toNat + (r' - Q).toNat) := by rw [Nat.pow_add]; simp only [Nat.mul_assoc, Nat.mul_left_comm, Nat.mul_comm]
      have a2 : c' * 2 ^ (q' - Q).toNat * (d * 2 ^ (r - Q).toNat) = c' * d * 2 ^ ((q' - Q).toNat + (r - Q).toNat) := by rw [Nat.pow_add]; simp only [Nat.mul_assoc, Nat.mul_left_comm, Nat.mul_comm]
      rw [a1, a2] at hN
      by_cases hle : (q - r) ≤ (q' - r')
      · have x1 : (q - r - (q' - r')).toNat = 0 := by omega
        rw [x1, Nat.pow_zero, Nat.mul_one]
        have x2 : (q' - Q).toNat + (r - Q).toNat = (q' - r' - (q - r)).toNat + ((q - Q).toNat + (r' - Q).toNat) := by omega
        rw [x2, Nat.pow_add 2 (q' - r' - (q - r)).toNat, ← Nat.mul_assoc] at hN
        exact Nat.eq_of_mul_eq_mul_right (Nat.two_pow_pos _) hN
      · have x1 : (q' - r' - (q - r)).toNat = 0 := by omega
        rw [x1, Nat.pow_zero, Nat.mul_one]
        have x2 : (q - Q).toNat + (r' - Q).toNat = (q - r - (q' - r')).toNat + ((q' - Q).toNat + (r - Q).toNat) := by omega
        rw [x2, Nat.pow_add 2 (q - r - (q' - r')).toNat, ← Nat.mul_assoc] at hN
        exact Nat.eq_of_mul_eq_mul_right (Nat.two_pow_pos _) hN
    have neg : ∀ (u : Bool) (A B : Nat) (x : Int), zmag b64 (roundRatio b64 u A B x) = zmag b64 (roundRatio b64 false A B x) := fun u A B x => by
      cases u
      · rfl
      · have := negate_roundRatio b64 false A B x
        rw [Bool.not_false] at this
        rw [← this]
        cases roundRatio b64 false A B x <;> rfl
    rw [neg, E, ← neg (s' != false)]
  have zd : zv (FP.ddiv a b) = signed (s != false) (zmag b64 (roundRatio b64 (s != false) c d (q - r))) := by
    unfold zv; rw [vv_ddiv, e1, e2, own_quot, if_neg hd]; unfold zval; rw [sgn_roundRatio]
  have zd' : zv (FP.ddiv a' b') = signed (s' != false) (zmag b64 (roundRatio b64 (s' != false) c' d' (q' - r'))) := by
    unfold zv; rw [vv_ddiv, e1', e2', own_quot, if_neg hd']; unfold zval; rw [sgn_roundRatio]
  have ge1 : 0 ≤ zv (FP.ddiv a b) := by
    have := div_ge_pos ha hb (by rw [z2, sg_f]; rw [sg_f] at hz; exact hz) (V := 0) dy_zero.nn (by rw [dy_zero.2, Int.zero_mul, z1, k1]; exact Int.mul_nonneg (by omega) (by have := one_pos; omega))
    rw [dy_zero.2] at this; exact this
  have ge2 : 0 ≤ zv (FP.ddiv a' b') := by
    have := div_ge_pos ha' hb' (by rw [z2', sg_f]; rw [sg_f] at hz'; exact hz') (V := 0) dy_zero.nn (by rw [dy_zero.2, Int.zero_mul, z1', k2]; exact Int.mul_nonneg (by omega) (by have := one_pos; omega))
    rw [dy_zero.2] at this; exact this
  rw [zd] at ge1 ⊢; rw [zd'] at ge2 ⊢
  rw [key] at ge1 ⊢
  generalize zmag b64 (roundRatio b64 (s' != false) c' d' (q' - r')) = M at *
  cases s <;> cases s' <;> simp only [sg_t, sg_f, Bool.bne_false, bne_self_eq_false] at ge1 ge2 ⊢ <;> omega
theorem one_le {x y : Int} : x * ONE ≤ y * ONE ↔ x ≤ y := ⟨fun h => Int.le_of_mul_le_mul_right h one_pos, fun h => Int.mul_le_mul_of_nonneg_right h (Int.le_of_lt one_pos)⟩
theorem one_lt {x y : Int} : x * ONE < y * ONE ↔ x < y := ⟨fun h => Int.lt_of_mul_lt_mul_right h (Int.le_of_lt one_pos), fun h => Int.mul_lt_mul_of_pos_right h one_pos⟩
theorem one_eq {x y : Int} : x * ONE = y * ONE ↔ x = y := ⟨fun h => Int.le_antisymm (one_le.mp (Int.le_of_eq h)) (one_le.mp (Int.le_of_eq h.symm)), fun h => h ▸ rfl⟩
theorem mul_bd {a b : Int} {A B : Nat} (ha : a.natAbs ≤ A) (hb : b.natAbs ≤ B) : (a * b).natAbs ≤ A * B := by rw [Int.natAbs_mul]; exact Nat.mul_le_mul ha hb
/-- comparison of two doubles that are whole numbers -/
theorem cw_lt {a b : UInt64} {x y : Int} (ha : Dy a (x * ONE)) (hb : Dy b (y * ONE)) (o : ClassFile.CmpOp) : cmpValue (FP.dcmp a b) o < 0 ↔ x < y := by rw [cv_lt ha.nn hb.nn, ha.2, hb.2, one_lt]
theorem cw_gt {a b : UInt64} {x y : Int} (ha : Dy a (x * ONE)) (hb : Dy b (y * ONE)) (o : ClassFile.CmpOp) : 0 < cmpValue (FP.dcmp a b) o ↔ y < x := by rw [cv_gt ha.nn hb.nn, ha.2, hb.2, one_lt]
theorem cw_eq {a b : UInt64} {x y : Int} (ha : Dy a (x * ONE)) (hb : Dy b (y * ONE)) (o : ClassFile.CmpOp) : cmpValue (FP.dcmp a b) o = 0 ↔ x = y := by rw [cv_eq ha.nn hb.nn, ha.2, hb.2, one_eq]
theorem dy_zero' : Dy 0 (0 * ONE) := by rw [Int.zero_mul]; exact dy_zero
theorem dw_add {a b : UInt64} {x y : Int} (ha : Dy a (x * ONE)) (hb : Dy b (y * ONE)) (h : (x + y).natAbs < 2 ^ 53) : Dy (FP.dadd a b) ((x + y) * ONE) := by
  have := dy_add ha hb (by rw [← Int.add_mul]; exact rep_whole _ h)
  rwa [← Int.add_mul] at this
theorem dw_sub {a b : UInt64} {x y : Int} (ha : Dy a (x * ONE)) (hb : Dy b (y * ONE)) (h : (x - y).natAbs < 2 ^ 53) : Dy (FP.dsub a b) ((x - y) * ONE) := by
  have := dy_sub ha hb (by rw [← Int.sub_mul]; exact rep_whole _ h)
  rwa [← Int.sub_mul] at this
theorem dw_mul {a b : UInt64} {x y : Int} (ha : Dy a (x * ONE)) (hb : Dy b (y * ONE)) (h : (x * y).natAbs < 2 ^ 53) : Dy (FP.dmul a b) ((x * y) * ONE) :=
  dy_mul ha hb (rep_whole _ h) (by simp only [Int.mul_assoc, Int.mul_left_comm, Int.mul_comm])
/-- twice a double that isn't too great is a double -/
theorem rep_dbl {a : UInt64} (h : DFin a) (hs : zmag b64 (val64 a) < 2 ^ 2000) : Rep (zv a + zv a) := by
  obtain ⟨s, c, q, e, f, z⟩ := fin_at h
  have hz : zmag b64 (val64 a) = inUnits c q b64.qmin := by rw [e]; rfl
  rw [hz, own_inU] at hs
  by_cases hc : c = 0
  · subst hc
    refine ⟨0, ⟨_, _, _, val64_zero⟩, ?_⟩
    rw [z, own_inU, Nat.zero_mul, signed_zero]; exact zval64_zero
  have hq : q + 1 ≤ b64.qmax := by
    rw [show b64.qmax = 971 by decide +kernel]
    refine Int.not_lt.mp fun r => ?_
    have k : 2 ^ 2000 ≤ 2 ^ (q - b64.qmin).toNat := Nat.pow_le_pow_right (by decide) (by rw [qm]; omega)
    have : 2 ^ (q - b64.qmin).toNat ≤ c * 2 ^ (q - b64.qmin).toNat := Nat.le_mul_of_pos_left _ (Nat.pos_of_ne_zero hc)
    omega
  have f2 := f.2.1
  obtain ⟨c', q', h1, h2⟩ := round_exact good_b64 s (c := c) (q := q + 1) f.1 (by omega) hq
  have e' : val64 (of64 (round b64 (.fin s c (q + 1)))) = .fin s c' q' := by rw [val64_of64 (round_fits good_b64 _), h1]
  refine ⟨of64 (round b64 (.fin s c (q + 1))), ⟨s, c', q', e'⟩, ?_⟩
  unfold zv; rw [e', e]
  show signed s (inUnits c' q' b64.qmin) = signed s (inUnits c q b64.qmin) + signed s (inUnits c q b64.qmin)
  rw [h2, own_inU, own_inU, show (q + 1 - b64.qmin).toNat = (q - b64.qmin).toNat + 1 by omega, Nat.pow_succ]
  generalize 2 ^ (q - b64.qmin).toNat = P
  have : c * (P * 2) = c * P + c * P := by rw [← Nat.mul_assoc, Nat.mul_two]
  rw [this]
  cases s
  · simp only [sg_f]; omega
  · simp only [sg_t]; omega
theorem l2d_small (n : Int64) : zmag b64 (val64 (FP.l2d n)) < 2 ^ 2000 := by
  have h := Core.l2d_mag n
  obtain ⟨s, c, q, e, k⟩ := mag_bits h (by decide)
  rw [e]
  show inUnits c q b64.qmin < _
  rw [own_inU]
  refine Nat.lt_of_lt_of_le k ?_
  rw [← Nat.pow_add]
  exact Nat.pow_le_pow_right (by decide) (by decide)
/-- a finite double's test of being finite -/
theorem mask_fin {a : UInt64} (h : DFin a) (o : ClassFile.CmpOp) : ¬ (0 < cmpValue (FP.dcmp (a &&& 0x7fffffffffffffff) 9218868437227405311) o) := by
  have q := (le_max h.notNaN).mpr h
  intro r
  rcases q with q | q
  · rw [show FP.dcmp (a &&& 0x7fffffffffffffff) 9218868437227405311 = some .lt from q] at r; cases o <;> exact absurd r (by decide)
  · rw [show FP.dcmp (a &&& 0x7fffffffffffffff) 9218868437227405311 = some .eq from q] at r; cases o <;> exact absurd r (by decide)
end Jvm.OwnFl
namespace Jvm.Pilot.@@N@@
open Jvm Jvm.ClassFile Sem Op Lib Jvm.Free Jvm.Stand Jvm.LawKit Jvm.RoadKit Jvm.OwnSt Bundle Jvm.Pilot.@@N@@.Jvm.D
theorem pd_0 : parseMethodDescriptor "(D)D" = some ⟨[.double], some .double⟩ := by decide +kernel
theorem d3_0 : decode jdk_117_method_8_code 0 = .ok (.dload_n 0, 1) := by decide +kernel
theorem d3_1 : decode jdk_117_method_8_code 1 = .ok (.invokestatic 38, 3) := by decide +kernel
theorem d3_4 : decode jdk_117_method_8_code 4 = .ok (.ldc2_w 111, 3) := by decide +kernel
theorem d3_7 : decode jdk_117_method_8_code 7 = .ok (.dcmp .g, 1) := by decide +kernel
theorem d3_8 : decode jdk_117_method_8_code 8 = .ok (.ifCond .gt 7, 3) := by decide +kernel
theorem d3_11 : decode jdk_117_method_8_code 11 = .ok (.iconst 1, 1) := by decide +kernel
theorem d3_12 : decode jdk_117_method_8_code 12 = .ok (.goto 4, 3) := by decide +kernel
theorem d3_15 : decode jdk_117_method_8_code 15 = .ok (.iconst 0, 1) := by decide +kernel
theorem d3_16 : decode jdk_117_method_8_code 16 = .ok (.ireturn, 1) := by decide +kernel
theorem pn_3 : plainName "java/lang/Double" = true := by first | (simp [plainName, overriddenIn]; done) | decide +kernel
theorem ef3 (m : MethodId) (d0 : UInt64) : entryFrame m #[(.double d0)] 2 = mkF m 0 #[dv d0, .second] [] := by first | (simp [entryFrame, mkF, argsToLocals, Value.category]; done) | rfl
abbrev room_of_3 : Room := { frames := 1, cells := 0, slots := 0, locals := 13 }
def rv3 (d0 : UInt64) : Int32 := (if (0 : Int32) < (cmpValue (FP.dcmp (d0 &&& (0x7fffffffffffffff : UInt64)) (9218868437227405311 : UInt64)) .g) then (0 : Int32) else (1 : Int32))
def Q3 (Z : State) (d0 : UInt64) (h0 : Heap) (n0 : Nat) (v : Option Value) (h : Heap) (L : List Loc) : Prop := v = some (.int (rv3 d0)) ∧ L = [] ∧ h = h0
set_option maxRecDepth 65536 in
set_option maxHeartbeats 40000000 in
theorem rm3 (l : Launch) (Z : State) (a0 : Array Value) (hw : ∀ d ∈ tables_1, d.before a0 Z = true) (ws : List Jvm.Cond) (d0 : UInt64)  (h0 : Heap) (n0 : Nat) (Z0 : n0 ≤ h0.size) (hnn1 : Jvm.Free.Fl.NoNaN64 d0) :
    MetFree l (⟨"java/lang/Double", "isFinite", "(D)Z"⟩ : MethodName) (head1 (Jvm.Cond.code (⟨"java/lang/Double", "isFinite", "(D)Z"⟩ : MethodName) jdk_117_method_8_code 2 (some .boolean) :: ws) (room_of_3)) (fun a U => a = #[(.double d0)] ∧ Z.Warmed39 U.vm ∧ U.heap = h0) (fun _ _ _ _ _ => True) (fun _ U o U' => ∃ v L, o = .returned v ∧ Q3 Z d0 h0 n0 v U'.heap L ∧ FrameEnd U o U' L (room_of_3).cells (room_of_3).slots) := by
  refine MetFree.of_bodySF (plainFor_of_name pn_3) hisR ?_
  intro p e s m args below meth c s₁ Bd hml0 hP hK
  obtain ⟨rfl, hZ, hh⟩ := hP
  have hx := Bd.exec
  have hby := Bd.bytes
  have hml : c.maxLocals = 2 := hml0
  have hown : s.vm.findClass "java/lang/Double" = some m.cls := findClass_of_methodNamed Bd.named
  have hnm := (name_of_methodNamed Bd.named Bd.method).1
  have X0 : Stand p l e (room_of_3) s m #[(.double d0)] below meth c s₁ [] 0 0 := Stand.of_body Bd
  have e0 : s₁.heap = h0 := by rw [← hh, Bd.state]; rfl
  have N0 := Fr.nil n0
  have G0 := gd X0 hx hby
  have pre0 : ∀ t, Steps p.tables e below (s₁.setTop (mkF m 0 #[dv d0, .second] [])) t → Steps p.tables e below (s₁.setTop (entryFrame m #[(.double d0)] 2)) t := fun t k => castTop (ef3 m d0) k
  obtain ⟨T1, X1, e1, st1⟩ := natS X0 hx hZ (y := (⟨"java/lang/Math", "abs", "(D)D"⟩ : MethodName)) hown (wd hw 16 rfl) (wd hw 17 rfl) (wd hw 18 rfl) (wd hw 19 rfl) (by decide) e0 (W := 0) (F := fun a' => a' = #[.double d0] ∧ Jvm.Free.Fl.NoNaN64 d0) (fun h => Jvm.Free.Fl.Abs.absD_pays d0 h (by decide) (by decide)) (g := (mkF m 1 #[dv d0, .second] [(.double d0)])) rfl (by rw [hml]; rfl) (argsL := [(.double d0)]) (rest := []) (lenOf pd_0 rfl) rfl (by show 2 * 0 + _ ≤ _; exact Nat.le_of_eq rfl) (hb hby d3_1) (by decide) (by decide) ⟨rfl, (hnn1)⟩ rfl
  have G1 := gd X1 hx hby
  obtain ⟨T3, X3, e3, st3⟩ : ∃ T' : State, Stand p l e (room_of_3) s m #[(.double d0)] below meth c T' [] 0 0 ∧ T'.heap = h0 ∧ ∀ target, Steps p.tables e below (T'.setTop (mkF m 16 #[dv d0, .second] [(.int (if (0 : Int32) < (cmpValue (FP.dcmp (d0 &&& (0x7fffffffffffffff : UInt64)) (9218868437227405311 : UInt64)) .g) then (0 : Int32) else (1 : Int32)))])) target → Steps p.tables e below (T1.setTop (mkF m 8 #[dv d0, .second] [(.int (cmpValue (FP.dcmp (d0 &&& (0x7fffffffffffffff : UInt64)) (9218868437227405311 : UInt64)) .g))])) target := by
    by_cases hc8_2 : (0 : Int32) < (cmpValue (FP.dcmp (d0 &&& (0x7fffffffffffffff : UInt64)) (9218868437227405311 : UInt64)) .g)
    · refine ⟨T1, X1, e1, fun target kt => ?_⟩
      refine mifYes 15 G1 d3_8 ((if0 _ _).trans (tlt hc8_2).2.2.1) (by decide) rfl ?_
      refine miconst 16 G1 d3_15 (v := (0 : Int32)) rfl rfl ?_
      exact castTop (g' := (mkF m 16 #[dv d0, .second] [(.int (if (0 : Int32) < (cmpValue (FP.dcmp (d0 &&& (0x7fffffffffffffff : UInt64)) (9218868437227405311 : UInt64)) .g) then (0 : Int32) else (1 : Int32)))])) (by simp only [if_pos hc8_2]) kt
    · refine ⟨T1, X1, e1, fun target kt => ?_⟩
      refine mifNo 11 G1 d3_8 ((if0 _ _).trans (flt hc8_2).2.2.1) rfl ?_
      refine miconst 12 G1 d3_11 (v := (1 : Int32)) rfl rfl ?_
      refine mgoto 16 G1 d3_12 (by decide) rfl ?_
      exact castTop (g' := (mkF m 16 #[dv d0, .second] [(.int (if (0 : Int32) < (cmpValue (FP.dcmp (d0 &&& (0x7fffffffffffffff : UInt64)) (9218868437227405311 : UInt64)) .g) then (0 : Int32) else (1 : Int32)))])) (by simp only [if_neg hc8_2]) kt
  have G3 := gd X3 hx hby
  obtain ⟨fs, hr, hrun, hended, hW, hsame⟩ := X3.leave (v := some (.int (if (0 : Int32) < (cmpValue (FP.dcmp (d0 &&& (0x7fffffffffffffff : UInt64)) (9218868437227405311 : UInt64)) .g) then (0 : Int32) else (1 : Int32)))) (fun h => by rw [Bd.returns] at h; cases h)
  refine ⟨_, _, pre0 _ ?_, hrun, hended, _, _, rfl, ?_, ⟨_, rfl⟩, hW, hsame.mono (by decide) (by decide)⟩
  · show Steps p.tables e below (s₁.setTop (mkF m 0 #[dv d0, .second] [])) _
    refine mdloadN 1 G0 d3_0 rfl rfl ?_
    refine st1 _ ?_
    show Steps p.tables e below (T1.setTop (mkF m 4 #[dv d0, .second] [(.double (d0 &&& (0x7fffffffffffffff : UInt64)))])) _
    refine X1.ldc2DoubleC hx hown (mvT hZ (wd hw 20 rfl)) (g := (mkF m 4 #[dv d0, .second] [(.double (d0 &&& (0x7fffffffffffffff : UInt64)))])) rfl (hb hby d3_4) _ ?_
    show Steps p.tables e below (T1.setTop (mkF m 7 #[dv d0, .second] [(.double (9218868437227405311 : UInt64)), (.double (d0 &&& (0x7fffffffffffffff : UInt64)))])) _
    refine mdcmp 8 G1 d3_7 rfl ?_
    refine st3 _ ?_
    exact retOut X3 hx Bd.returns (by first | rfl | ((repeat' split) <;> rfl)) (Or.inl ⟨rfl, by simp, _, rfl⟩) (hb hby d3_16) hr
  · show Q3 Z d0 h0 n0 _ T3.heap _
    rw [e3]
    exact ⟨by simp only [rv3], rfl, rfl⟩
theorem d5_0 : decode jdk_117_method_7_code 0 = .ok (.dload_n 0, 1) := by decide +kernel
theorem d5_1 : decode jdk_117_method_7_code 1 = .ok (.invokestatic 38, 3) := by decide +kernel
theorem d5_4 : decode jdk_117_method_7_code 4 = .ok (.ldc2_w 111, 3) := by decide +kernel
theorem d5_7 : decode jdk_117_method_7_code 7 = .ok (.dcmp .l, 1) := by decide +kernel
theorem d5_8 : decode jdk_117_method_7_code 8 = .ok (.ifCond .le 7, 3) := by decide +kernel
theorem d5_11 : decode jdk_117_method_7_code 11 = .ok (.iconst 1, 1) := by decide +kernel
theorem d5_12 : decode jdk_117_method_7_code 12 = .ok (.goto 4, 3) := by decide +kernel
theorem d5_15 : decode jdk_117_method_7_code 15 = .ok (.iconst 0, 1) := by decide +kernel
theorem d5_16 : decode jdk_117_method_7_code 16 = .ok (.ireturn, 1) := by decide +kernel
theorem pn_5 : plainName "java/lang/Double" = true := by first | (simp [plainName, overriddenIn]; done) | decide +kernel
theorem ef5 (m : MethodId) (d0 : UInt64) : entryFrame m #[(.double d0)] 2 = mkF m 0 #[dv d0, .second] [] := by first | (simp [entryFrame, mkF, argsToLocals, Value.category]; done) | rfl
abbrev room_of_5 : Room := { frames := 1, cells := 0, slots := 0, locals := 13 }
def rv5 (d0 : UInt64) : Int32 := (if (0 : Int32) < (cmpValue (FP.dcmp (d0 &&& (0x7fffffffffffffff : UInt64)) (9218868437227405311 : UInt64)) .l) then (1 : Int32) else (0 : Int32))
def Q5 (Z : State) (d0 : UInt64) (h0 : Heap) (n0 : Nat) (v : Option Value) (h : Heap) (L : List Loc) : Prop := v = some (.int (rv5 d0)) ∧ L = [] ∧ h = h0
set_option maxRecDepth 65536 in
set_option maxHeartbeats 40000000 in
theorem rm5 (l : Launch) (Z : State) (a0 : Array Value) (hw : ∀ d ∈ tables_1, d.before a0 Z = true) (ws : List Jvm.Cond) (d0 : UInt64)  (h0 : Heap) (n0 : Nat) (Z0 : n0 ≤ h0.size) (hnn1 : Jvm.Free.Fl.NoNaN64 d0) :
    MetFree l (⟨"java/lang/Double", "isInfinite", "(D)Z"⟩ : MethodName) (head1 (Jvm.Cond.code (⟨"java/lang/Double", "isInfinite", "(D)Z"⟩ : MethodName) jdk_117_method_7_code 2 (some .boolean) :: ws) (room_of_5)) (fun a U => a = #[(.double d0)] ∧ Z.Warmed39 U.vm ∧ U.heap = h0) (fun _ _ _ _ _ => True) (fun _ U o U' => ∃ v L, o = .returned v ∧ Q5 Z d0 h0 n0 v U'.heap L ∧ FrameEnd U o U' L (room_of_5).cells (room_of_5).slots) := by
  refine MetFree.of_bodySF (plainFor_of_name pn_5) hisR ?_
  intro p e s m args below meth c s₁ Bd hml0 hP hK
  obtain ⟨rfl, hZ, hh⟩ := hP
  have hx := Bd.exec
  have hby := Bd.bytes
  have hml : c.maxLocals = 2 := hml0
  have hown : s.vm.findClass "java/lang/Double" = some m.cls := findClass_of_methodNamed Bd.named
  have hnm := (name_of_methodNamed Bd.named Bd.method).1
  have X0 : Stand p l e (room_of_5) s m #[(.double d0)] below meth c s₁ [] 0 0 := Stand.of_body Bd
  have e0 : s₁.heap = h0 := by rw [← hh, Bd.state]; rfl
  have N0 := Fr.nil n0
  have G0 := gd X0 hx hby
  have pre0 : ∀ t, Steps p.tables e below (s₁.setTop (mkF m 0 #[dv d0, .second] [])) t → Steps p.tables e below (s₁.setTop (entryFrame m #[(.double d0)] 2)) t := fun t k => castTop (ef5 m d0) k
  obtain ⟨T1, X1, e1, st1⟩ := natS X0 hx hZ (y := (⟨"java/lang/Math", "abs", "(D)D"⟩ : MethodName)) hown (wd hw 16 rfl) (wd hw 17 rfl) (wd hw 18 rfl) (wd hw 19 rfl) (by decide) e0 (W := 0) (F := fun a' => a' = #[.double d0] ∧ Jvm.Free.Fl.NoNaN64 d0) (fun h => Jvm.Free.Fl.Abs.absD_pays d0 h (by decide) (by decide)) (g := (mkF m 1 #[dv d0, .second] [(.double d0)])) rfl (by rw [hml]; rfl) (argsL := [(.double d0)]) (rest := []) (lenOf pd_0 rfl) rfl (by show 2 * 0 + _ ≤ _; exact Nat.le_of_eq rfl) (hb hby d5_1) (by decide) (by decide) ⟨rfl, (hnn1)⟩ rfl
  have G1 := gd X1 hx hby
  obtain ⟨T3, X3, e3, st3⟩ : ∃ T' : State, Stand p l e (room_of_5) s m #[(.double d0)] below meth c T' [] 0 0 ∧ T'.heap = h0 ∧ ∀ target, Steps p.tables e below (T'.setTop (mkF m 16 #[dv d0, .second] [(.int (if (0 : Int32) < (cmpValue (FP.dcmp (d0 &&& (0x7fffffffffffffff : UInt64)) (9218868437227405311 : UInt64)) .l) then (1 : Int32) else (0 : Int32)))])) target → Steps p.tables e below (T1.setTop (mkF m 8 #[dv d0, .second] [(.int (cmpValue (FP.dcmp (d0 &&& (0x7fffffffffffffff : UInt64)) (9218868437227405311 : UInt64)) .l))])) target := by
    by_cases hc8_2 : (0 : Int32) < (cmpValue (FP.dcmp (d0 &&& (0x7fffffffffffffff : UInt64)) (9218868437227405311 : UInt64)) .l)
    · refine ⟨T1, X1, e1, fun target kt => ?_⟩
      refine mifNo 11 G1 d5_8 ((if0 _ _).trans (tlt hc8_2).2.2.2) rfl ?_
      refine miconst 12 G1 d5_11 (v := (1 : Int32)) rfl rfl ?_
      refine mgoto 16 G1 d5_12 (by decide) rfl ?_
      exact castTop (g' := (mkF m 16 #[dv d0, .second] [(.int (if (0 : Int32) < (cmpValue (FP.dcmp (d0 &&& (0x7fffffffffffffff : UInt64)) (9218868437227405311 : UInt64)) .l) then (1 : Int32) else (0 : Int32)))])) (by simp only [if_pos hc8_2]) kt
    · refine ⟨T1, X1, e1, fun target kt => ?_⟩
      refine mifYes 15 G1 d5_8 ((if0 _ _).trans (flt hc8_2).2.2.2) (by decide) rfl ?_
      refine miconst 16 G1 d5_15 (v := (0 : Int32)) rfl rfl ?_
      exact castTop (g' := (mkF m 16 #[dv d0, .second] [(.int (if (0 : Int32) < (cmpValue (FP.dcmp (d0 &&& (0x7fffffffffffffff : UInt64)) (9218868437227405311 : UInt64)) .l) then (1 : Int32) else (0 : Int32)))])) (by simp only [if_neg hc8_2]) kt
  have G3 := gd X3 hx hby
  obtain ⟨fs, hr, hrun, hended, hW, hsame⟩ := X3.leave (v := some (.int (if (0 : Int32) < (cmpValue (FP.dcmp (d0 &&& (0x7fffffffffffffff : UInt64)) (9218868437227405311 : UInt64)) .l) then (1 : Int32) else (0 : Int32)))) (fun h => by rw [Bd.returns] at h; cases h)
  refine ⟨_, _, pre0 _ ?_, hrun, hended, _, _, rfl, ?_, ⟨_, rfl⟩, hW, hsame.mono (by decide) (by decide)⟩
  · show Steps p.tables e below (s₁.setTop (mkF m 0 #[dv d0, .second] [])) _
    refine mdloadN 1 G0 d5_0 rfl rfl ?_
    refine st1 _ ?_
    show Steps p.tables e below (T1.setTop (mkF m 4 #[dv d0, .second] [(.double (d0 &&& (0x7fffffffffffffff : UInt64)))])) _
    refine X1.ldc2DoubleC hx hown (mvT hZ (wd hw 20 rfl)) (g := (mkF m 4 #[dv d0, .second] [(.double (d0 &&& (0x7fffffffffffffff : UInt64)))])) rfl (hb hby d5_4) _ ?_
    show Steps p.tables e below (T1.setTop (mkF m 7 #[dv d0, .second] [(.double (9218868437227405311 : UInt64)), (.double (d0 &&& (0x7fffffffffffffff : UInt64)))])) _
    refine mdcmp 8 G1 d5_7 rfl ?_
    refine st3 _ ?_
    exact retOut X3 hx Bd.returns (by first | rfl | ((repeat' split) <;> rfl)) (Or.inl ⟨rfl, by simp, _, rfl⟩) (hb hby d5_16) hr
  · show Q5 Z d0 h0 n0 _ T3.heap _
    rw [e3]
    exact ⟨by simp only [rv5], rfl, rfl⟩
theorem pd_1 : parseMethodDescriptor "(D)Z" = some ⟨[.double], some .boolean⟩ := by decide +kernel
theorem d1_0 : decode prog_14_method_1_code 0 = .ok (.aload_n 0, 1) := by decide +kernel
theorem d1_1 : decode prog_14_method_1_code 1 = .ok (.invokespecial 1, 3) := by decide +kernel
theorem d1_4 : decode prog_14_method_1_code 4 = .ok (.dload_n 1, 1) := by decide +kernel
theorem d1_5 : decode prog_14_method_1_code 5 = .ok (.invokestatic 7, 3) := by decide +kernel
theorem d1_8 : decode prog_14_method_1_code 8 = .ok (.ifCond .eq 10, 3) := by decide +kernel
theorem d1_11 : decode prog_14_method_1_code 11 = .ok (.dload_n 3, 1) := by decide +kernel
theorem d1_12 : decode prog_14_method_1_code 12 = .ok (.invokestatic 7, 3) := by decide +kernel
theorem d1_15 : decode prog_14_method_1_code 15 = .ok (.ifCond .ne 18, 3) := by decide +kernel
theorem d1_33 : decode prog_14_method_1_code 33 = .ok (.dload 5, 2) := by decide +kernel
theorem d1_35 : decode prog_14_method_1_code 35 = .ok (.dconst 0, 1) := by decide +kernel
theorem d1_36 : decode prog_14_method_1_code 36 = .ok (.dcmp .l, 1) := by decide +kernel
theorem d1_37 : decode prog_14_method_1_code 37 = .ok (.ifCond .le 11, 3) := by decide +kernel
theorem d1_40 : decode prog_14_method_1_code 40 = .ok (.dload 5, 2) := by decide +kernel
theorem d1_42 : decode prog_14_method_1_code 42 = .ok (.invokestatic 22, 3) := by decide +kernel
theorem d1_45 : decode prog_14_method_1_code 45 = .ok (.ifCond .eq 18, 3) := by decide +kernel
theorem d1_63 : decode prog_14_method_1_code 63 = .ok (.dload 7, 2) := by decide +kernel
theorem d1_65 : decode prog_14_method_1_code 65 = .ok (.dconst 0, 1) := by decide +kernel
theorem d1_66 : decode prog_14_method_1_code 66 = .ok (.dcmp .l, 1) := by decide +kernel
theorem d1_67 : decode prog_14_method_1_code 67 = .ok (.ifCond .lt 11, 3) := by decide +kernel
theorem d1_70 : decode prog_14_method_1_code 70 = .ok (.dload 7, 2) := by decide +kernel
theorem d1_72 : decode prog_14_method_1_code 72 = .ok (.invokestatic 22, 3) := by decide +kernel
theorem d1_75 : decode prog_14_method_1_code 75 = .ok (.ifCond .eq 18, 3) := by decide +kernel
theorem d1_93 : decode prog_14_method_1_code 93 = .ok (.aload_n 0, 1) := by decide +kernel
theorem d1_94 : decode prog_14_method_1_code 94 = .ok (.dload_n 1, 1) := by decide +kernel
theorem d1_95 : decode prog_14_method_1_code 95 = .ok (.putfield 29, 3) := by decide +kernel
theorem d1_98 : decode prog_14_method_1_code 98 = .ok (.aload_n 0, 1) := by decide +kernel
theorem d1_99 : decode prog_14_method_1_code 99 = .ok (.dload_n 3, 1) := by decide +kernel
theorem d1_100 : decode prog_14_method_1_code 100 = .ok (.putfield 35, 3) := by decide +kernel
theorem d1_103 : decode prog_14_method_1_code 103 = .ok (.aload_n 0, 1) := by decide +kernel
theorem d1_104 : decode prog_14_method_1_code 104 = .ok (.dload 5, 2) := by decide +kernel
theorem d1_106 : decode prog_14_method_1_code 106 = .ok (.putfield 38, 3) := by decide +kernel
theorem d1_109 : decode prog_14_method_1_code 109 = .ok (.aload_n 0, 1) := by decide +kernel
theorem d1_110 : decode prog_14_method_1_code 110 = .ok (.dload 7, 2) := by decide +kernel
theorem d1_112 : decode prog_14_method_1_code 112 = .ok (.putfield 41, 3) := by decide +kernel
theorem d1_115 : decode prog_14_method_1_code 115 = .ok (.return_, 1) := by decide +kernel
theorem pn_1 : plainName "com/example/crowded_platform/crowdedplatform/movement/Body" = true := by first | (simp [plainName, overriddenIn]; done) | decide +kernel
theorem ef1 (m : MethodId) (o0 : Addr) (d1 : UInt64) (d2 : UInt64) (d3 : UInt64) (d4 : UInt64) : entryFrame m #[(.ref o0), (.double d1), (.double d2), (.double d3), (.double d4)] 9 = mkF m 0 #[rv o0, dv d1, .second, dv d2, .second, dv d3, .second, dv d4, .second] [] := by first | (simp [entryFrame, mkF, argsToLocals, Value.category]; done) | rfl
abbrev room_of_1 : Room := { frames := 2, cells := 0, slots := 0, locals := 26 }
def Q1 (Z : State) (o0 : Addr) (d1 : UInt64) (d2 : UInt64) (d3 : UInt64) (d4 : UInt64) (h0 : Heap) (n0 : Nat) (v : Option Value) (h : Heap) (L : List Loc) : Prop := v = none ∧ Fr n0 L ∧ Keep h0 h [o0] ∧ Exa Z h o0 "com/example/crowded_platform/crowdedplatform/movement/Body" ∧ Fld Z h o0 "com/example/crowded_platform/crowdedplatform/movement/Body" "x" "D" (.double d1) ∧ Fld Z h o0 "com/example/crowded_platform/crowdedplatform/movement/Body" "y" "D" (.double d2) ∧ Fld Z h o0 "com/example/crowded_platform/crowdedplatform/movement/Body" "radius" "D" (.double d3) ∧ Fld Z h o0 "com/example/crowded_platform/crowdedplatform/movement/Body" "desiredSpeed" "D" (.double d4) ∧ Fld Z h o0 "com/example/crowded_platform/crowdedplatform/movement/Body" "vx" "D" (.double (0 : UInt64)) ∧ Fld Z h o0 "com/example/crowded_platform/crowdedplatform/movement/Body" "vy" "D" (.double (0 : UInt64))
set_option maxRecDepth 65536 in
set_option maxHeartbeats 40000000 in
theorem rm1 (l : Launch) (Z : State) (a0 : Array Value) (hw : ∀ d ∈ tables_1, d.before a0 Z = true) (ws : List Jvm.Cond) (o0 : Addr) (d1 : UInt64) (d2 : UInt64) (d3 : UInt64) (d4 : UInt64)  (h0 : Heap) (n0 : Nat) (Z0 : n0 ≤ h0.size) (E_o0 : Exa Z h0 o0 "com/example/crowded_platform/crowdedplatform/movement/Body") (g_o0 : n0 ≤ o0) (F_x_o0 : Fld Z h0 o0 "com/example/crowded_platform/crowdedplatform/movement/Body" "x" "D" (.double (0 : UInt64))) (F_y_o0 : Fld Z h0 o0 "com/example/crowded_platform/crowdedplatform/movement/Body" "y" "D" (.double (0 : UInt64))) (F_radius_o0 : Fld Z h0 o0 "com/example/crowded_platform/crowdedplatform/movement/Body" "radius" "D" (.double (0 : UInt64))) (F_desiredSpeed_o0 : Fld Z h0 o0 "com/example/crowded_platform/crowdedplatform/movement/Body" "desiredSpeed" "D" (.double (0 : UInt64))) (F_vx_o0 : Fld Z h0 o0 "com/example/crowded_platform/crowdedplatform/movement/Body" "vx" "D" (.double (0 : UInt64))) (F_vy_o0 : Fld Z h0 o0 "com/example/crowded_platform/crowdedplatform/movement/Body" "vy" "D" (.double (0 : UInt64))) (hp_hnn1_5 : Jvm.Free.Fl.NoNaN64 d1) (hf8 : ¬ ((rv3 d1) = (0 : Int32))) (hp_hnn1_12 : Jvm.Free.Fl.NoNaN64 d2) (hf15 : ¬ ((rv3 d2) = (0 : Int32))) (hf37 : (0 : Int32) < (cmpValue (FP.dcmp d3 (0 : UInt64)) .l)) (hp_hnn1_42 : Jvm.Free.Fl.NoNaN64 d3) (hf45 : (rv5 d3) = (0 : Int32)) (hf67 : ¬ ((cmpValue (FP.dcmp d4 (0 : UInt64)) .l) < (0 : Int32))) (hp_hnn1_72 : Jvm.Free.Fl.NoNaN64 d4) (hf75 : (rv5 d4) = (0 : Int32)) :
    MetFree l (⟨"com/example/crowded_platform/crowdedplatform/movement/Body", "<init>", "(DDDD)V"⟩ : MethodName) (head1 (Jvm.Cond.code (⟨"com/example/crowded_platform/crowdedplatform/movement/Body", "<init>", "(DDDD)V"⟩ : MethodName) prog_14_method_1_code 9 none :: ws) (room_of_1)) (fun a U => a = #[(.ref o0), (.double d1), (.double d2), (.double d3), (.double d4)] ∧ Z.Warmed39 U.vm ∧ U.heap = h0) (fun _ _ _ _ _ => True) (fun _ U o U' => ∃ v L, o = .returned v ∧ Q1 Z o0 d1 d2 d3 d4 h0 n0 v U'.heap L ∧ FrameEnd U o U' L (room_of_1).cells (room_of_1).slots) := by
  refine MetFree.of_bodySF (plainFor_of_name pn_1) hisR ?_
  intro p e s m args below meth c s₁ Bd hml0 hP hK
  obtain ⟨rfl, hZ, hh⟩ := hP
  have hx := Bd.exec
  have hby := Bd.bytes
  have hml : c.maxLocals = 9 := hml0
  have hown : s.vm.findClass "com/example/crowded_platform/crowdedplatform/movement/Body" = some m.cls := findClass_of_methodNamed Bd.named
  have hnm := (name_of_methodNamed Bd.named Bd.method).1
  have X0 : Stand p l e (room_of_1) s m #[(.ref o0), (.double d1), (.double d2), (.double d3), (.double d4)] below meth c s₁ [] 0 0 := Stand.of_body Bd
  have e0 : s₁.heap = h0 := by rw [← hh, Bd.state]; rfl
  have N0 := Fr.nil n0
  have G0 := gd X0 hx hby
  have pre0 : ∀ t, Steps p.tables e below (s₁.setTop (mkF m 0 #[rv o0, dv d1, .second, dv d2, .second, dv d3, .second, dv d4, .second] [])) t → Steps p.tables e below (s₁.setTop (entryFrame m #[(.ref o0), (.double d1), (.double d2), (.double d3), (.double d4)] 9)) t := fun t k => castTop (ef1 m o0 d1 d2 d3 d4) k
  obtain ⟨T1, X1, e1, st1⟩ := initO X0 hx hZ hown (wd hw 9 rfl) (wd hw 10 rfl) (wd hw 11 rfl) e0 (g := (mkF m 1 #[rv o0, dv d1, .second, dv d2, .second, dv d3, .second, dv d4, .second] [(.ref o0)])) rfl (by rw [hml]; rfl) rfl (hb hby d1_1) (by decide) (W := 0) (by show 2 * 0 + _ ≤ _; exact Nat.le_of_eq rfl) (by decide)
  have G1 := gd X1 hx hby
  obtain ⟨_, _, ⟨T2, L2, k2, n2⟩, -, X2, ⟨Lc2, hQ2, l2, y2, z2⟩, st2⟩ := Jvm.LawKit.callS X1 hx (y := (⟨"java/lang/Double", "isFinite", "(D)Z"⟩ : MethodName)) hown (mvT hZ (wd hw 12 rfl)) (mvT hZ (wd hw 13 rfl)) (mvT hZ (wd hw 14 rfl)) (mvT hZ (wd hw 15 rfl)) (by decide) (backOf (W := 0) (rm3 l Z a0 hw [] d1 h0 n0 Z0 (hp_hnn1_5)) hZ (wd hw 15 rfl) (wd hw 14 rfl) (by decide) (by decide)) (g := (mkF m 5 #[rv o0, dv d1, .second, dv d2, .second, dv d3, .second, dv d4, .second] [(.double d1)])) rfl (by rw [hml]; rfl) (argsL := [(.double d1)]) (rest := []) (lenOf pd_1 rfl) rfl (by show 2 * 0 + _ ≤ _; exact Nat.le_of_eq rfl) (hb hby d1_5) (fun _ _ => ⟨rfl, e1, (by decide : 0 + 0 ≤ _), (by decide : 0 + 0 ≤ _)⟩)
  dsimp only [Pt.U, Pt.locs, Pt.cells, Pt.slots] at X2 l2 y2 z2 st2 hQ2
  replace l2 : ([] ++ Lc2) = L2 := l2.symm
  subst l2 y2 z2
  obtain ⟨rfl, rfl, e2⟩ := hQ2
  simp only [List.append_nil, Nat.add_zero] at X2
  have G2 := gd X2 hx hby
  obtain ⟨_, _, ⟨T3, L3, k3, n3⟩, -, X3, ⟨Lc3, hQ3, l3, y3, z3⟩, st3⟩ := Jvm.LawKit.callS X2 hx (y := (⟨"java/lang/Double", "isFinite", "(D)Z"⟩ : MethodName)) hown (mvT hZ (wd hw 12 rfl)) (mvT hZ (wd hw 13 rfl)) (mvT hZ (wd hw 14 rfl)) (mvT hZ (wd hw 15 rfl)) (by decide) (backOf (W := 0) (rm3 l Z a0 hw [] d2 h0 n0 Z0 (hp_hnn1_12)) hZ (wd hw 15 rfl) (wd hw 14 rfl) (by decide) (by decide)) (g := (mkF m 12 #[rv o0, dv d1, .second, dv d2, .second, dv d3, .second, dv d4, .second] [(.double d2)])) rfl (by rw [hml]; rfl) (argsL := [(.double d2)]) (rest := []) (lenOf pd_1 rfl) rfl (by show 2 * 0 + _ ≤ _; exact Nat.le_of_eq rfl) (hb hby d1_12) (fun _ _ => ⟨rfl, e2, (by decide : 0 + 0 ≤ _), (by decide : 0 + 0 ≤ _)⟩)
  dsimp only [Pt.U, Pt.locs, Pt.cells, Pt.slots] at X3 l3 y3 z3 st3 hQ3
  replace l3 : ([] ++ Lc3) = L3 := l3.symm
  subst l3 y3 z3
  obtain ⟨rfl, rfl, e3⟩ := hQ3
  simp only [List.append_nil, Nat.add_zero] at X3
  have G3 := gd X3 hx hby
  obtain ⟨_, _, ⟨T4, L4, k4, n4⟩, -, X4, ⟨Lc4, hQ4, l4, y4, z4⟩, st4⟩ := Jvm.LawKit.callS X3 hx (y := (⟨"java/lang/Double", "isInfinite", "(D)Z"⟩ : MethodName)) hown (mvT hZ (wd hw 21 rfl)) (mvT hZ (wd hw 22 rfl)) (mvT hZ (wd hw 14 rfl)) (mvT hZ (wd hw 23 rfl)) (by decide) (backOf (W := 0) (rm5 l Z a0 hw [] d3 h0 n0 Z0 (hp_hnn1_42)) hZ (wd hw 23 rfl) (wd hw 14 rfl) (by decide) (by decide)) (g := (mkF m 42 #[rv o0, dv d1, .second, dv d2, .second, dv d3, .second, dv d4, .second] [(.double d3)])) rfl (by rw [hml]; rfl) (argsL := [(.double d3)]) (rest := []) (lenOf pd_1 rfl) rfl (by show 2 * 0 + _ ≤ _; exact Nat.le_of_eq rfl) (hb hby d1_42) (fun _ _ => ⟨rfl, e3, (by decide : 0 + 0 ≤ _), (by decide : 0 + 0 ≤ _)⟩)
  dsimp only [Pt.U, Pt.locs, Pt.cells, Pt.slots] at X4 l4 y4 z4 st4 hQ4
  replace l4 : ([] ++ Lc4) = L4 := l4.symm
  subst l4 y4 z4
  obtain ⟨rfl, rfl, e4⟩ := hQ4
  simp only [List.append_nil, Nat.add_zero] at X4
  have G4 := gd X4 hx hby
  obtain ⟨_, _, ⟨T5, L5, k5, n5⟩, -, X5, ⟨Lc5, hQ5, l5, y5, z5⟩, st5⟩ := Jvm.LawKit.callS X4 hx (y := (⟨"java/lang/Double", "isInfinite", "(D)Z"⟩ : MethodName)) hown (mvT hZ (wd hw 21 rfl)) (mvT hZ (wd hw 22 rfl)) (mvT hZ (wd hw 14 rfl)) (mvT hZ (wd hw 23 rfl)) (by decide) (backOf (W := 0) (rm5 l Z a0 hw [] d4 h0 n0 Z0 (hp_hnn1_72)) hZ (wd hw 23 rfl) (wd hw 14 rfl) (by decide) (by decide)) (g := (mkF m 72 #[rv o0, dv d1, .second, dv d2, .second, dv d3, .second, dv d4, .second] [(.double d4)])) rfl (by rw [hml]; rfl) (argsL := [(.double d4)]) (rest := []) (lenOf pd_1 rfl) rfl (by show 2 * 0 + _ ≤ _; exact Nat.le_of_eq rfl) (hb hby d1_72) (fun _ _ => ⟨rfl, e4, (by decide : 0 + 0 ≤ _), (by decide : 0 + 0 ≤ _)⟩)
  dsimp only [Pt.U, Pt.locs, Pt.cells, Pt.slots] at X5 l5 y5 z5 st5 hQ5
  replace l5 : ([] ++ Lc5) = L5 := l5.symm
  subst l5 y5 z5
  obtain ⟨rfl, rfl, e5⟩ := hQ5
  simp only [List.append_nil, Nat.add_zero] at X5
  have G5 := gd X5 hx hby
  obtain ⟨T6, h6, X6, e6, W6, st6⟩ := putF X5 hx hZ hown (host := "") (Or.inl (wd hw 24 rfl)) Via.refl e5 F_x_o0 E_o0 (Or.inl (wd hw 25 rfl)) (wd hw 2 rfl) (ty := .double) (by decide) rfl rfl (g := (mkF m 95 #[rv o0, dv d1, .second, dv d2, .second, dv d3, .second, dv d4, .second] [(.double d1), (.ref o0)])) rfl rfl (hb hby d1_95)
  have G6 := gd X6 hx hby
  have N6 := Fr.snoc X6 N0 g_o0
  have f7 := E_o0.wr W6
  have f10 := F_y_o0.other W6 (Or.inr (slot_ne (Or.inl (wd hw 27 rfl)) (Or.inl (wd hw 25 rfl)) (by decide) (t := .double) (t' := .double) (by decide) (by decide)))
  have f11 := F_radius_o0.other W6 (Or.inr (slot_ne (Or.inr (wd hw 29 rfl)) (Or.inl (wd hw 25 rfl)) (by decide) (t := .double) (t' := .double) (by decide) (by decide)))
  have f12 := F_desiredSpeed_o0.other W6 (Or.inr (slot_ne (Or.inr (wd hw 31 rfl)) (Or.inl (wd hw 25 rfl)) (by decide) (t := .double) (t' := .double) (by decide) (by decide)))
  have f13 := F_vx_o0.other W6 (Or.inr (slot_ne (Or.inl (wd hw 38 rfl)) (Or.inl (wd hw 25 rfl)) (by decide) (t := .double) (t' := .double) (by decide) (by decide)))
  have f14 := F_vy_o0.other W6 (Or.inr (slot_ne (Or.inl (wd hw 40 rfl)) (Or.inl (wd hw 25 rfl)) (by decide) (t := .double) (t' := .double) (by decide) (by decide)))
  have Z6 := Nat.le_trans Z0 (Keep.of_wr W6).1
  have K6 : Keep h0 h6 [o0] := (Keep.refl h0 [o0]).wr W6 (Or.inl (List.mem_of_getElem? (i := 0) rfl))
  have Fw6 := F_x_o0.same W6
  obtain ⟨T15, h15, X15, e15, W15, st15⟩ := putF X6 hx hZ hown (host := "") (Or.inl (wd hw 26 rfl)) Via.refl e6 f10 f7 (Or.inl (wd hw 27 rfl)) (wd hw 2 rfl) (ty := .double) (by decide) rfl rfl (g := (mkF m 100 #[rv o0, dv d1, .second, dv d2, .second, dv d3, .second, dv d4, .second] [(.double d2), (.ref o0)])) rfl rfl (hb hby d1_100)
  have G15 := gd X15 hx hby
  have N15 := Fr.snoc X15 N6 g_o0
  have f16 := f7.wr W15
  have f18 := Fw6.other W15 (Or.inr (slot_ne (Or.inl (wd hw 25 rfl)) (Or.inl (wd hw 27 rfl)) (by decide) (t := .double) (t' := .double) (by decide) (by decide)))
  have f20 := f11.other W15 (Or.inr (slot_ne (Or.inr (wd hw 29 rfl)) (Or.inl (wd hw 27 rfl)) (by decide) (t := .double) (t' := .double) (by decide) (by decide)))
  have f21 := f12.other W15 (Or.inr (slot_ne (Or.inr (wd hw 31 rfl)) (Or.inl (wd hw 27 rfl)) (by decide) (t := .double) (t' := .double) (by decide) (by decide)))
  have f22 := f13.other W15 (Or.inr (slot_ne (Or.inl (wd hw 38 rfl)) (Or.inl (wd hw 27 rfl)) (by decide) (t := .double) (t' := .double) (by decide) (by decide)))
  have f23 := f14.other W15 (Or.inr (slot_ne (Or.inl (wd hw 40 rfl)) (Or.inl (wd hw 27 rfl)) (by decide) (t := .double) (t' := .double) (by decide) (by decide)))
  have Z15 := Nat.le_trans Z6 (Keep.of_wr W15).1
  have K15 : Keep h0 h15 [o0] := K6.wr W15 (Or.inl (List.mem_of_getElem? (i := 0) rfl))
  have Fw15 := f10.same W15
  obtain ⟨T24, h24, X24, e24, W24, st24⟩ := putF X15 hx hZ hown (host := "") (Or.inl (wd hw 28 rfl)) Via.refl e15 f20 f16 (Or.inr ⟨(wd hw 29 rfl), rfl, hnm⟩) (wd hw 2 rfl) (ty := .double) (by decide) rfl rfl (g := (mkF m 106 #[rv o0, dv d1, .second, dv d2, .second, dv d3, .second, dv d4, .second] [(.double d3), (.ref o0)])) rfl rfl (hb hby d1_106)
  have G24 := gd X24 hx hby
  have N24 := Fr.snoc X24 N15 g_o0
  have f25 := f16.wr W24
  have f27 := f18.other W24 (Or.inr (slot_ne (Or.inl (wd hw 25 rfl)) (Or.inr (wd hw 29 rfl)) (by decide) (t := .double) (t' := .double) (by decide) (by decide)))
  have f28 := Fw15.other W24 (Or.inr (slot_ne (Or.inl (wd hw 27 rfl)) (Or.inr (wd hw 29 rfl)) (by decide) (t := .double) (t' := .double) (by decide) (by decide)))
  have f30 := f21.other W24 (Or.inr (slot_ne (Or.inr (wd hw 31 rfl)) (Or.inr (wd hw 29 rfl)) (by decide) (t := .double) (t' := .double) (by decide) (by decide)))
  have f31 := f22.other W24 (Or.inr (slot_ne (Or.inl (wd hw 38 rfl)) (Or.inr (wd hw 29 rfl)) (by decide) (t := .double) (t' := .double) (by decide) (by decide)))
  have f32 := f23.other W24 (Or.inr (slot_ne (Or.inl (wd hw 40 rfl)) (Or.inr (wd hw 29 rfl)) (by decide) (t := .double) (t' := .double) (by decide) (by decide)))
  have Z24 := Nat.le_trans Z15 (Keep.of_wr W24).1
  have K24 : Keep h0 h24 [o0] := K15.wr W24 (Or.inl (List.mem_of_getElem? (i := 0) rfl))
  have Fw24 := f20.same W24
  obtain ⟨T33, h33, X33, e33, W33, st33⟩ := putF X24 hx hZ hown (host := "") (Or.inl (wd hw 30 rfl)) Via.refl e24 f30 f25 (Or.inr ⟨(wd hw 31 rfl), rfl, hnm⟩) (wd hw 2 rfl) (ty := .double) (by decide) rfl rfl (g := (mkF m 112 #[rv o0, dv d1, .second, dv d2, .second, dv d3, .second, dv d4, .second] [(.double d4), (.ref o0)])) rfl rfl (hb hby d1_112)
  have G33 := gd X33 hx hby
  have N33 := Fr.snoc X33 N24 g_o0
  have f34 := f25.wr W33
  have f36 := f27.other W33 (Or.inr (slot_ne (Or.inl (wd hw 25 rfl)) (Or.inr (wd hw 31 rfl)) (by decide) (t := .double) (t' := .double) (by decide) (by decide)))
  have f37 := f28.other W33 (Or.inr (slot_ne (Or.inl (wd hw 27 rfl)) (Or.inr (wd hw 31 rfl)) (by decide) (t := .double) (t' := .double) (by decide) (by decide)))
  have f38 := Fw24.other W33 (Or.inr (slot_ne (Or.inr (wd hw 29 rfl)) (Or.inr (wd hw 31 rfl)) (by decide) (t := .double) (t' := .double) (by decide) (by decide)))
  have f40 := f31.other W33 (Or.inr (slot_ne (Or.inl (wd hw 38 rfl)) (Or.inr (wd hw 31 rfl)) (by decide) (t := .double) (t' := .double) (by decide) (by decide)))
  have f41 := f32.other W33 (Or.inr (slot_ne (Or.inl (wd hw 40 rfl)) (Or.inr (wd hw 31 rfl)) (by decide) (t := .double) (t' := .double) (by decide) (by decide)))
  have Z33 := Nat.le_trans Z24 (Keep.of_wr W33).1
  have K33 : Keep h0 h33 [o0] := K24.wr W33 (Or.inl (List.mem_of_getElem? (i := 0) rfl))
  have Fw33 := f30.same W33
  obtain ⟨fs, hr, hrun, hended, hW, hsame⟩ := X33.leave (v := none) (fun _ => rfl)
  refine ⟨_, _, pre0 _ ?_, hrun, hended, _, _, rfl, ?_, ⟨_, rfl⟩, hW, hsame.mono (by decide) (by decide)⟩
  · show Steps p.tables e below (s₁.setTop (mkF m 0 #[rv o0, dv d1, .second, dv d2, .second, dv d3, .second, dv d4, .second] [])) _
    refine maloadN 1 G0 d1_0 rfl rfl rfl ?_
    refine st1 _ ?_
    show Steps p.tables e below (T1.setTop (mkF m 4 #[rv o0, dv d1, .second, dv d2, .second, dv d3, .second, dv d4, .second] [])) _
    refine mdloadN 5 G1 d1_4 rfl rfl ?_
    refine st2 _ ?_
    show Steps p.tables e below (T2.setTop (mkF m 8 #[rv o0, dv d1, .second, dv d2, .second, dv d3, .second, dv d4, .second] [(.int (rv3 d1))])) _
    refine mifNo 11 G2 d1_8 ((if0 _ _).trans (feq (hf8)).1) rfl ?_
    refine mdloadN 12 G2 d1_11 rfl rfl ?_
    refine st3 _ ?_
    show Steps p.tables e below (T3.setTop (mkF m 15 #[rv o0, dv d1, .second, dv d2, .second, dv d3, .second, dv d4, .second] [(.int (rv3 d2))])) _
    refine mifYes 33 G3 d1_15 ((if0 _ _).trans (feq (hf15)).2) (by decide) rfl ?_
    refine mdload 35 G3 d1_33 rfl rfl ?_
    refine mdconst0 36 G3 d1_35 (v := (0 : UInt64)) rfl rfl ?_
    refine mdcmp 37 G3 d1_36 rfl ?_
    refine mifNo 40 G3 d1_37 ((if0 _ _).trans (tlt (hf37)).2.2.2) rfl ?_
    refine mdload 42 G3 d1_40 rfl rfl ?_
    refine st4 _ ?_
    show Steps p.tables e below (T4.setTop (mkF m 45 #[rv o0, dv d1, .second, dv d2, .second, dv d3, .second, dv d4, .second] [(.int (rv5 d3))])) _
    refine mifYes 63 G4 d1_45 ((if0 _ _).trans (teq (hf45)).1) (by decide) rfl ?_
    refine mdload 65 G4 d1_63 rfl rfl ?_
    refine mdconst0 66 G4 d1_65 (v := (0 : UInt64)) rfl rfl ?_
    refine mdcmp 67 G4 d1_66 rfl ?_
    refine mifNo 70 G4 d1_67 ((if0 _ _).trans (flt (hf67)).1) rfl ?_
    refine mdload 72 G4 d1_70 rfl rfl ?_
    refine st5 _ ?_
    show Steps p.tables e below (T5.setTop (mkF m 75 #[rv o0, dv d1, .second, dv d2, .second, dv d3, .second, dv d4, .second] [(.int (rv5 d4))])) _
    refine mifYes 93 G5 d1_75 ((if0 _ _).trans (teq (hf75)).1) (by decide) rfl ?_
    refine maloadN 94 G5 d1_93 rfl rfl rfl ?_
    refine mdloadN 95 G5 d1_94 rfl rfl ?_
    refine st6 _ ?_
    show Steps p.tables e below (T6.setTop (mkF m 98 #[rv o0, dv d1, .second, dv d2, .second, dv d3, .second, dv d4, .second] [])) _
    refine maloadN 99 G6 d1_98 rfl rfl rfl ?_
    refine mdloadN 100 G6 d1_99 rfl rfl ?_
    refine st15 _ ?_
    show Steps p.tables e below (T15.setTop (mkF m 103 #[rv o0, dv d1, .second, dv d2, .second, dv d3, .second, dv d4, .second] [])) _
    refine maloadN 104 G15 d1_103 rfl rfl rfl ?_
    refine mdload 106 G15 d1_104 rfl rfl ?_
    refine st24 _ ?_
    show Steps p.tables e below (T24.setTop (mkF m 109 #[rv o0, dv d1, .second, dv d2, .second, dv d3, .second, dv d4, .second] [])) _
    refine maloadN 110 G24 d1_109 rfl rfl rfl ?_
    refine mdload 112 G24 d1_110 rfl rfl ?_
    refine st33 _ ?_
    show Steps p.tables e below (T33.setTop (mkF m 115 #[rv o0, dv d1, .second, dv d2, .second, dv d3, .second, dv d4, .second] [])) _
    exact X33.returnOut hx Bd.returns (hb hby d1_115) hr
  · show Q1 Z o0 d1 d2 d3 d4 h0 n0 _ T33.heap _
    rw [e33]
    exact ⟨rfl, N33, K33, f34, f36, f37, f38, Fw33, f40, f41⟩
theorem d6_0 : decode prog_14_method_16_code 0 = .ok (.aload_n 0, 1) := by decide +kernel
theorem d6_1 : decode prog_14_method_16_code 1 = .ok (.dload_n 1, 1) := by decide +kernel
theorem d6_2 : decode prog_14_method_16_code 2 = .ok (.putfield 44, 3) := by decide +kernel
theorem d6_5 : decode prog_14_method_16_code 5 = .ok (.aload_n 0, 1) := by decide +kernel
theorem d6_6 : decode prog_14_method_16_code 6 = .ok (.dload_n 3, 1) := by decide +kernel
theorem d6_7 : decode prog_14_method_16_code 7 = .ok (.putfield 47, 3) := by decide +kernel
theorem d6_10 : decode prog_14_method_16_code 10 = .ok (.aload_n 0, 1) := by decide +kernel
theorem d6_11 : decode prog_14_method_16_code 11 = .ok (.dup, 1) := by decide +kernel
theorem d6_12 : decode prog_14_method_16_code 12 = .ok (.getfield 29, 3) := by decide +kernel
theorem d6_15 : decode prog_14_method_16_code 15 = .ok (.dload_n 1, 1) := by decide +kernel
theorem d6_16 : decode prog_14_method_16_code 16 = .ok (.dload 5, 2) := by decide +kernel
theorem d6_18 : decode prog_14_method_16_code 18 = .ok (.dmul, 1) := by decide +kernel
theorem d6_19 : decode prog_14_method_16_code 19 = .ok (.dadd, 1) := by decide +kernel
theorem d6_20 : decode prog_14_method_16_code 20 = .ok (.putfield 29, 3) := by decide +kernel
theorem d6_23 : decode prog_14_method_16_code 23 = .ok (.aload_n 0, 1) := by decide +kernel
theorem d6_24 : decode prog_14_method_16_code 24 = .ok (.dup, 1) := by decide +kernel
theorem d6_25 : decode prog_14_method_16_code 25 = .ok (.getfield 35, 3) := by decide +kernel
theorem d6_28 : decode prog_14_method_16_code 28 = .ok (.dload_n 3, 1) := by decide +kernel
theorem d6_29 : decode prog_14_method_16_code 29 = .ok (.dload 5, 2) := by decide +kernel
theorem d6_31 : decode prog_14_method_16_code 31 = .ok (.dmul, 1) := by decide +kernel
theorem d6_32 : decode prog_14_method_16_code 32 = .ok (.dadd, 1) := by decide +kernel
theorem d6_33 : decode prog_14_method_16_code 33 = .ok (.putfield 35, 3) := by decide +kernel
theorem d6_36 : decode prog_14_method_16_code 36 = .ok (.return_, 1) := by decide +kernel
theorem pn_6 : plainName "com/example/crowded_platform/crowdedplatform/movement/Body" = true := by first | (simp [plainName, overriddenIn]; done) | decide +kernel
theorem ef6 (m : MethodId) (o0 : Addr) (d1 : UInt64) (d2 : UInt64) (d3 : UInt64) : entryFrame m #[(.ref o0), (.double d1), (.double d2), (.double d3)] 7 = mkF m 0 #[rv o0, dv d1, .second, dv d2, .second, dv d3, .second] [] := by first | (simp [entryFrame, mkF, argsToLocals, Value.category]; done) | rfl
abbrev room_of_6 : Room := { frames := 0, cells := 0, slots := 0, locals := 0 }
def Q6 (Z : State) (o0 : Addr) (d1 : UInt64) (d2 : UInt64) (d3 : UInt64) (u0 : UInt64) (u1 : UInt64) (u2 : UInt64) (u3 : UInt64) (h0 : Heap) (n0 : Nat) (v : Option Value) (h : Heap) (L : List Loc) : Prop := v = none ∧ Fr n0 L ∧ Keep h0 h [o0] ∧ Exa Z h o0 "com/example/crowded_platform/crowdedplatform/movement/Body" ∧ Fld Z h o0 "com/example/crowded_platform/crowdedplatform/movement/Body" "x" "D" (.double (FP.dadd u0 (FP.dmul d1 d3))) ∧ Fld Z h o0 "com/example/crowded_platform/crowdedplatform/movement/Body" "y" "D" (.double (FP.dadd u1 (FP.dmul d2 d3))) ∧ Fld Z h o0 "com/example/crowded_platform/crowdedplatform/movement/Body" "vx" "D" (.double d1) ∧ Fld Z h o0 "com/example/crowded_platform/crowdedplatform/movement/Body" "vy" "D" (.double d2)
set_option maxRecDepth 65536 in
set_option maxHeartbeats 40000000 in
theorem rm6 (l : Launch) (Z : State) (a0 : Array Value) (hw : ∀ d ∈ tables_1, d.before a0 Z = true) (ws : List Jvm.Cond) (o0 : Addr) (d1 : UInt64) (d2 : UInt64) (d3 : UInt64) {u0 : UInt64} {u1 : UInt64} {u2 : UInt64} {u3 : UInt64} (h0 : Heap) (n0 : Nat) (Z0 : n0 ≤ h0.size) (E_o0 : Exa Z h0 o0 "com/example/crowded_platform/crowdedplatform/movement/Body") (g_o0 : n0 ≤ o0) (F_x_o0 : Fld Z h0 o0 "com/example/crowded_platform/crowdedplatform/movement/Body" "x" "D" (.double u0)) (F_y_o0 : Fld Z h0 o0 "com/example/crowded_platform/crowdedplatform/movement/Body" "y" "D" (.double u1)) (F_vx_o0 : Fld Z h0 o0 "com/example/crowded_platform/crowdedplatform/movement/Body" "vx" "D" (.double u2)) (F_vy_o0 : Fld Z h0 o0 "com/example/crowded_platform/crowdedplatform/movement/Body" "vy" "D" (.double u3)) (hn18 : Jvm.Free.Fl.NoNaN64 (FP.dmul d1 d3)) (hn19 : Jvm.Free.Fl.NoNaN64 (FP.dadd u0 (FP.dmul d1 d3))) (hn31 : Jvm.Free.Fl.NoNaN64 (FP.dmul d2 d3)) (hn32 : Jvm.Free.Fl.NoNaN64 (FP.dadd u1 (FP.dmul d2 d3))) :
    MetFree l (⟨"com/example/crowded_platform/crowdedplatform/movement/Body", "move", "(DDD)V"⟩ : MethodName) (head1 (Jvm.Cond.code (⟨"com/example/crowded_platform/crowdedplatform/movement/Body", "move", "(DDD)V"⟩ : MethodName) prog_14_method_16_code 7 none :: ws) (room_of_6)) (fun a U => a = #[(.ref o0), (.double d1), (.double d2), (.double d3)] ∧ Z.Warmed39 U.vm ∧ U.heap = h0) (fun _ _ _ _ _ => True) (fun _ U o U' => ∃ v L, o = .returned v ∧ Q6 Z o0 d1 d2 d3 u0 u1 u2 u3 h0 n0 v U'.heap L ∧ FrameEnd U o U' L (room_of_6).cells (room_of_6).slots) := by
  refine MetFree.of_bodySF (plainFor_of_name pn_6) hisR ?_
  intro p e s m args below meth c s₁ Bd hml0 hP hK
  obtain ⟨rfl, hZ, hh⟩ := hP
  have hx := Bd.exec
  have hby := Bd.bytes
  have hml : c.maxLocals = 7 := hml0
  have hown : s.vm.findClass "com/example/crowded_platform/crowdedplatform/movement/Body" = some m.cls := findClass_of_methodNamed Bd.named
  have hnm := (name_of_methodNamed Bd.named Bd.method).1
  have X0 : Stand p l e (room_of_6) s m #[(.ref o0), (.double d1), (.double d2), (.double d3)] below meth c s₁ [] 0 0 := Stand.of_body Bd
  have e0 : s₁.heap = h0 := by rw [← hh, Bd.state]; rfl
  have N0 := Fr.nil n0
  have G0 := gd X0 hx hby
  have pre0 : ∀ t, Steps p.tables e below (s₁.setTop (mkF m 0 #[rv o0, dv d1, .second, dv d2, .second, dv d3, .second] [])) t → Steps p.tables e below (s₁.setTop (entryFrame m #[(.ref o0), (.double d1), (.double d2), (.double d3)] 7)) t := fun t k => castTop (ef6 m o0 d1 d2 d3) k
  obtain ⟨T1, h1, X1, e1, W1, st1⟩ := putF X0 hx hZ hown (host := "") (Or.inl (wd hw 37 rfl)) Via.refl e0 F_vx_o0 E_o0 (Or.inl (wd hw 38 rfl)) (wd hw 2 rfl) (ty := .double) (by decide) rfl rfl (g := (mkF m 2 #[rv o0, dv d1, .second, dv d2, .second, dv d3, .second] [(.double d1), (.ref o0)])) rfl rfl (hb hby d6_2)
  have G1 := gd X1 hx hby
  have N1 := Fr.snoc X1 N0 g_o0
  have f2 := E_o0.wr W1
  have f4 := F_x_o0.other W1 (Or.inr (slot_ne (Or.inl (wd hw 25 rfl)) (Or.inl (wd hw 38 rfl)) (by decide) (t := .double) (t' := .double) (by decide) (by decide)))
  have f5 := F_y_o0.other W1 (Or.inr (slot_ne (Or.inl (wd hw 27 rfl)) (Or.inl (wd hw 38 rfl)) (by decide) (t := .double) (t' := .double) (by decide) (by decide)))
  have f7 := F_vy_o0.other W1 (Or.inr (slot_ne (Or.inl (wd hw 40 rfl)) (Or.inl (wd hw 38 rfl)) (by decide) (t := .double) (t' := .double) (by decide) (by decide)))
  have Z1 := Nat.le_trans Z0 (Keep.of_wr W1).1
  have K1 : Keep h0 h1 [o0] := (Keep.refl h0 [o0]).wr W1 (Or.inl (List.mem_of_getElem? (i := 0) rfl))
  have Fw1 := F_vx_o0.same W1
  obtain ⟨T8, h8, X8, e8, W8, st8⟩ := putF X1 hx hZ hown (host := "") (Or.inl (wd hw 39 rfl)) Via.refl e1 f7 f2 (Or.inl (wd hw 40 rfl)) (wd hw 2 rfl) (ty := .double) (by decide) rfl rfl (g := (mkF m 7 #[rv o0, dv d1, .second, dv d2, .second, dv d3, .second] [(.double d2), (.ref o0)])) rfl rfl (hb hby d6_7)
  have G8 := gd X8 hx hby
  have N8 := Fr.snoc X8 N1 g_o0
  have f9 := f2.wr W8
  have f11 := f4.other W8 (Or.inr (slot_ne (Or.inl (wd hw 25 rfl)) (Or.inl (wd hw 40 rfl)) (by decide) (t := .double) (t' := .double) (by decide) (by decide)))
  have f12 := f5.other W8 (Or.inr (slot_ne (Or.inl (wd hw 27 rfl)) (Or.inl (wd hw 40 rfl)) (by decide) (t := .double) (t' := .double) (by decide) (by decide)))
  have f13 := Fw1.other W8 (Or.inr (slot_ne (Or.inl (wd hw 38 rfl)) (Or.inl (wd hw 40 rfl)) (by decide) (t := .double) (t' := .double) (by decide) (by decide)))
  have Z8 := Nat.le_trans Z1 (Keep.of_wr W8).1
  have K8 : Keep h0 h8 [o0] := K1.wr W8 (Or.inl (List.mem_of_getElem? (i := 0) rfl))
  have Fw8 := f7.same W8
  obtain ⟨T15, X15, e15, st15⟩ := getF X8 hx hZ hown (host := "") (Or.inl (wd hw 24 rfl)) Via.refl e8 f11 (g := (mkF m 12 #[rv o0, dv d1, .second, dv d2, .second, dv d3, .second] [(.ref o0), (.ref o0)])) rfl rfl (hb hby d6_12)
  have G15 := gd X15 hx hby
  obtain ⟨T16, h16, X16, e16, W16, st16⟩ := putF X15 hx hZ hown (host := "") (Or.inl (wd hw 24 rfl)) Via.refl e15 f11 f9 (Or.inl (wd hw 25 rfl)) (wd hw 2 rfl) (ty := .double) (by decide) rfl rfl (g := (mkF m 20 #[rv o0, dv d1, .second, dv d2, .second, dv d3, .second] [(.double (FP.dadd u0 (FP.dmul d1 d3))), (.ref o0)])) rfl rfl (hb hby d6_20)
  have G16 := gd X16 hx hby
  have N16 := Fr.snoc X16 N8 g_o0
  have f17 := f9.wr W16
  have f20 := f12.other W16 (Or.inr (slot_ne (Or.inl (wd hw 27 rfl)) (Or.inl (wd hw 25 rfl)) (by decide) (t := .double) (t' := .double) (by decide) (by decide)))
  have f21 := f13.other W16 (Or.inr (slot_ne (Or.inl (wd hw 38 rfl)) (Or.inl (wd hw 25 rfl)) (by decide) (t := .double) (t' := .double) (by decide) (by decide)))
  have f22 := Fw8.other W16 (Or.inr (slot_ne (Or.inl (wd hw 40 rfl)) (Or.inl (wd hw 25 rfl)) (by decide) (t := .double) (t' := .double) (by decide) (by decide)))
  have Z16 := Nat.le_trans Z8 (Keep.of_wr W16).1
  have K16 : Keep h0 h16 [o0] := K8.wr W16 (Or.inl (List.mem_of_getElem? (i := 0) rfl))
  have Fw16 := f11.same W16
  obtain ⟨T23, X23, e23, st23⟩ := getF X16 hx hZ hown (host := "") (Or.inl (wd hw 26 rfl)) Via.refl e16 f20 (g := (mkF m 25 #[rv o0, dv d1, .second, dv d2, .second, dv d3, .second] [(.ref o0), (.ref o0)])) rfl rfl (hb hby d6_25)
  have G23 := gd X23 hx hby
  obtain ⟨T24, h24, X24, e24, W24, st24⟩ := putF X23 hx hZ hown (host := "") (Or.inl (wd hw 26 rfl)) Via.refl e23 f20 f17 (Or.inl (wd hw 27 rfl)) (wd hw 2 rfl) (ty := .double) (by decide) rfl rfl (g := (mkF m 33 #[rv o0, dv d1, .second, dv d2, .second, dv d3, .second] [(.double (FP.dadd u1 (FP.dmul d2 d3))), (.ref o0)])) rfl rfl (hb hby d6_33)
  have G24 := gd X24 hx hby
  have N24 := Fr.snoc X24 N16 g_o0
  have f25 := f17.wr W24
  have f27 := Fw16.other W24 (Or.inr (slot_ne (Or.inl (wd hw 25 rfl)) (Or.inl (wd hw 27 rfl)) (by decide) (t := .double) (t' := .double) (by decide) (by decide)))
  have f29 := f21.other W24 (Or.inr (slot_ne (Or.inl (wd hw 38 rfl)) (Or.inl (wd hw 27 rfl)) (by decide) (t := .double) (t' := .double) (by decide) (by decide)))
  have f30 := f22.other W24 (Or.inr (slot_ne (Or.inl (wd hw 40 rfl)) (Or.inl (wd hw 27 rfl)) (by decide) (t := .double) (t' := .double) (by decide) (by decide)))
  have Z24 := Nat.le_trans Z16 (Keep.of_wr W24).1
  have K24 : Keep h0 h24 [o0] := K16.wr W24 (Or.inl (List.mem_of_getElem? (i := 0) rfl))
  have Fw24 := f20.same W24
  obtain ⟨fs, hr, hrun, hended, hW, hsame⟩ := X24.leave (v := none) (fun _ => rfl)
  refine ⟨_, _, pre0 _ ?_, hrun, hended, _, _, rfl, ?_, ⟨_, rfl⟩, hW, hsame.mono (by decide) (by decide)⟩
  · show Steps p.tables e below (s₁.setTop (mkF m 0 #[rv o0, dv d1, .second, dv d2, .second, dv d3, .second] [])) _
    refine maloadN 1 G0 d6_0 rfl rfl rfl ?_
    refine mdloadN 2 G0 d6_1 rfl rfl ?_
    refine st1 _ ?_
    show Steps p.tables e below (T1.setTop (mkF m 5 #[rv o0, dv d1, .second, dv d2, .second, dv d3, .second] [])) _
    refine maloadN 6 G1 d6_5 rfl rfl rfl ?_
    refine mdloadN 7 G1 d6_6 rfl rfl ?_
    refine st8 _ ?_
    show Steps p.tables e below (T8.setTop (mkF m 10 #[rv o0, dv d1, .second, dv d2, .second, dv d3, .second] [])) _
    refine maloadN 11 G8 d6_10 rfl rfl rfl ?_
    refine mdup 12 G8 d6_11 rfl rfl ?_
    refine st15 _ ?_
    show Steps p.tables e below (T15.setTop (mkF m 15 #[rv o0, dv d1, .second, dv d2, .second, dv d3, .second] [(.double u0), (.ref o0)])) _
    refine mdloadN 16 G15 d6_15 rfl rfl ?_
    refine mdload 18 G15 d6_16 rfl rfl ?_
    refine mdmul 19 G15 d6_18 (hn18) rfl ?_
    refine mdadd 20 G15 d6_19 (hn19) rfl ?_
    refine st16 _ ?_
    show Steps p.tables e below (T16.setTop (mkF m 23 #[rv o0, dv d1, .second, dv d2, .second, dv d3, .second] [])) _
    refine maloadN 24 G16 d6_23 rfl rfl rfl ?_
    refine mdup 25 G16 d6_24 rfl rfl ?_
    refine st23 _ ?_
    show Steps p.tables e below (T23.setTop (mkF m 28 #[rv o0, dv d1, .second, dv d2, .second, dv d3, .second] [(.double u1), (.ref o0)])) _
    refine mdloadN 29 G23 d6_28 rfl rfl ?_
    refine mdload 31 G23 d6_29 rfl rfl ?_
    refine mdmul 32 G23 d6_31 (hn31) rfl ?_
    refine mdadd 33 G23 d6_32 (hn32) rfl ?_
    refine st24 _ ?_
    show Steps p.tables e below (T24.setTop (mkF m 36 #[rv o0, dv d1, .second, dv d2, .second, dv d3, .second] [])) _
    exact X24.returnOut hx Bd.returns (hb hby d6_36) hr
  · show Q6 Z o0 d1 d2 d3 u0 u1 u2 u3 h0 n0 _ T24.heap _
    rw [e24]
    exact ⟨rfl, N24, K24, f25, f27, Fw24, f29, f30⟩
theorem d7_0 : decode prog_14_method_4_code 0 = .ok (.aload_n 0, 1) := by decide +kernel
theorem d7_1 : decode prog_14_method_4_code 1 = .ok (.getfield 44, 3) := by decide +kernel
theorem d7_4 : decode prog_14_method_4_code 4 = .ok (.dreturn, 1) := by decide +kernel
theorem pn_7 : plainName "com/example/crowded_platform/crowdedplatform/movement/Body" = true := by first | (simp [plainName, overriddenIn]; done) | decide +kernel
theorem ef7 (m : MethodId) (o0 : Addr) : entryFrame m #[(.ref o0)] 1 = mkF m 0 #[rv o0] [] := by first | (simp [entryFrame, mkF, argsToLocals, Value.category]; done) | rfl
abbrev room_of_7 : Room := { frames := 0, cells := 0, slots := 0, locals := 0 }
def rv7 (w1 : UInt64) : UInt64 := w1
def Q7 (Z : State) (o0 : Addr) (w1 : UInt64) (h0 : Heap) (n0 : Nat) (v : Option Value) (h : Heap) (L : List Loc) : Prop := v = some (.double (rv7 w1)) ∧ L = [] ∧ h = h0
set_option maxRecDepth 65536 in
set_option maxHeartbeats 40000000 in
theorem rm7 (l : Launch) (Z : State) (a0 : Array Value) (hw : ∀ d ∈ tables_1, d.before a0 Z = true) (ws : List Jvm.Cond) (o0 : Addr) {w1 : UInt64} (h0 : Heap) (n0 : Nat) (Z0 : n0 ≤ h0.size) (F_vx_o0 : Fld Z h0 o0 "com/example/crowded_platform/crowdedplatform/movement/Body" "vx" "D" (.double w1)) :
    MetFree l (⟨"com/example/crowded_platform/crowdedplatform/movement/Body", "vx", "()D"⟩ : MethodName) (head1 (Jvm.Cond.code (⟨"com/example/crowded_platform/crowdedplatform/movement/Body", "vx", "()D"⟩ : MethodName) prog_14_method_4_code 1 (some .double) :: ws) (room_of_7)) (fun a U => a = #[(.ref o0)] ∧ Z.Warmed39 U.vm ∧ U.heap = h0) (fun _ _ _ _ _ => True) (fun _ U o U' => ∃ v L, o = .returned v ∧ Q7 Z o0 w1 h0 n0 v U'.heap L ∧ FrameEnd U o U' L (room_of_7).cells (room_of_7).slots) := by
  refine MetFree.of_bodySF (plainFor_of_name pn_7) hisR ?_
  intro p e s m args below meth c s₁ Bd hml0 hP hK
  obtain ⟨rfl, hZ, hh⟩ := hP
  have hx := Bd.exec
  have hby := Bd.bytes
  have hml : c.maxLocals = 1 := hml0
  have hown : s.vm.findClass "com/example/crowded_platform/crowdedplatform/movement/Body" = some m.cls := findClass_of_methodNamed Bd.named
  have hnm := (name_of_methodNamed Bd.named Bd.method).1
  have X0 : Stand p l e (room_of_7) s m #[(.ref o0)] below meth c s₁ [] 0 0 := Stand.of_body Bd
  have e0 : s₁.heap = h0 := by rw [← hh, Bd.state]; rfl
  have N0 := Fr.nil n0
  have G0 := gd X0 hx hby
  have pre0 : ∀ t, Steps p.tables e below (s₁.setTop (mkF m 0 #[rv o0] [])) t → Steps p.tables e below (s₁.setTop (entryFrame m #[(.ref o0)] 1)) t := fun t k => castTop (ef7 m o0) k
  obtain ⟨T1, X1, e1, st1⟩ := getF X0 hx hZ hown (host := "") (Or.inl (wd hw 37 rfl)) Via.refl e0 F_vx_o0 (g := (mkF m 1 #[rv o0] [(.ref o0)])) rfl rfl (hb hby d7_1)
  have G1 := gd X1 hx hby
  obtain ⟨fs, hr, hrun, hended, hW, hsame⟩ := X1.leave (v := some (.double w1)) (fun h => by rw [Bd.returns] at h; cases h)
  refine ⟨_, _, pre0 _ ?_, hrun, hended, _, _, rfl, ?_, ⟨_, rfl⟩, hW, hsame.mono (by decide) (by decide)⟩
  · show Steps p.tables e below (s₁.setTop (mkF m 0 #[rv o0] [])) _
    refine maloadN 1 G0 d7_0 rfl rfl rfl ?_
    refine st1 _ ?_
    show Steps p.tables e below (T1.setTop (mkF m 4 #[rv o0] [(.double w1)])) _
    exact retOut X1 hx Bd.returns rfl (Or.inr (Or.inr (Or.inl ⟨rfl, rfl, _, rfl⟩))) (hb hby d7_4) hr
  · show Q7 Z o0 w1 h0 n0 _ T1.heap _
    rw [e1]
    exact ⟨by simp only [rv7], rfl, rfl⟩
theorem d8_0 : decode prog_14_method_5_code 0 = .ok (.aload_n 0, 1) := by decide +kernel
theorem d8_1 : decode prog_14_method_5_code 1 = .ok (.getfield 47, 3) := by decide +kernel
theorem d8_4 : decode prog_14_method_5_code 4 = .ok (.dreturn, 1) := by decide +kernel
theorem pn_8 : plainName "com/example/crowded_platform/crowdedplatform/movement/Body" = true := by first | (simp [plainName, overriddenIn]; done) | decide +kernel
theorem ef8 (m : MethodId) (o0 : Addr) : entryFrame m #[(.ref o0)] 1 = mkF m 0 #[rv o0] [] := by first | (simp [entryFrame, mkF, argsToLocals, Value.category]; done) | rfl
abbrev room_of_8 : Room := { frames := 0, cells := 0, slots := 0, locals := 0 }
def rv8 (w1 : UInt64) : UInt64 := w1
def Q8 (Z : State) (o0 : Addr) (w1 : UInt64) (h0 : Heap) (n0 : Nat) (v : Option Value) (h : Heap) (L : List Loc) : Prop := v = some (.double (rv8 w1)) ∧ L = [] ∧ h = h0
set_option maxRecDepth 65536 in
set_option maxHeartbeats 40000000 in
theorem rm8 (l : Launch) (Z : State) (a0 : Array Value) (hw : ∀ d ∈ tables_1, d.before a0 Z = true) (ws : List Jvm.Cond) (o0 : Addr) {w1 : UInt64} (h0 : Heap) (n0 : Nat) (Z0 : n0 ≤ h0.size) (F_vy_o0 : Fld Z h0 o0 "com/example/crowded_platform/crowdedplatform/movement/Body" "vy" "D" (.double w1)) :
    MetFree l (⟨"com/example/crowded_platform/crowdedplatform/movement/Body", "vy", "()D"⟩ : MethodName) (head1 (Jvm.Cond.code (⟨"com/example/crowded_platform/crowdedplatform/movement/Body", "vy", "()D"⟩ : MethodName) prog_14_method_5_code 1 (some .double) :: ws) (room_of_8)) (fun a U => a = #[(.ref o0)] ∧ Z.Warmed39 U.vm ∧ U.heap = h0) (fun _ _ _ _ _ => True) (fun _ U o U' => ∃ v L, o = .returned v ∧ Q8 Z o0 w1 h0 n0 v U'.heap L ∧ FrameEnd U o U' L (room_of_8).cells (room_of_8).slots) := by
  refine MetFree.of_bodySF (plainFor_of_name pn_8) hisR ?_
  intro p e s m args below meth c s₁ Bd hml0 hP hK
  obtain ⟨rfl, hZ, hh⟩ := hP
  have hx := Bd.exec
  have hby := Bd.bytes
  have hml : c.maxLocals = 1 := hml0
  have hown : s.vm.findClass "com/example/crowded_platform/crowdedplatform/movement/Body" = some m.cls := findClass_of_methodNamed Bd.named
  have hnm := (name_of_methodNamed Bd.named Bd.method).1
  have X0 : Stand p l e (room_of_8) s m #[(.ref o0)] below meth c s₁ [] 0 0 := Stand.of_body Bd
  have e0 : s₁.heap = h0 := by rw [← hh, Bd.state]; rfl
  have N0 := Fr.nil n0
  have G0 := gd X0 hx hby
  have pre0 : ∀ t, Steps p.tables e below (s₁.setTop (mkF m 0 #[rv o0] [])) t → Steps p.tables e below (s₁.setTop (entryFrame m #[(.ref o0)] 1)) t := fun t k => castTop (ef8 m o0) k
  obtain ⟨T1, X1, e1, st1⟩ := getF X0 hx hZ hown (host := "") (Or.inl (wd hw 39 rfl)) Via.refl e0 F_vy_o0 (g := (mkF m 1 #[rv o0] [(.ref o0)])) rfl rfl (hb hby d8_1)
  have G1 := gd X1 hx hby
  obtain ⟨fs, hr, hrun, hended, hW, hsame⟩ := X1.leave (v := some (.double w1)) (fun h => by rw [Bd.returns] at h; cases h)
  refine ⟨_, _, pre0 _ ?_, hrun, hended, _, _, rfl, ?_, ⟨_, rfl⟩, hW, hsame.mono (by decide) (by decide)⟩
  · show Steps p.tables e below (s₁.setTop (mkF m 0 #[rv o0] [])) _
    refine maloadN 1 G0 d8_0 rfl rfl rfl ?_
    refine st1 _ ?_
    show Steps p.tables e below (T1.setTop (mkF m 4 #[rv o0] [(.double w1)])) _
    exact retOut X1 hx Bd.returns rfl (Or.inr (Or.inr (Or.inl ⟨rfl, rfl, _, rfl⟩))) (hb hby d8_4) hr
  · show Q8 Z o0 w1 h0 n0 _ T1.heap _
    rw [e1]
    exact ⟨by simp only [rv8], rfl, rfl⟩
theorem d9_0 : decode prog_14_method_2_code 0 = .ok (.aload_n 0, 1) := by decide +kernel
theorem d9_1 : decode prog_14_method_2_code 1 = .ok (.getfield 29, 3) := by decide +kernel
theorem d9_4 : decode prog_14_method_2_code 4 = .ok (.dreturn, 1) := by decide +kernel
theorem pn_9 : plainName "com/example/crowded_platform/crowdedplatform/movement/Body" = true := by first | (simp [plainName, overriddenIn]; done) | decide +kernel
theorem ef9 (m : MethodId) (o0 : Addr) : entryFrame m #[(.ref o0)] 1 = mkF m 0 #[rv o0] [] := by first | (simp [entryFrame, mkF, argsToLocals, Value.category]; done) | rfl
abbrev room_of_9 : Room := { frames := 0, cells := 0, slots := 0, locals := 0 }
def rv9 (w1 : UInt64) : UInt64 := w1
def Q9 (Z : State) (o0 : Addr) (w1 : UInt64) (h0 : Heap) (n0 : Nat) (v : Option Value) (h : Heap) (L : List Loc) : Prop := v = some (.double (rv9 w1)) ∧ L = [] ∧ h = h0
set_option maxRecDepth 65536 in
set_option maxHeartbeats 40000000 in
theorem rm9 (l : Launch) (Z : State) (a0 : Array Value) (hw : ∀ d ∈ tables_1, d.before a0 Z = true) (ws : List Jvm.Cond) (o0 : Addr) {w1 : UInt64} (h0 : Heap) (n0 : Nat) (Z0 : n0 ≤ h0.size) (F_x_o0 : Fld Z h0 o0 "com/example/crowded_platform/crowdedplatform/movement/Body" "x" "D" (.double w1)) :
    MetFree l (⟨"com/example/crowded_platform/crowdedplatform/movement/Body", "x", "()D"⟩ : MethodName) (head1 (Jvm.Cond.code (⟨"com/example/crowded_platform/crowdedplatform/movement/Body", "x", "()D"⟩ : MethodName) prog_14_method_2_code 1 (some .double) :: ws) (room_of_9)) (fun a U => a = #[(.ref o0)] ∧ Z.Warmed39 U.vm ∧ U.heap = h0) (fun _ _ _ _ _ => True) (fun _ U o U' => ∃ v L, o = .returned v ∧ Q9 Z o0 w1 h0 n0 v U'.heap L ∧ FrameEnd U o U' L (room_of_9).cells (room_of_9).slots) := by
  refine MetFree.of_bodySF (plainFor_of_name pn_9) hisR ?_
  intro p e s m args below meth c s₁ Bd hml0 hP hK
  obtain ⟨rfl, hZ, hh⟩ := hP
  have hx := Bd.exec
  have hby := Bd.bytes
  have hml : c.maxLocals = 1 := hml0
  have hown : s.vm.findClass "com/example/crowded_platform/crowdedplatform/movement/Body" = some m.cls := findClass_of_methodNamed Bd.named
  have hnm := (name_of_methodNamed Bd.named Bd.method).1
  have X0 : Stand p l e (room_of_9) s m #[(.ref o0)] below meth c s₁ [] 0 0 := Stand.of_body Bd
  have e0 : s₁.heap = h0 := by rw [← hh, Bd.state]; rfl
  have N0 := Fr.nil n0
  have G0 := gd X0 hx hby
  have pre0 : ∀ t, Steps p.tables e below (s₁.setTop (mkF m 0 #[rv o0] [])) t → Steps p.tables e below (s₁.setTop (entryFrame m #[(.ref o0)] 1)) t := fun t k => castTop (ef9 m o0) k
  obtain ⟨T1, X1, e1, st1⟩ := getF X0 hx hZ hown (host := "") (Or.inl (wd hw 24 rfl)) Via.refl e0 F_x_o0 (g := (mkF m 1 #[rv o0] [(.ref o0)])) rfl rfl (hb hby d9_1)
  have G1 := gd X1 hx hby
  obtain ⟨fs, hr, hrun, hended, hW, hsame⟩ := X1.leave (v := some (.double w1)) (fun h => by rw [Bd.returns] at h; cases h)
  refine ⟨_, _, pre0 _ ?_, hrun, hended, _, _, rfl, ?_, ⟨_, rfl⟩, hW, hsame.mono (by decide) (by decide)⟩
  · show Steps p.tables e below (s₁.setTop (mkF m 0 #[rv o0] [])) _
    refine maloadN 1 G0 d9_0 rfl rfl rfl ?_
    refine st1 _ ?_
    show Steps p.tables e below (T1.setTop (mkF m 4 #[rv o0] [(.double w1)])) _
    exact retOut X1 hx Bd.returns rfl (Or.inr (Or.inr (Or.inl ⟨rfl, rfl, _, rfl⟩))) (hb hby d9_4) hr
  · show Q9 Z o0 w1 h0 n0 _ T1.heap _
    rw [e1]
    exact ⟨by simp only [rv9], rfl, rfl⟩
theorem d10_0 : decode prog_14_method_3_code 0 = .ok (.aload_n 0, 1) := by decide +kernel
theorem d10_1 : decode prog_14_method_3_code 1 = .ok (.getfield 35, 3) := by decide +kernel
theorem d10_4 : decode prog_14_method_3_code 4 = .ok (.dreturn, 1) := by decide +kernel
theorem pn_10 : plainName "com/example/crowded_platform/crowdedplatform/movement/Body" = true := by first | (simp [plainName, overriddenIn]; done) | decide +kernel
theorem ef10 (m : MethodId) (o0 : Addr) : entryFrame m #[(.ref o0)] 1 = mkF m 0 #[rv o0] [] := by first | (simp [entryFrame, mkF, argsToLocals, Value.category]; done) | rfl
abbrev room_of_10 : Room := { frames := 0, cells := 0, slots := 0, locals := 0 }
def rv10 (w1 : UInt64) : UInt64 := w1
def Q10 (Z : State) (o0 : Addr) (w1 : UInt64) (h0 : Heap) (n0 : Nat) (v : Option Value) (h : Heap) (L : List Loc) : Prop := v = some (.double (rv10 w1)) ∧ L = [] ∧ h = h0
set_option maxRecDepth 65536 in
set_option maxHeartbeats 40000000 in
theorem rm10 (l : Launch) (Z : State) (a0 : Array Value) (hw : ∀ d ∈ tables_1, d.before a0 Z = true) (ws : List Jvm.Cond) (o0 : Addr) {w1 : UInt64} (h0 : Heap) (n0 : Nat) (Z0 : n0 ≤ h0.size) (F_y_o0 : Fld Z h0 o0 "com/example/crowded_platform/crowdedplatform/movement/Body" "y" "D" (.double w1)) :
    MetFree l (⟨"com/example/crowded_platform/crowdedplatform/movement/Body", "y", "()D"⟩ : MethodName) (head1 (Jvm.Cond.code (⟨"com/example/crowded_platform/crowdedplatform/movement/Body", "y", "()D"⟩ : MethodName) prog_14_method_3_code 1 (some .double) :: ws) (room_of_10)) (fun a U => a = #[(.ref o0)] ∧ Z.Warmed39 U.vm ∧ U.heap = h0) (fun _ _ _ _ _ => True) (fun _ U o U' => ∃ v L, o = .returned v ∧ Q10 Z o0 w1 h0 n0 v U'.heap L ∧ FrameEnd U o U' L (room_of_10).cells (room_of_10).slots) := by
  refine MetFree.of_bodySF (plainFor_of_name pn_10) hisR ?_
  intro p e s m args below meth c s₁ Bd hml0 hP hK
  obtain ⟨rfl, hZ, hh⟩ := hP
  have hx := Bd.exec
  have hby := Bd.bytes
  have hml : c.maxLocals = 1 := hml0
  have hown : s.vm.findClass "com/example/crowded_platform/crowdedplatform/movement/Body" = some m.cls := findClass_of_methodNamed Bd.named
  have hnm := (name_of_methodNamed Bd.named Bd.method).1
  have X0 : Stand p l e (room_of_10) s m #[(.ref o0)] below meth c s₁ [] 0 0 := Stand.of_body Bd
  have e0 : s₁.heap = h0 := by rw [← hh, Bd.state]; rfl
  have N0 := Fr.nil n0
  have G0 := gd X0 hx hby
  have pre0 : ∀ t, Steps p.tables e below (s₁.setTop (mkF m 0 #[rv o0] [])) t → Steps p.tables e below (s₁.setTop (entryFrame m #[(.ref o0)] 1)) t := fun t k => castTop (ef10 m o0) k
  obtain ⟨T1, X1, e1, st1⟩ := getF X0 hx hZ hown (host := "") (Or.inl (wd hw 26 rfl)) Via.refl e0 F_y_o0 (g := (mkF m 1 #[rv o0] [(.ref o0)])) rfl rfl (hb hby d10_1)
  have G1 := gd X1 hx hby
  obtain ⟨fs, hr, hrun, hended, hW, hsame⟩ := X1.leave (v := some (.double w1)) (fun h => by rw [Bd.returns] at h; cases h)
  refine ⟨_, _, pre0 _ ?_, hrun, hended, _, _, rfl, ?_, ⟨_, rfl⟩, hW, hsame.mono (by decide) (by decide)⟩
  · show Steps p.tables e below (s₁.setTop (mkF m 0 #[rv o0] [])) _
    refine maloadN 1 G0 d10_0 rfl rfl rfl ?_
    refine st1 _ ?_
    show Steps p.tables e below (T1.setTop (mkF m 4 #[rv o0] [(.double w1)])) _
    exact retOut X1 hx Bd.returns rfl (Or.inr (Or.inr (Or.inl ⟨rfl, rfl, _, rfl⟩))) (hb hby d10_4) hr
  · show Q10 Z o0 w1 h0 n0 _ T1.heap _
    rw [e1]
    exact ⟨by simp only [rv10], rfl, rfl⟩
theorem own_isfin {a : UInt64} (h : Jvm.FP.Core.DFin a) : ¬ (rv3 a = 0) := by
  unfold rv3
  rw [if_neg (OwnFl.mask_fin h _)]
  decide
/-- a is l2d of the long n, whose value is bounded by B -/
def own_L (a : UInt64) (n : Int64) (B : Nat) : Prop := OwnFl.Dy a (n.toInt * OwnFl.ONE) ∧ n.toInt.natAbs ≤ B
theorem own_f4 (p2 p3 p4 p5 : Int32) (x1 x2 x3 x4 : Int64) (hx1 : x1 = ((p2 <<< ((8 : Int32) &&& 31)) >>> ((8 : Int32) &&& 31)).toInt64) (hx2 : x2 = ((p3 <<< ((8 : Int32) &&& 31)) >>> ((8 : Int32) &&& 31)).toInt64) (hx3 : x3 = (p4 &&& (16777215 : Int32)).toInt64) (hx4 : x4 = (p5 &&& (16777215 : Int32)).toInt64) :
    own_L (FP.l2d x1) x1 8388608 ∧ own_L (FP.l2d x2) x2 8388608 ∧ own_L (FP.l2d x3) x3 16777215 ∧ own_L (FP.l2d x4) x4 16777215 := by
  have s : ∀ y : Int32, (y >>> ((8 : Int32) &&& 31)).toInt = y.toInt / 256 := fun y => Jvm.Kit.i32_shr y _ (k := 8) (by decide)
  have k : ∀ y : Int32, (y &&& (16777215 : Int32)).toInt = y.toInt % 16777216 := fun y => Jvm.Kit.i32_mask y _ (k := 24) (by decide) (by decide)
  have sh : ∀ (y : Int32) (x : Int64), x = (y >>> ((8 : Int32) &&& 31)).toInt64 → own_L (FP.l2d x) x 8388608 := fun y x h => by
    have e : x.toInt = y.toInt / 256 := by rw [h, Jvm.Kit.i64_of_i32, s]
    have b := Int32.toInt_lt y
    have b' := Int32.le_toInt y
    have : x.toInt.natAbs ≤ 8388608 := by omega
    exact ⟨OwnFl.dy_l2d (by omega), this⟩
  have km : ∀ (y : Int32) (x : Int64), x = (y &&& (16777215 : Int32)).toInt64 → own_L (FP.l2d x) x 16777215 := fun y x h => by
    have e : x.toInt = y.toInt % 16777216 := by rw [h, Jvm.Kit.i64_of_i32, k]
    have : x.toInt.natAbs ≤ 16777215 := by omega
    exact ⟨OwnFl.dy_l2d (by omega), this⟩
  exact ⟨sh _ _ hx1, sh _ _ hx2, km _ _ hx3, km _ _ hx4⟩
theorem own_mul {a b : UInt64} {n k : Int64} (ha : own_L a n 8388608) (hb : own_L b k 16777215) : own_L (FP.dmul a b) (n * k) 140737488355328 := by
  have q := OwnFl.mul_bd ha.2 hb.2
  have e : (n * k).toInt = n.toInt * k.toInt := Jvm.Kit.i64_mul (by omega) (by omega)
  refine ⟨?_, by rw [e]; omega⟩
  rw [e]
  exact OwnFl.dw_mul ha.1 hb.1 (by omega)
theorem own_add1 {p : Int32} {b : UInt64} {k : Int64} (hb : own_L b k 140737488355328) : own_L (FP.dadd (FP.i2d p) b) (p.toInt64 + k) 140739635838976 := by
  have c := Int32.toInt_lt p
  have c' := Int32.le_toInt p
  have q := hb.2
  have e : (p.toInt64 + k).toInt = p.toInt + k.toInt := by rw [Jvm.Kit.i64_add, Jvm.Kit.i64_of_i32] <;> rw [Jvm.Kit.i64_of_i32] <;> omega
  refine ⟨?_, by rw [e]; omega⟩
  rw [e]
  exact OwnFl.dw_add (OwnFl.dy_i2d p) hb.1 (by omega)
theorem own_add2 {a b : UInt64} {n k : Int64} (ha : own_L a n 140739635838976) (hb : own_L b k 140737488355328) : own_L (FP.dadd a b) (n + k) 281477124194304 := by
  have q := ha.2
  have q' := hb.2
  have e : (n + k).toInt = n.toInt + k.toInt := Jvm.Kit.i64_add (by omega) (by omega)
  refine ⟨?_, by rw [e]; omega⟩
  rw [e]
  exact OwnFl.dw_add ha.1 hb.1 (by omega)
theorem own_cmp {a : UInt64} {n x : Int64} {B : Nat} (h : own_L a n B) (e : x = n) (hB : B ≤ 9007199254740992 := by decide) : cmpValue (FP.dcmp a (FP.l2d x)) .l = 0 ↔ True := by
  subst e
  have d := OwnFl.dy_l2d (n := x) (by have := h.2; omega)
  rw [OwnFl.cw_eq h.1 d]
  exact ⟨fun _ => trivial, fun _ => rfl⟩
theorem pd_2 : parseMethodDescriptor "(DDDD)V" = some ⟨[.double, .double, .double, .double], none⟩ := by decide +kernel
theorem pd_3 : parseMethodDescriptor "(DDD)V" = some ⟨[.double, .double, .double], none⟩ := by decide +kernel
theorem pd_4 : parseMethodDescriptor "()D" = some ⟨[], some .double⟩ := by decide +kernel
theorem pn_0 : plainName "com/example/crowded_platform/crowdedplatform/movement/BodyMovePinLaw" = true := by first | (simp [plainName, overriddenIn]; done) | decide +kernel
theorem ef0 (m : MethodId) (p0 : Int32) (p1 : Int32) (p2 : Int32) (p3 : Int32) (p4 : Int32) (p5 : Int32) : entryFrame m #[(.int p0), (.int p1), (.int p2), (.int p3), (.int p4), (.int p5)] maxLocals = mkF m 0 #[iv p0, iv p1, iv p2, iv p3, iv p4, iv p5, .unset, .unset, .unset, .unset, .unset, .unset, .unset, .unset, .unset, .unset, .unset, .unset, .unset, .unset, .unset, .unset, .unset, .unset] [] := by first | (simp [entryFrame, mkF, argsToLocals, Value.category, maxLocals]; done) | rfl
def Q0 (Z : State) (p0 : Int32) (p1 : Int32) (p2 : Int32) (p3 : Int32) (p4 : Int32) (p5 : Int32) (h0 : Heap) (n0 : Nat) (v : Option Value) (h : Heap) (L : List Loc) : Prop := v = some (.int 1) ∧ Fr n0 L
theorem own_rm0_hp_hp_hnn1_5_50 (p0 : Int32) (p1 : Int32) (p2 : Int32) (p3 : Int32) (p4 : Int32) (p5 : Int32) (x1 : Int64) (hx1 : x1 = ((p2 <<< ((8 : Int32) &&& 31)) >>> ((8 : Int32) &&& 31)).toInt64) (x2 : Int64) (hx2 : x2 = ((p3 <<< ((8 : Int32) &&& 31)) >>> ((8 : Int32) &&& 31)).toInt64) (x3 : Int64) (hx3 : x3 = (p4 &&& (16777215 : Int32)).toInt64) (x4 : Int64) (hx4 : x4 = (p5 &&& (16777215 : Int32)).toInt64) : Jvm.Free.Fl.NoNaN64 (FP.i2d p0) := (OwnFl.dy_i2d p0).no
theorem own_rm0_hp_hf8_50 (p0 : Int32) (p1 : Int32) (p2 : Int32) (p3 : Int32) (p4 : Int32) (p5 : Int32) (x1 : Int64) (hx1 : x1 = ((p2 <<< ((8 : Int32) &&& 31)) >>> ((8 : Int32) &&& 31)).toInt64) (x2 : Int64) (hx2 : x2 = ((p3 <<< ((8 : Int32) &&& 31)) >>> ((8 : Int32) &&& 31)).toInt64) (x3 : Int64) (hx3 : x3 = (p4 &&& (16777215 : Int32)).toInt64) (x4 : Int64) (hx4 : x4 = (p5 &&& (16777215 : Int32)).toInt64) : ¬ ((rv3 (FP.i2d p0)) = (0 : Int32)) := own_isfin (OwnFl.dy_i2d p0).1
theorem own_rm0_hp_hp_hnn1_12_50 (p0 : Int32) (p1 : Int32) (p2 : Int32) (p3 : Int32) (p4 : Int32) (p5 : Int32) (x1 : Int64) (hx1 : x1 = ((p2 <<< ((8 : Int32) &&& 31)) >>> ((8 : Int32) &&& 31)).toInt64) (x2 : Int64) (hx2 : x2 = ((p3 <<< ((8 : Int32) &&& 31)) >>> ((8 : Int32) &&& 31)).toInt64) (x3 : Int64) (hx3 : x3 = (p4 &&& (16777215 : Int32)).toInt64) (x4 : Int64) (hx4 : x4 = (p5 &&& (16777215 : Int32)).toInt64) : Jvm.Free.Fl.NoNaN64 (FP.i2d p1) := (OwnFl.dy_i2d p1).no
theorem own_rm0_hp_hf15_50 (p0 : Int32) (p1 : Int32) (p2 : Int32) (p3 : Int32) (p4 : Int32) (p5 : Int32) (x1 : Int64) (hx1 : x1 = ((p2 <<< ((8 : Int32) &&& 31)) >>> ((8 : Int32) &&& 31)).toInt64) (x2 : Int64) (hx2 : x2 = ((p3 <<< ((8 : Int32) &&& 31)) >>> ((8 : Int32) &&& 31)).toInt64) (x3 : Int64) (hx3 : x3 = (p4 &&& (16777215 : Int32)).toInt64) (x4 : Int64) (hx4 : x4 = (p5 &&& (16777215 : Int32)).toInt64) : ¬ ((rv3 (FP.i2d p1)) = (0 : Int32)) := own_isfin (OwnFl.dy_i2d p1).1
theorem own_rm0_hp_hf37_50 (p0 : Int32) (p1 : Int32) (p2 : Int32) (p3 : Int32) (p4 : Int32) (p5 : Int32) (x1 : Int64) (hx1 : x1 = ((p2 <<< ((8 : Int32) &&& 31)) >>> ((8 : Int32) &&& 31)).toInt64) (x2 : Int64) (hx2 : x2 = ((p3 <<< ((8 : Int32) &&& 31)) >>> ((8 : Int32) &&& 31)).toInt64) (x3 : Int64) (hx3 : x3 = (p4 &&& (16777215 : Int32)).toInt64) (x4 : Int64) (hx4 : x4 = (p5 &&& (16777215 : Int32)).toInt64) : (0 : Int32) < (cmpValue (FP.dcmp (4602678819172646912 : UInt64) (0 : UInt64)) .l) := by decide +kernel
theorem own_rm0_hp_hp_hnn1_42_50 (p0 : Int32) (p1 : Int32) (p2 : Int32) (p3 : Int32) (p4 : Int32) (p5 : Int32) (x1 : Int64) (hx1 : x1 = ((p2 <<< ((8 : Int32) &&& 31)) >>> ((8 : Int32) &&& 31)).toInt64) (x2 : Int64) (hx2 : x2 = ((p3 <<< ((8 : Int32) &&& 31)) >>> ((8 : Int32) &&& 31)).toInt64) (x3 : Int64) (hx3 : x3 = (p4 &&& (16777215 : Int32)).toInt64) (x4 : Int64) (hx4 : x4 = (p5 &&& (16777215 : Int32)).toInt64) : Jvm.Free.Fl.NoNaN64 (4602678819172646912 : UInt64) := by unfold Jvm.Free.Fl.NoNaN64; decide
theorem own_rm0_hp_hf45_50 (p0 : Int32) (p1 : Int32) (p2 : Int32) (p3 : Int32) (p4 : Int32) (p5 : Int32) (x1 : Int64) (hx1 : x1 = ((p2 <<< ((8 : Int32) &&& 31)) >>> ((8 : Int32) &&& 31)).toInt64) (x2 : Int64) (hx2 : x2 = ((p3 <<< ((8 : Int32) &&& 31)) >>> ((8 : Int32) &&& 31)).toInt64) (x3 : Int64) (hx3 : x3 = (p4 &&& (16777215 : Int32)).toInt64) (x4 : Int64) (hx4 : x4 = (p5 &&& (16777215 : Int32)).toInt64) : (rv5 (4602678819172646912 : UInt64)) = (0 : Int32) := by unfold rv5; decide +kernel
theorem own_rm0_hp_hf67_50 (p0 : Int32) (p1 : Int32) (p2 : Int32) (p3 : Int32) (p4 : Int32) (p5 : Int32) (x1 : Int64) (hx1 : x1 = ((p2 <<< ((8 : Int32) &&& 31)) >>> ((8 : Int32) &&& 31)).toInt64) (x2 : Int64) (hx2 : x2 = ((p3 <<< ((8 : Int32) &&& 31)) >>> ((8 : Int32) &&& 31)).toInt64) (x3 : Int64) (hx3 : x3 = (p4 &&& (16777215 : Int32)).toInt64) (x4 : Int64) (hx4 : x4 = (p5 &&& (16777215 : Int32)).toInt64) : ¬ ((cmpValue (FP.dcmp (4609434218613702656 : UInt64) (0 : UInt64)) .l) < (0 : Int32)) := by decide +kernel
theorem own_rm0_hp_hp_hnn1_72_50 (p0 : Int32) (p1 : Int32) (p2 : Int32) (p3 : Int32) (p4 : Int32) (p5 : Int32) (x1 : Int64) (hx1 : x1 = ((p2 <<< ((8 : Int32) &&& 31)) >>> ((8 : Int32) &&& 31)).toInt64) (x2 : Int64) (hx2 : x2 = ((p3 <<< ((8 : Int32) &&& 31)) >>> ((8 : Int32) &&& 31)).toInt64) (x3 : Int64) (hx3 : x3 = (p4 &&& (16777215 : Int32)).toInt64) (x4 : Int64) (hx4 : x4 = (p5 &&& (16777215 : Int32)).toInt64) : Jvm.Free.Fl.NoNaN64 (4609434218613702656 : UInt64) := by unfold Jvm.Free.Fl.NoNaN64; decide
theorem own_rm0_hp_hf75_50 (p0 : Int32) (p1 : Int32) (p2 : Int32) (p3 : Int32) (p4 : Int32) (p5 : Int32) (x1 : Int64) (hx1 : x1 = ((p2 <<< ((8 : Int32) &&& 31)) >>> ((8 : Int32) &&& 31)).toInt64) (x2 : Int64) (hx2 : x2 = ((p3 <<< ((8 : Int32) &&& 31)) >>> ((8 : Int32) &&& 31)).toInt64) (x3 : Int64) (hx3 : x3 = (p4 &&& (16777215 : Int32)).toInt64) (x4 : Int64) (hx4 : x4 = (p5 &&& (16777215 : Int32)).toInt64) : (rv5 (4609434218613702656 : UInt64)) = (0 : Int32) := by unfold rv5; decide +kernel
theorem own_rm0_hp_hn18_66 (p0 : Int32) (p1 : Int32) (p2 : Int32) (p3 : Int32) (p4 : Int32) (p5 : Int32) (x1 : Int64) (hx1 : x1 = ((p2 <<< ((8 : Int32) &&& 31)) >>> ((8 : Int32) &&& 31)).toInt64) (x2 : Int64) (hx2 : x2 = ((p3 <<< ((8 : Int32) &&& 31)) >>> ((8 : Int32) &&& 31)).toInt64) (x3 : Int64) (hx3 : x3 = (p4 &&& (16777215 : Int32)).toInt64) (x4 : Int64) (hx4 : x4 = (p5 &&& (16777215 : Int32)).toInt64) : Jvm.Free.Fl.NoNaN64 (FP.dmul (FP.l2d x1) (FP.l2d x3)) := (own_mul (own_f4 p2 p3 p4 p5 x1 x2 x3 x4 hx1 hx2 hx3 hx4).1 (own_f4 p2 p3 p4 p5 x1 x2 x3 x4 hx1 hx2 hx3 hx4).2.2.1).1.no
theorem own_rm0_hp_hn19_66 (p0 : Int32) (p1 : Int32) (p2 : Int32) (p3 : Int32) (p4 : Int32) (p5 : Int32) (x1 : Int64) (hx1 : x1 = ((p2 <<< ((8 : Int32) &&& 31)) >>> ((8 : Int32) &&& 31)).toInt64) (x2 : Int64) (hx2 : x2 = ((p3 <<< ((8 : Int32) &&& 31)) >>> ((8 : Int32) &&& 31)).toInt64) (x3 : Int64) (hx3 : x3 = (p4 &&& (16777215 : Int32)).toInt64) (x4 : Int64) (hx4 : x4 = (p5 &&& (16777215 : Int32)).toInt64) : Jvm.Free.Fl.NoNaN64 (FP.dadd (FP.i2d p0) (FP.dmul (FP.l2d x1) (FP.l2d x3))) := (own_add1 (p := p0) (own_mul (own_f4 p2 p3 p4 p5 x1 x2 x3 x4 hx1 hx2 hx3 hx4).1 (own_f4 p2 p3 p4 p5 x1 x2 x3 x4 hx1 hx2 hx3 hx4).2.2.1)).1.no
theorem own_rm0_hp_hn31_66 (p0 : Int32) (p1 : Int32) (p2 : Int32) (p3 : Int32) (p4 : Int32) (p5 : Int32) (x1 : Int64) (hx1 : x1 = ((p2 <<< ((8 : Int32) &&& 31)) >>> ((8 : Int32) &&& 31)).toInt64) (x2 : Int64) (hx2 : x2 = ((p3 <<< ((8 : Int32) &&& 31)) >>> ((8 : Int32) &&& 31)).toInt64) (x3 : Int64) (hx3 : x3 = (p4 &&& (16777215 : Int32)).toInt64) (x4 : Int64) (hx4 : x4 = (p5 &&& (16777215 : Int32)).toInt64) : Jvm.Free.Fl.NoNaN64 (FP.dmul (FP.l2d x2) (FP.l2d x3)) := (own_mul (own_f4 p2 p3 p4 p5 x1 x2 x3 x4 hx1 hx2 hx3 hx4).2.1 (own_f4 p2 p3 p4 p5 x1 x2 x3 x4 hx1 hx2 hx3 hx4).2.2.1).1.no
theorem own_rm0_hp_hn32_66 (p0 : Int32) (p1 : Int32) (p2 : Int32) (p3 : Int32) (p4 : Int32) (p5 : Int32) (x1 : Int64) (hx1 : x1 = ((p2 <<< ((8 : Int32) &&& 31)) >>> ((8 : Int32) &&& 31)).toInt64) (x2 : Int64) (hx2 : x2 = ((p3 <<< ((8 : Int32) &&& 31)) >>> ((8 : Int32) &&& 31)).toInt64) (x3 : Int64) (hx3 : x3 = (p4 &&& (16777215 : Int32)).toInt64) (x4 : Int64) (hx4 : x4 = (p5 &&& (16777215 : Int32)).toInt64) : Jvm.Free.Fl.NoNaN64 (FP.dadd (FP.i2d p1) (FP.dmul (FP.l2d x2) (FP.l2d x3))) := (own_add1 (p := p1) (own_mul (own_f4 p2 p3 p4 p5 x1 x2 x3 x4 hx1 hx2 hx3 hx4).2.1 (own_f4 p2 p3 p4 p5 x1 x2 x3 x4 hx1 hx2 hx3 hx4).2.2.1)).1.no
theorem own_rm0_fc98 (p0 : Int32) (p1 : Int32) (p2 : Int32) (p3 : Int32) (p4 : Int32) (p5 : Int32) (x1 : Int64) (hx1 : x1 = ((p2 <<< ((8 : Int32) &&& 31)) >>> ((8 : Int32) &&& 31)).toInt64) (x2 : Int64) (hx2 : x2 = ((p3 <<< ((8 : Int32) &&& 31)) >>> ((8 : Int32) &&& 31)).toInt64) (x3 : Int64) (hx3 : x3 = (p4 &&& (16777215 : Int32)).toInt64) (x4 : Int64) (hx4 : x4 = (p5 &&& (16777215 : Int32)).toInt64) (x24 : Int64) (hx24 : x24 = (p0.toInt64 + (x1 * x3))) (x25 : Int64) (hx25 : x25 = (p1.toInt64 + (x2 * x3))) : (cmpValue (FP.dcmp (rv7 (FP.l2d x1)) (FP.l2d x1)) .l) = (0 : Int32) := (OwnFl.cv_eq (OwnFl.Dy.nn (own_f4 p2 p3 p4 p5 x1 x2 x3 x4 hx1 hx2 hx3 hx4).1.1) (OwnFl.Dy.nn (own_f4 p2 p3 p4 p5 x1 x2 x3 x4 hx1 hx2 hx3 hx4).1.1) _).mpr rfl
theorem own_rm0_fc110 (p0 : Int32) (p1 : Int32) (p2 : Int32) (p3 : Int32) (p4 : Int32) (p5 : Int32) (x1 : Int64) (hx1 : x1 = ((p2 <<< ((8 : Int32) &&& 31)) >>> ((8 : Int32) &&& 31)).toInt64) (x2 : Int64) (hx2 : x2 = ((p3 <<< ((8 : Int32) &&& 31)) >>> ((8 : Int32) &&& 31)).toInt64) (x3 : Int64) (hx3 : x3 = (p4 &&& (16777215 : Int32)).toInt64) (x4 : Int64) (hx4 : x4 = (p5 &&& (16777215 : Int32)).toInt64) (x24 : Int64) (hx24 : x24 = (p0.toInt64 + (x1 * x3))) (x25 : Int64) (hx25 : x25 = (p1.toInt64 + (x2 * x3))) : (cmpValue (FP.dcmp (rv8 (FP.l2d x2)) (FP.l2d x2)) .l) = (0 : Int32) := (OwnFl.cv_eq (OwnFl.Dy.nn (own_f4 p2 p3 p4 p5 x1 x2 x3 x4 hx1 hx2 hx3 hx4).2.1.1) (OwnFl.Dy.nn (own_f4 p2 p3 p4 p5 x1 x2 x3 x4 hx1 hx2 hx3 hx4).2.1.1) _).mpr rfl
theorem own_rm0_fc122 (p0 : Int32) (p1 : Int32) (p2 : Int32) (p3 : Int32) (p4 : Int32) (p5 : Int32) (x1 : Int64) (hx1 : x1 = ((p2 <<< ((8 : Int32) &&& 31)) >>> ((8 : Int32) &&& 31)).toInt64) (x2 : Int64) (hx2 : x2 = ((p3 <<< ((8 : Int32) &&& 31)) >>> ((8 : Int32) &&& 31)).toInt64) (x3 : Int64) (hx3 : x3 = (p4 &&& (16777215 : Int32)).toInt64) (x4 : Int64) (hx4 : x4 = (p5 &&& (16777215 : Int32)).toInt64) (x24 : Int64) (hx24 : x24 = (p0.toInt64 + (x1 * x3))) (x25 : Int64) (hx25 : x25 = (p1.toInt64 + (x2 * x3))) : (cmpValue (FP.dcmp (rv9 (FP.dadd (FP.i2d p0) (FP.dmul (FP.l2d x1) (FP.l2d x3)))) (FP.l2d x24)) .l) = (0 : Int32) := (own_cmp (own_add1 (p := p0) (own_mul (own_f4 p2 p3 p4 p5 x1 x2 x3 x4 hx1 hx2 hx3 hx4).1 (own_f4 p2 p3 p4 p5 x1 x2 x3 x4 hx1 hx2 hx3 hx4).2.2.1)) (by rw [hx24])).mpr trivial
theorem own_rm0_fc134 (p0 : Int32) (p1 : Int32) (p2 : Int32) (p3 : Int32) (p4 : Int32) (p5 : Int32) (x1 : Int64) (hx1 : x1 = ((p2 <<< ((8 : Int32) &&& 31)) >>> ((8 : Int32) &&& 31)).toInt64) (x2 : Int64) (hx2 : x2 = ((p3 <<< ((8 : Int32) &&& 31)) >>> ((8 : Int32) &&& 31)).toInt64) (x3 : Int64) (hx3 : x3 = (p4 &&& (16777215 : Int32)).toInt64) (x4 : Int64) (hx4 : x4 = (p5 &&& (16777215 : Int32)).toInt64) (x24 : Int64) (hx24 : x24 = (p0.toInt64 + (x1 * x3))) (x25 : Int64) (hx25 : x25 = (p1.toInt64 + (x2 * x3))) : (cmpValue (FP.dcmp (rv10 (FP.dadd (FP.i2d p1) (FP.dmul (FP.l2d x2) (FP.l2d x3)))) (FP.l2d x25)) .l) = (0 : Int32) := (own_cmp (own_add1 (p := p1) (own_mul (own_f4 p2 p3 p4 p5 x1 x2 x3 x4 hx1 hx2 hx3 hx4).2.1 (own_f4 p2 p3 p4 p5 x1 x2 x3 x4 hx1 hx2 hx3 hx4).2.2.1)) (by rw [hx25])).mpr trivial
theorem own_rm0_hp_hn18_155 (p0 : Int32) (p1 : Int32) (p2 : Int32) (p3 : Int32) (p4 : Int32) (p5 : Int32) (x1 : Int64) (hx1 : x1 = ((p2 <<< ((8 : Int32) &&& 31)) >>> ((8 : Int32) &&& 31)).toInt64) (x2 : Int64) (hx2 : x2 = ((p3 <<< ((8 : Int32) &&& 31)) >>> ((8 : Int32) &&& 31)).toInt64) (x3 : Int64) (hx3 : x3 = (p4 &&& (16777215 : Int32)).toInt64) (x4 : Int64) (hx4 : x4 = (p5 &&& (16777215 : Int32)).toInt64) (x24 : Int64) (hx24 : x24 = (p0.toInt64 + (x1 * x3))) (x25 : Int64) (hx25 : x25 = (p1.toInt64 + (x2 * x3))) : Jvm.Free.Fl.NoNaN64 (FP.dmul (FP.l2d x2) (FP.l2d x4)) := (own_mul (own_f4 p2 p3 p4 p5 x1 x2 x3 x4 hx1 hx2 hx3 hx4).2.1 (own_f4 p2 p3 p4 p5 x1 x2 x3 x4 hx1 hx2 hx3 hx4).2.2.2).1.no
theorem own_rm0_hp_hn19_155 (p0 : Int32) (p1 : Int32) (p2 : Int32) (p3 : Int32) (p4 : Int32) (p5 : Int32) (x1 : Int64) (hx1 : x1 = ((p2 <<< ((8 : Int32) &&& 31)) >>> ((8 : Int32) &&& 31)).toInt64) (x2 : Int64) (hx2 : x2 = ((p3 <<< ((8 : Int32) &&& 31)) >>> ((8 : Int32) &&& 31)).toInt64) (x3 : Int64) (hx3 : x3 = (p4 &&& (16777215 : Int32)).toInt64) (x4 : Int64) (hx4 : x4 = (p5 &&& (16777215 : Int32)).toInt64) (x24 : Int64) (hx24 : x24 = (p0.toInt64 + (x1 * x3))) (x25 : Int64) (hx25 : x25 = (p1.toInt64 + (x2 * x3))) : Jvm.Free.Fl.NoNaN64 (FP.dadd (FP.dadd (FP.i2d p0) (FP.dmul (FP.l2d x1) (FP.l2d x3))) (FP.dmul (FP.l2d x2) (FP.l2d x4))) := (own_add2 (own_add1 (p := p0) (own_mul (own_f4 p2 p3 p4 p5 x1 x2 x3 x4 hx1 hx2 hx3 hx4).1 (own_f4 p2 p3 p4 p5 x1 x2 x3 x4 hx1 hx2 hx3 hx4).2.2.1)) (own_mul (own_f4 p2 p3 p4 p5 x1 x2 x3 x4 hx1 hx2 hx3 hx4).2.1 (own_f4 p2 p3 p4 p5 x1 x2 x3 x4 hx1 hx2 hx3 hx4).2.2.2)).1.no
theorem own_rm0_hp_hn31_155 (p0 : Int32) (p1 : Int32) (p2 : Int32) (p3 : Int32) (p4 : Int32) (p5 : Int32) (x1 : Int64) (hx1 : x1 = ((p2 <<< ((8 : Int32) &&& 31)) >>> ((8 : Int32) &&& 31)).toInt64) (x2 : Int64) (hx2 : x2 = ((p3 <<< ((8 : Int32) &&& 31)) >>> ((8 : Int32) &&& 31)).toInt64) (x3 : Int64) (hx3 : x3 = (p4 &&& (16777215 : Int32)).toInt64) (x4 : Int64) (hx4 : x4 = (p5 &&& (16777215 : Int32)).toInt64) (x24 : Int64) (hx24 : x24 = (p0.toInt64 + (x1 * x3))) (x25 : Int64) (hx25 : x25 = (p1.toInt64 + (x2 * x3))) : Jvm.Free.Fl.NoNaN64 (FP.dmul (FP.l2d x1) (FP.l2d x4)) := (own_mul (own_f4 p2 p3 p4 p5 x1 x2 x3 x4 hx1 hx2 hx3 hx4).1 (own_f4 p2 p3 p4 p5 x1 x2 x3 x4 hx1 hx2 hx3 hx4).2.2.2).1.no
theorem own_rm0_hp_hn32_155 (p0 : Int32) (p1 : Int32) (p2 : Int32) (p3 : Int32) (p4 : Int32) (p5 : Int32) (x1 : Int64) (hx1 : x1 = ((p2 <<< ((8 : Int32) &&& 31)) >>> ((8 : Int32) &&& 31)).toInt64) (x2 : Int64) (hx2 : x2 = ((p3 <<< ((8 : Int32) &&& 31)) >>> ((8 : Int32) &&& 31)).toInt64) (x3 : Int64) (hx3 : x3 = (p4 &&& (16777215 : Int32)).toInt64) (x4 : Int64) (hx4 : x4 = (p5 &&& (16777215 : Int32)).toInt64) (x24 : Int64) (hx24 : x24 = (p0.toInt64 + (x1 * x3))) (x25 : Int64) (hx25 : x25 = (p1.toInt64 + (x2 * x3))) : Jvm.Free.Fl.NoNaN64 (FP.dadd (FP.dadd (FP.i2d p1) (FP.dmul (FP.l2d x2) (FP.l2d x3))) (FP.dmul (FP.l2d x1) (FP.l2d x4))) := (own_add2 (own_add1 (p := p1) (own_mul (own_f4 p2 p3 p4 p5 x1 x2 x3 x4 hx1 hx2 hx3 hx4).2.1 (own_f4 p2 p3 p4 p5 x1 x2 x3 x4 hx1 hx2 hx3 hx4).2.2.1)) (own_mul (own_f4 p2 p3 p4 p5 x1 x2 x3 x4 hx1 hx2 hx3 hx4).1 (own_f4 p2 p3 p4 p5 x1 x2 x3 x4 hx1 hx2 hx3 hx4).2.2.2)).1.no
theorem own_rm0_fc192 (p0 : Int32) (p1 : Int32) (p2 : Int32) (p3 : Int32) (p4 : Int32) (p5 : Int32) (x1 : Int64) (hx1 : x1 = ((p2 <<< ((8 : Int32) &&& 31)) >>> ((8 : Int32) &&& 31)).toInt64) (x2 : Int64) (hx2 : x2 = ((p3 <<< ((8 : Int32) &&& 31)) >>> ((8 : Int32) &&& 31)).toInt64) (x3 : Int64) (hx3 : x3 = (p4 &&& (16777215 : Int32)).toInt64) (x4 : Int64) (hx4 : x4 = (p5 &&& (16777215 : Int32)).toInt64) (x24 : Int64) (hx24 : x24 = (p0.toInt64 + (x1 * x3))) (x25 : Int64) (hx25 : x25 = (p1.toInt64 + (x2 * x3))) (x37 : Int64) (hx37 : x37 = (x24 + (x2 * x4))) (x38 : Int64) (hx38 : x38 = (x25 + (x1 * x4))) : (cmpValue (FP.dcmp (rv7 (FP.l2d x2)) (FP.l2d x2)) .l) = (0 : Int32) := (OwnFl.cv_eq (OwnFl.Dy.nn (own_f4 p2 p3 p4 p5 x1 x2 x3 x4 hx1 hx2 hx3 hx4).2.1.1) (OwnFl.Dy.nn (own_f4 p2 p3 p4 p5 x1 x2 x3 x4 hx1 hx2 hx3 hx4).2.1.1) _).mpr rfl
theorem own_rm0_fc204 (p0 : Int32) (p1 : Int32) (p2 : Int32) (p3 : Int32) (p4 : Int32) (p5 : Int32) (x1 : Int64) (hx1 : x1 = ((p2 <<< ((8 : Int32) &&& 31)) >>> ((8 : Int32) &&& 31)).toInt64) (x2 : Int64) (hx2 : x2 = ((p3 <<< ((8 : Int32) &&& 31)) >>> ((8 : Int32) &&& 31)).toInt64) (x3 : Int64) (hx3 : x3 = (p4 &&& (16777215 : Int32)).toInt64) (x4 : Int64) (hx4 : x4 = (p5 &&& (16777215 : Int32)).toInt64) (x24 : Int64) (hx24 : x24 = (p0.toInt64 + (x1 * x3))) (x25 : Int64) (hx25 : x25 = (p1.toInt64 + (x2 * x3))) (x37 : Int64) (hx37 : x37 = (x24 + (x2 * x4))) (x38 : Int64) (hx38 : x38 = (x25 + (x1 * x4))) : (cmpValue (FP.dcmp (rv8 (FP.l2d x1)) (FP.l2d x1)) .l) = (0 : Int32) := (OwnFl.cv_eq (OwnFl.Dy.nn (own_f4 p2 p3 p4 p5 x1 x2 x3 x4 hx1 hx2 hx3 hx4).1.1) (OwnFl.Dy.nn (own_f4 p2 p3 p4 p5 x1 x2 x3 x4 hx1 hx2 hx3 hx4).1.1) _).mpr rfl
theorem own_rm0_fc216 (p0 : Int32) (p1 : Int32) (p2 : Int32) (p3 : Int32) (p4 : Int32) (p5 : Int32) (x1 : Int64) (hx1 : x1 = ((p2 <<< ((8 : Int32) &&& 31)) >>> ((8 : Int32) &&& 31)).toInt64) (x2 : Int64) (hx2 : x2 = ((p3 <<< ((8 : Int32) &&& 31)) >>> ((8 : Int32) &&& 31)).toInt64) (x3 : Int64) (hx3 : x3 = (p4 &&& (16777215 : Int32)).toInt64) (x4 : Int64) (hx4 : x4 = (p5 &&& (16777215 : Int32)).toInt64) (x24 : Int64) (hx24 : x24 = (p0.toInt64 + (x1 * x3))) (x25 : Int64) (hx25 : x25 = (p1.toInt64 + (x2 * x3))) (x37 : Int64) (hx37 : x37 = (x24 + (x2 * x4))) (x38 : Int64) (hx38 : x38 = (x25 + (x1 * x4))) : (cmpValue (FP.dcmp (rv9 (FP.dadd (FP.dadd (FP.i2d p0) (FP.dmul (FP.l2d x1) (FP.l2d x3))) (FP.dmul (FP.l2d x2) (FP.l2d x4)))) (FP.l2d x37)) .l) = (0 : Int32) := (own_cmp (own_add2 (own_add1 (p := p0) (own_mul (own_f4 p2 p3 p4 p5 x1 x2 x3 x4 hx1 hx2 hx3 hx4).1 (own_f4 p2 p3 p4 p5 x1 x2 x3 x4 hx1 hx2 hx3 hx4).2.2.1)) (own_mul (own_f4 p2 p3 p4 p5 x1 x2 x3 x4 hx1 hx2 hx3 hx4).2.1 (own_f4 p2 p3 p4 p5 x1 x2 x3 x4 hx1 hx2 hx3 hx4).2.2.2)) (by rw [hx37, hx24])).mpr trivial
theorem own_rm0_fc228 (p0 : Int32) (p1 : Int32) (p2 : Int32) (p3 : Int32) (p4 : Int32) (p5 : Int32) (x1 : Int64) (hx1 : x1 = ((p2 <<< ((8 : Int32) &&& 31)) >>> ((8 : Int32) &&& 31)).toInt64) (x2 : Int64) (hx2 : x2 = ((p3 <<< ((8 : Int32) &&& 31)) >>> ((8 : Int32) &&& 31)).toInt64) (x3 : Int64) (hx3 : x3 = (p4 &&& (16777215 : Int32)).toInt64) (x4 : Int64) (hx4 : x4 = (p5 &&& (16777215 : Int32)).toInt64) (x24 : Int64) (hx24 : x24 = (p0.toInt64 + (x1 * x3))) (x25 : Int64) (hx25 : x25 = (p1.toInt64 + (x2 * x3))) (x37 : Int64) (hx37 : x37 = (x24 + (x2 * x4))) (x38 : Int64) (hx38 : x38 = (x25 + (x1 * x4))) : (cmpValue (FP.dcmp (rv10 (FP.dadd (FP.dadd (FP.i2d p1) (FP.dmul (FP.l2d x2) (FP.l2d x3))) (FP.dmul (FP.l2d x1) (FP.l2d x4)))) (FP.l2d x38)) .l) = (0 : Int32) := (own_cmp (own_add2 (own_add1 (p := p1) (own_mul (own_f4 p2 p3 p4 p5 x1 x2 x3 x4 hx1 hx2 hx3 hx4).2.1 (own_f4 p2 p3 p4 p5 x1 x2 x3 x4 hx1 hx2 hx3 hx4).2.2.1)) (own_mul (own_f4 p2 p3 p4 p5 x1 x2 x3 x4 hx1 hx2 hx3 hx4).1 (own_f4 p2 p3 p4 p5 x1 x2 x3 x4 hx1 hx2 hx3 hx4).2.2.2)) (by rw [hx38, hx25])).mpr trivial
set_option maxRecDepth 65536 in
set_option maxHeartbeats 40000000 in
theorem rm0 (l : Launch) (Z : State) (a0 : Array Value) (hw : ∀ d ∈ tables_1, d.before a0 Z = true) (ws : List Jvm.Cond) (p0 : Int32) (p1 : Int32) (p2 : Int32) (p3 : Int32) (p4 : Int32) (p5 : Int32)  (h0 : Heap) (n0 : Nat) (Z0 : n0 ≤ h0.size) :
    MetFree l x (head1 (Jvm.Cond.code x code maxLocals ret :: ws) room_1) (fun a U => a = #[(.int p0), (.int p1), (.int p2), (.int p3), (.int p4), (.int p5)] ∧ Z.Warmed39 U.vm ∧ U.heap = h0) (fun _ _ _ _ _ => True) (fun _ U o U' => ∃ v L, o = .returned v ∧ Q0 Z p0 p1 p2 p3 p4 p5 h0 n0 v U'.heap L ∧ FrameEnd U o U' L room_1.cells room_1.slots) := by
  refine MetFree.of_bodySF (plainFor_of_name pn_0) hisR ?_
  intro p e s m args below meth c s₁ Bd hml0 hP hK
  obtain ⟨rfl, hZ, hh⟩ := hP
  have hx := Bd.exec
  have hby := Bd.bytes
  have hml : c.maxLocals = 24 := hml0
  have hown : s.vm.findClass "com/example/crowded_platform/crowdedplatform/movement/BodyMovePinLaw" = some m.cls := findClass_of_methodNamed Bd.named
  have hnm := (name_of_methodNamed Bd.named Bd.method).1
  have X0 : Stand p l e room_1 s m #[(.int p0), (.int p1), (.int p2), (.int p3), (.int p4), (.int p5)] below meth c s₁ [] 0 0 := Stand.of_body Bd
  have e0 : s₁.heap = h0 := by rw [← hh, Bd.state]; rfl
  have N0 := Fr.nil n0
  have G0 := gd X0 hx hby
  have pre0 : ∀ t, Steps p.tables e below (s₁.setTop (mkF m 0 #[iv p0, iv p1, iv p2, iv p3, iv p4, iv p5, .unset, .unset, .unset, .unset, .unset, .unset, .unset, .unset, .unset, .unset, .unset, .unset, .unset, .unset, .unset, .unset, .unset, .unset] [])) t → Steps p.tables e below (s₁.setTop (entryFrame m #[(.int p0), (.int p1), (.int p2), (.int p3), (.int p4), (.int p5)] maxLocals)) t := fun t k => castTop (ef0 m p0 p1 p2 p3 p4 p5) k
  obtain ⟨x1, hx1⟩ : ∃ z : Int64, z = ((p2 <<< ((8 : Int32) &&& 31)) >>> ((8 : Int32) &&& 31)).toInt64 := ⟨_, rfl⟩
  obtain ⟨x2, hx2⟩ : ∃ z : Int64, z = ((p3 <<< ((8 : Int32) &&& 31)) >>> ((8 : Int32) &&& 31)).toInt64 := ⟨_, rfl⟩
  obtain ⟨x3, hx3⟩ : ∃ z : Int64, z = (p4 &&& (16777215 : Int32)).toInt64 := ⟨_, rfl⟩
  obtain ⟨x4, hx4⟩ : ∃ z : Int64, z = (p5 &&& (16777215 : Int32)).toInt64 := ⟨_, rfl⟩
  obtain ⟨T5, h5, X5, e5, E5, A5, D5, -, st5⟩ := newO X0 hx hZ hown (wd hw 1 rfl) (wd hw 2 rfl) (wd hw 3 rfl) e0 (g := (mkF m 36 #[iv p0, iv p1, iv p2, iv p3, iv p4, iv p5, lv x1, .second, lv x2, .second, lv x3, .second, lv x4, .second, .unset, .unset, .unset, .unset, .unset, .unset, .unset, .unset, .unset, .unset] [])) rfl (hb hby at_36) (by decide) (by decide)
  have G5 := gd X5 hx hby
  obtain ⟨b5, g5⟩ : ∃ z, z = h0.size := ⟨_, rfl⟩
  rw [← g5] at A5 D5 st5
  have g_b5 : n0 ≤ b5 := Nat.le_trans Z0 (Nat.le_of_eq g5.symm)
  have Z5 := Nat.le_trans Z0 E5.1
  have F_x_b5 : Fld Z h5 b5 "com/example/crowded_platform/crowdedplatform/movement/Body" "x" "D" (.double (0 : UInt64)) := D5 (Or.inl (wd hw 25 rfl)) (ty := .double) (by decide)
  have F_y_b5 : Fld Z h5 b5 "com/example/crowded_platform/crowdedplatform/movement/Body" "y" "D" (.double (0 : UInt64)) := D5 (Or.inl (wd hw 27 rfl)) (ty := .double) (by decide)
  have F_radius_b5 : Fld Z h5 b5 "com/example/crowded_platform/crowdedplatform/movement/Body" "radius" "D" (.double (0 : UInt64)) := D5 (Or.inr (wd hw 29 rfl)) (ty := .double) (by decide)
  have F_desiredSpeed_b5 : Fld Z h5 b5 "com/example/crowded_platform/crowdedplatform/movement/Body" "desiredSpeed" "D" (.double (0 : UInt64)) := D5 (Or.inr (wd hw 31 rfl)) (ty := .double) (by decide)
  have F_vx_b5 : Fld Z h5 b5 "com/example/crowded_platform/crowdedplatform/movement/Body" "vx" "D" (.double (0 : UInt64)) := D5 (Or.inl (wd hw 38 rfl)) (ty := .double) (by decide)
  have F_vy_b5 : Fld Z h5 b5 "com/example/crowded_platform/crowdedplatform/movement/Body" "vy" "D" (.double (0 : UInt64)) := D5 (Or.inl (wd hw 40 rfl)) (ty := .double) (by decide)
  obtain ⟨_, _, ⟨T6, L6, k6, n6⟩, -, X6, ⟨Lc6, hQ6, l6, y6, z6⟩, st6⟩ := X5.specialBack hx (y := (⟨"com/example/crowded_platform/crowdedplatform/movement/Body", "<init>", "(DDDD)V"⟩ : MethodName)) rfl hown (mvT hZ (wd hw 6 rfl)) (mvT hZ (wd hw 7 rfl)) (mvT hZ (wd hw 8 rfl)) (by decide) (backOf (W := 1) (rm1 l Z a0 hw [] b5 ((FP.i2d p0)) ((FP.i2d p1)) (4602678819172646912 : UInt64) (4609434218613702656 : UInt64) h5 n0 Z5 A5 g_b5 F_x_b5 F_y_b5 F_radius_b5 F_desiredSpeed_b5 F_vx_b5 F_vy_b5 (own_rm0_hp_hp_hnn1_5_50 p0 p1 p2 p3 p4 p5 x1 hx1 x2 hx2 x3 hx3 x4 hx4) (own_rm0_hp_hf8_50 p0 p1 p2 p3 p4 p5 x1 hx1 x2 hx2 x3 hx3 x4 hx4) (own_rm0_hp_hp_hnn1_12_50 p0 p1 p2 p3 p4 p5 x1 hx1 x2 hx2 x3 hx3 x4 hx4) (own_rm0_hp_hf15_50 p0 p1 p2 p3 p4 p5 x1 hx1 x2 hx2 x3 hx3 x4 hx4) (own_rm0_hp_hf37_50 p0 p1 p2 p3 p4 p5 x1 hx1 x2 hx2 x3 hx3 x4 hx4) (own_rm0_hp_hp_hnn1_42_50 p0 p1 p2 p3 p4 p5 x1 hx1 x2 hx2 x3 hx3 x4 hx4) (own_rm0_hp_hf45_50 p0 p1 p2 p3 p4 p5 x1 hx1 x2 hx2 x3 hx3 x4 hx4) (own_rm0_hp_hf67_50 p0 p1 p2 p3 p4 p5 x1 hx1 x2 hx2 x3 hx3 x4 hx4) (own_rm0_hp_hp_hnn1_72_50 p0 p1 p2 p3 p4 p5 x1 hx1 x2 hx2 x3 hx3 x4 hx4) (own_rm0_hp_hf75_50 p0 p1 p2 p3 p4 p5 x1 hx1 x2 hx2 x3 hx3 x4 hx4)) hZ (wd hw 8 rfl) (wd hw 3 rfl) (by decide) (by decide)) (g := (mkF m 50 #[iv p0, iv p1, iv p2, iv p3, iv p4, iv p5, lv x1, .second, lv x2, .second, lv x3, .second, lv x4, .second, .unset, .unset, .unset, .unset, .unset, .unset, .unset, .unset, .unset, .unset] [(.double (4609434218613702656 : UInt64)), (.double (4602678819172646912 : UInt64)), (.double (FP.i2d p1)), (.double (FP.i2d p0)), (.ref b5), (.ref b5)])) rfl (by rw [hml]; rfl) (Steps.refl _) (a := b5) (argsL := [(.double (FP.i2d p0)), (.double (FP.i2d p1)), (.double (4602678819172646912 : UInt64)), (.double (4609434218613702656 : UInt64))]) (rest := [(.ref b5)]) (lenOf pd_2 rfl) rfl (by show 2 * 0 + _ ≤ _; exact Nat.le_of_eq rfl) (hb hby at_50) (fun _ _ => ⟨rfl, e5, (by decide : 1 + 0 ≤ _), (by decide : 11 + 0 ≤ _)⟩)
  dsimp only [Pt.U, Pt.locs, Pt.cells, Pt.slots] at X6 l6 y6 z6 st6 hQ6
  replace l6 : ([] ++ Lc6) = L6 := l6.symm
  subst l6 y6 z6
  obtain ⟨rfl, Nq6, K6, Eq6, Fq6_0, Fq6_1, Fq6_2, Fq6_3, Fq6_4, Fq6_5⟩ := hQ6
  have N6 := Fr.app N0 Nq6
  have f14 := A5.keep K6
  have Z6k := Nat.le_trans Z5 K6.1
  have G6 := gd X6 hx hby
  obtain ⟨cq15, kq15, q15a, q15b, q15c⟩ := isOf hZ rfl Eq6
  obtain ⟨_, _, ⟨T15, L15, k15, n15⟩, -, X15, ⟨Lc15, hQ15, l15, y15, z15⟩, st15⟩ := X6.virtualBack hx (y := (⟨"com/example/crowded_platform/crowdedplatform/movement/Body", "move", "(DDD)V"⟩ : MethodName)) (z := (⟨"com/example/crowded_platform/crowdedplatform/movement/Body", "move", "(DDD)V"⟩ : MethodName)) hown (mvT hZ (wd hw 32 rfl)) (mvT hZ (wd hw 33 rfl)) (notFace_of_selects (args := #[]) (mvT hZ (wd hw 35 rfl))) (mvT hZ (wd hw 35 rfl)) (mvT hZ (wd hw 34 rfl)) (by decide) (backOf (W := 0) (rm6 l Z a0 hw [] b5 ((FP.l2d x1)) ((FP.l2d x2)) ((FP.l2d x3)) T6.heap n0 Z6k Eq6 g_b5 Fq6_0 Fq6_1 Fq6_4 Fq6_5 (own_rm0_hp_hn18_66 p0 p1 p2 p3 p4 p5 x1 hx1 x2 hx2 x3 hx3 x4 hx4) (own_rm0_hp_hn19_66 p0 p1 p2 p3 p4 p5 x1 hx1 x2 hx2 x3 hx3 x4 hx4) (own_rm0_hp_hn31_66 p0 p1 p2 p3 p4 p5 x1 hx1 x2 hx2 x3 hx3 x4 hx4) (own_rm0_hp_hn32_66 p0 p1 p2 p3 p4 p5 x1 hx1 x2 hx2 x3 hx3 x4 hx4)) hZ (wd hw 36 rfl) (wd hw 3 rfl) (by decide) (by decide)) q15a q15c (g := (mkF m 66 #[iv p0, iv p1, iv p2, iv p3, iv p4, iv p5, lv x1, .second, lv x2, .second, lv x3, .second, lv x4, .second, rv b5, .unset, .unset, .unset, .unset, .unset, .unset, .unset, .unset, .unset] [(.double (FP.l2d x3)), (.double (FP.l2d x2)), (.double (FP.l2d x1)), (.ref b5)])) rfl (by rw [hml]; rfl) (Steps.refl _) (argsL := [(.double (FP.l2d x1)), (.double (FP.l2d x2)), (.double (FP.l2d x3))]) (rest := []) (lenOf pd_3 rfl) rfl (by show 2 * 0 + _ ≤ _; exact Nat.le_of_eq rfl) (hb hby at_66) (fun _ _ => ⟨rfl, rfl, (by decide : 1 + 0 ≤ _), (by decide : 11 + 0 ≤ _)⟩)
  dsimp only [Pt.U, Pt.locs, Pt.cells, Pt.slots] at X15 l15 y15 z15 st15 hQ15
  replace l15 : (([] ++ Lc6) ++ Lc15) = L15 := l15.symm
  subst l15 y15 z15
  obtain ⟨rfl, Nq15, K15, Eq15, Fq15_0, Fq15_1, Fq15_2, Fq15_3⟩ := hQ15
  have N15 := Fr.app N6 Nq15
  have f17 := Eq6.keep K15
  have Z15k := Nat.le_trans Z6k K15.1
  have G15 := gd X15 hx hby
  obtain ⟨x24, hx24⟩ : ∃ z : Int64, z = (p0.toInt64 + (x1 * x3)) := ⟨_, rfl⟩
  obtain ⟨x25, hx25⟩ : ∃ z : Int64, z = (p1.toInt64 + (x2 * x3)) := ⟨_, rfl⟩
  obtain ⟨cq26, kq26, q26a, q26b, q26c⟩ := isOf hZ rfl Eq15
  obtain ⟨_, _, ⟨T26, L26, k26, n26⟩, -, X26, ⟨Lc26, hQ26, l26, y26, z26⟩, st26⟩ := X15.virtualBack hx (y := (⟨"com/example/crowded_platform/crowdedplatform/movement/Body", "vx", "()D"⟩ : MethodName)) (z := (⟨"com/example/crowded_platform/crowdedplatform/movement/Body", "vx", "()D"⟩ : MethodName)) hown (mvT hZ (wd hw 41 rfl)) (mvT hZ (wd hw 42 rfl)) (notFace_of_selects (args := #[]) (mvT hZ (wd hw 44 rfl))) (mvT hZ (wd hw 44 rfl)) (mvT hZ (wd hw 43 rfl)) (by decide) (backOf (W := 0) (rm7 l Z a0 hw [] b5 T15.heap n0 Z15k Fq15_2) hZ (wd hw 45 rfl) (wd hw 3 rfl) (by decide) (by decide)) q26a q26c (g := (mkF m 91 #[iv p0, iv p1, iv p2, iv p3, iv p4, iv p5, lv x1, .second, lv x2, .second, lv x3, .second, lv x4, .second, rv b5, lv x24, .second, lv x25, .second, .unset, .unset, .unset, .unset, .unset] [(.ref b5)])) rfl (by rw [hml]; rfl) (Steps.refl _) (argsL := []) (rest := []) (lenOf pd_4 rfl) rfl (by show 2 * 0 + _ ≤ _; exact Nat.le_of_eq rfl) (hb hby at_91) (fun _ _ => ⟨rfl, rfl, (by decide : 1 + 0 ≤ _), (by decide : 11 + 0 ≤ _)⟩)
  dsimp only [Pt.U, Pt.locs, Pt.cells, Pt.slots] at X26 l26 y26 z26 st26 hQ26
  replace l26 : ((([] ++ Lc6) ++ Lc15) ++ Lc26) = L26 := l26.symm
  subst l26 y26 z26
  obtain ⟨rfl, rfl, e26⟩ := hQ26
  simp only [List.append_nil, Nat.add_zero] at X26
  have G26 := gd X26 hx hby
  obtain ⟨cq27, kq27, q27a, q27b, q27c⟩ := isOf hZ e26 Eq15
  obtain ⟨_, _, ⟨T27, L27, k27, n27⟩, -, X27, ⟨Lc27, hQ27, l27, y27, z27⟩, st27⟩ := X26.virtualBack hx (y := (⟨"com/example/crowded_platform/crowdedplatform/movement/Body", "vy", "()D"⟩ : MethodName)) (z := (⟨"com/example/crowded_platform/crowdedplatform/movement/Body", "vy", "()D"⟩ : MethodName)) hown (mvT hZ (wd hw 46 rfl)) (mvT hZ (wd hw 47 rfl)) (notFace_of_selects (args := #[]) (mvT hZ (wd hw 49 rfl))) (mvT hZ (wd hw 49 rfl)) (mvT hZ (wd hw 48 rfl)) (by decide) (backOf (W := 0) (rm8 l Z a0 hw [] b5 T15.heap n0 Z15k Fq15_3) hZ (wd hw 50 rfl) (wd hw 3 rfl) (by decide) (by decide)) q27a q27c (g := (mkF m 103 #[iv p0, iv p1, iv p2, iv p3, iv p4, iv p5, lv x1, .second, lv x2, .second, lv x3, .second, lv x4, .second, rv b5, lv x24, .second, lv x25, .second, .unset, .unset, .unset, .unset, .unset] [(.ref b5)])) rfl (by rw [hml]; rfl) (Steps.refl _) (argsL := []) (rest := []) (lenOf pd_4 rfl) rfl (by show 2 * 0 + _ ≤ _; exact Nat.le_of_eq rfl) (hb hby at_103) (fun _ _ => ⟨rfl, e26, (by decide : 1 + 0 ≤ _), (by decide : 11 + 0 ≤ _)⟩)
  dsimp only [Pt.U, Pt.locs, Pt.cells, Pt.slots] at X27 l27 y27 z27 st27 hQ27
  replace l27 : ((([] ++ Lc6) ++ Lc15) ++ Lc27) = L27 := l27.symm
  subst l27 y27 z27
  obtain ⟨rfl, rfl, e27⟩ := hQ27
  simp only [List.append_nil, Nat.add_zero] at X27
  have G27 := gd X27 hx hby
  obtain ⟨cq28, kq28, q28a, q28b, q28c⟩ := isOf hZ e27 Eq15
  obtain ⟨_, _, ⟨T28, L28, k28, n28⟩, -, X28, ⟨Lc28, hQ28, l28, y28, z28⟩, st28⟩ := X27.virtualBack hx (y := (⟨"com/example/crowded_platform/crowdedplatform/movement/Body", "x", "()D"⟩ : MethodName)) (z := (⟨"com/example/crowded_platform/crowdedplatform/movement/Body", "x", "()D"⟩ : MethodName)) hown (mvT hZ (wd hw 51 rfl)) (mvT hZ (wd hw 52 rfl)) (notFace_of_selects (args := #[]) (mvT hZ (wd hw 54 rfl))) (mvT hZ (wd hw 54 rfl)) (mvT hZ (wd hw 53 rfl)) (by decide) (backOf (W := 0) (rm9 l Z a0 hw [] b5 T15.heap n0 Z15k Fq15_0) hZ (wd hw 55 rfl) (wd hw 3 rfl) (by decide) (by decide)) q28a q28c (g := (mkF m 115 #[iv p0, iv p1, iv p2, iv p3, iv p4, iv p5, lv x1, .second, lv x2, .second, lv x3, .second, lv x4, .second, rv b5, lv x24, .second, lv x25, .second, .unset, .unset, .unset, .unset, .unset] [(.ref b5)])) rfl (by rw [hml]; rfl) (Steps.refl _) (argsL := []) (rest := []) (lenOf pd_4 rfl) rfl (by show 2 * 0 + _ ≤ _; exact Nat.le_of_eq rfl) (hb hby at_115) (fun _ _ => ⟨rfl, e27, (by decide : 1 + 0 ≤ _), (by decide : 11 + 0 ≤ _)⟩)
  dsimp only [Pt.U, Pt.locs, Pt.cells, Pt.slots] at X28 l28 y28 z28 st28 hQ28
  replace l28 : ((([] ++ Lc6) ++ Lc15) ++ Lc28) = L28 := l28.symm
  subst l28 y28 z28
  obtain ⟨rfl, rfl, e28⟩ := hQ28
  simp only [List.append_nil, Nat.add_zero] at X28
  have G28 := gd X28 hx hby
  obtain ⟨cq29, kq29, q29a, q29b, q29c⟩ := isOf hZ e28 Eq15
  obtain ⟨_, _, ⟨T29, L29, k29, n29⟩, -, X29, ⟨Lc29, hQ29, l29, y29, z29⟩, st29⟩ := X28.virtualBack hx (y := (⟨"com/example/crowded_platform/crowdedplatform/movement/Body", "y", "()D"⟩ : MethodName)) (z := (⟨"com/example/crowded_platform/crowdedplatform/movement/Body", "y", "()D"⟩ : MethodName)) hown (mvT hZ (wd hw 56 rfl)) (mvT hZ (wd hw 57 rfl)) (notFace_of_selects (args := #[]) (mvT hZ (wd hw 59 rfl))) (mvT hZ (wd hw 59 rfl)) (mvT hZ (wd hw 58 rfl)) (by decide) (backOf (W := 0) (rm10 l Z a0 hw [] b5 T15.heap n0 Z15k Fq15_1) hZ (wd hw 60 rfl) (wd hw 3 rfl) (by decide) (by decide)) q29a q29c (g := (mkF m 127 #[iv p0, iv p1, iv p2, iv p3, iv p4, iv p5, lv x1, .second, lv x2, .second, lv x3, .second, lv x4, .second, rv b5, lv x24, .second, lv x25, .second, .unset, .unset, .unset, .unset, .unset] [(.ref b5)])) rfl (by rw [hml]; rfl) (Steps.refl _) (argsL := []) (rest := []) (lenOf pd_4 rfl) rfl (by show 2 * 0 + _ ≤ _; exact Nat.le_of_eq rfl) (hb hby at_127) (fun _ _ => ⟨rfl, e28, (by decide : 1 + 0 ≤ _), (by decide : 11 + 0 ≤ _)⟩)
  dsimp only [Pt.U, Pt.locs, Pt.cells, Pt.slots] at X29 l29 y29 z29 st29 hQ29
  replace l29 : ((([] ++ Lc6) ++ Lc15) ++ Lc29) = L29 := l29.symm
  subst l29 y29 z29
  obtain ⟨rfl, rfl, e29⟩ := hQ29
  simp only [List.append_nil, Nat.add_zero] at X29
  have G29 := gd X29 hx hby
  obtain ⟨cq30, kq30, q30a, q30b, q30c⟩ := isOf hZ e29 Eq15
  obtain ⟨_, _, ⟨T30, L30, k30, n30⟩, -, X30, ⟨Lc30, hQ30, l30, y30, z30⟩, st30⟩ := X29.virtualBack hx (y := (⟨"com/example/crowded_platform/crowdedplatform/movement/Body", "move", "(DDD)V"⟩ : MethodName)) (z := (⟨"com/example/crowded_platform/crowdedplatform/movement/Body", "move", "(DDD)V"⟩ : MethodName)) hown (mvT hZ (wd hw 32 rfl)) (mvT hZ (wd hw 33 rfl)) (notFace_of_selects (args := #[]) (mvT hZ (wd hw 35 rfl))) (mvT hZ (wd hw 35 rfl)) (mvT hZ (wd hw 34 rfl)) (by decide) (backOf (W := 0) (rm6 l Z a0 hw [] b5 ((FP.l2d x2)) ((FP.l2d x1)) ((FP.l2d x4)) T15.heap n0 Z15k Eq15 g_b5 Fq15_0 Fq15_1 Fq15_2 Fq15_3 (own_rm0_hp_hn18_155 p0 p1 p2 p3 p4 p5 x1 hx1 x2 hx2 x3 hx3 x4 hx4 x24 hx24 x25 hx25) (own_rm0_hp_hn19_155 p0 p1 p2 p3 p4 p5 x1 hx1 x2 hx2 x3 hx3 x4 hx4 x24 hx24 x25 hx25) (own_rm0_hp_hn31_155 p0 p1 p2 p3 p4 p5 x1 hx1 x2 hx2 x3 hx3 x4 hx4 x24 hx24 x25 hx25) (own_rm0_hp_hn32_155 p0 p1 p2 p3 p4 p5 x1 hx1 x2 hx2 x3 hx3 x4 hx4 x24 hx24 x25 hx25)) hZ (wd hw 36 rfl) (wd hw 3 rfl) (by decide) (by decide)) q30a q30c (g := (mkF m 155 #[iv p0, iv p1, iv p2, iv p3, iv p4, iv p5, lv x1, .second, lv x2, .second, lv x3, .second, lv x4, .second, rv b5, lv x24, .second, lv x25, .second, iv (1 : Int32), .unset, .unset, .unset, .unset] [(.double (FP.l2d x4)), (.double (FP.l2d x1)), (.double (FP.l2d x2)), (.ref b5)])) rfl (by rw [hml]; rfl) (Steps.refl _) (argsL := [(.double (FP.l2d x2)), (.double (FP.l2d x1)), (.double (FP.l2d x4))]) (rest := []) (lenOf pd_3 rfl) rfl (by show 2 * 0 + _ ≤ _; exact Nat.le_of_eq rfl) (hb hby at_155) (fun _ _ => ⟨rfl, e29, (by decide : 1 + 0 ≤ _), (by decide : 11 + 0 ≤ _)⟩)
  dsimp only [Pt.U, Pt.locs, Pt.cells, Pt.slots] at X30 l30 y30 z30 st30 hQ30
  replace l30 : ((([] ++ Lc6) ++ Lc15) ++ Lc30) = L30 := l30.symm
  subst l30 y30 z30
  obtain ⟨rfl, Nq30, K30, Eq30, Fq30_0, Fq30_1, Fq30_2, Fq30_3⟩ := hQ30
  have N30 := Fr.app N15 Nq30
  have f32 := Eq15.keep K30
  have Z30k := Nat.le_trans Z15k K30.1
  have G30 := gd X30 hx hby
  obtain ⟨x37, hx37⟩ : ∃ z : Int64, z = (x24 + (x2 * x4)) := ⟨_, rfl⟩
  obtain ⟨x38, hx38⟩ : ∃ z : Int64, z = (x25 + (x1 * x4)) := ⟨_, rfl⟩
  obtain ⟨cq39, kq39, q39a, q39b, q39c⟩ := isOf hZ rfl Eq30
  obtain ⟨_, _, ⟨T39, L39, k39, n39⟩, -, X39, ⟨Lc39, hQ39, l39, y39, z39⟩, st39⟩ := X30.virtualBack hx (y := (⟨"com/example/crowded_platform/crowdedplatform/movement/Body", "vx", "()D"⟩ : MethodName)) (z := (⟨"com/example/crowded_platform/crowdedplatform/movement/Body", "vx", "()D"⟩ : MethodName)) hown (mvT hZ (wd hw 41 rfl)) (mvT hZ (wd hw 42 rfl)) (notFace_of_selects (args := #[]) (mvT hZ (wd hw 44 rfl))) (mvT hZ (wd hw 44 rfl)) (mvT hZ (wd hw 43 rfl)) (by decide) (backOf (W := 0) (rm7 l Z a0 hw [] b5 T30.heap n0 Z30k Fq30_2) hZ (wd hw 45 rfl) (wd hw 3 rfl) (by decide) (by decide)) q39a q39c (g := (mkF m 185 #[iv p0, iv p1, iv p2, iv p3, iv p4, iv p5, lv x1, .second, lv x2, .second, lv x3, .second, lv x4, .second, rv b5, lv x24, .second, lv x25, .second, iv (1 : Int32), lv x37, .second, lv x38, .second] [(.ref b5)])) rfl (by rw [hml]; rfl) (Steps.refl _) (argsL := []) (rest := []) (lenOf pd_4 rfl) rfl (by show 2 * 0 + _ ≤ _; exact Nat.le_of_eq rfl) (hb hby at_185) (fun _ _ => ⟨rfl, rfl, (by decide : 1 + 0 ≤ _), (by decide : 11 + 0 ≤ _)⟩)
  dsimp only [Pt.U, Pt.locs, Pt.cells, Pt.slots] at X39 l39 y39 z39 st39 hQ39
  replace l39 : (((([] ++ Lc6) ++ Lc15) ++ Lc30) ++ Lc39) = L39 := l39.symm
  subst l39 y39 z39
  obtain ⟨rfl, rfl, e39⟩ := hQ39
  simp only [List.append_nil, Nat.add_zero] at X39
  have G39 := gd X39 hx hby
  obtain ⟨cq40, kq40, q40a, q40b, q40c⟩ := isOf hZ e39 Eq30
  obtain ⟨_, _, ⟨T40, L40, k40, n40⟩, -, X40, ⟨Lc40, hQ40, l40, y40, z40⟩, st40⟩ := X39.virtualBack hx (y := (⟨"com/example/crowded_platform/crowdedplatform/movement/Body", "vy", "()D"⟩ : MethodName)) (z := (⟨"com/example/crowded_platform/crowdedplatform/movement/Body", "vy", "()D"⟩ : MethodName)) hown (mvT hZ (wd hw 46 rfl)) (mvT hZ (wd hw 47 rfl)) (notFace_of_selects (args := #[]) (mvT hZ (wd hw 49 rfl))) (mvT hZ (wd hw 49 rfl)) (mvT hZ (wd hw 48 rfl)) (by decide) (backOf (W := 0) (rm8 l Z a0 hw [] b5 T30.heap n0 Z30k Fq30_3) hZ (wd hw 50 rfl) (wd hw 3 rfl) (by decide) (by decide)) q40a q40c (g := (mkF m 197 #[iv p0, iv p1, iv p2, iv p3, iv p4, iv p5, lv x1, .second, lv x2, .second, lv x3, .second, lv x4, .second, rv b5, lv x24, .second, lv x25, .second, iv (1 : Int32), lv x37, .second, lv x38, .second] [(.ref b5)])) rfl (by rw [hml]; rfl) (Steps.refl _) (argsL := []) (rest := []) (lenOf pd_4 rfl) rfl (by show 2 * 0 + _ ≤ _; exact Nat.le_of_eq rfl) (hb hby at_197) (fun _ _ => ⟨rfl, e39, (by decide : 1 + 0 ≤ _), (by decide : 11 + 0 ≤ _)⟩)
  dsimp only [Pt.U, Pt.locs, Pt.cells, Pt.slots] at X40 l40 y40 z40 st40 hQ40
  replace l40 : (((([] ++ Lc6) ++ Lc15) ++ Lc30) ++ Lc40) = L40 := l40.symm
  subst l40 y40 z40
  obtain ⟨rfl, rfl, e40⟩ := hQ40
  simp only [List.append_nil, Nat.add_zero] at X40
  have G40 := gd X40 hx hby
  obtain ⟨cq41, kq41, q41a, q41b, q41c⟩ := isOf hZ e40 Eq30
  obtain ⟨_, _, ⟨T41, L41, k41, n41⟩, -, X41, ⟨Lc41, hQ41, l41, y41, z41⟩, st41⟩ := X40.virtualBack hx (y := (⟨"com/example/crowded_platform/crowdedplatform/movement/Body", "x", "()D"⟩ : MethodName)) (z := (⟨"com/example/crowded_platform/crowdedplatform/movement/Body", "x", "()D"⟩ : MethodName)) hown (mvT hZ (wd hw 51 rfl)) (mvT hZ (wd hw 52 rfl)) (notFace_of_selects (args := #[]) (mvT hZ (wd hw 54 rfl))) (mvT hZ (wd hw 54 rfl)) (mvT hZ (wd hw 53 rfl)) (by decide) (backOf (W := 0) (rm9 l Z a0 hw [] b5 T30.heap n0 Z30k Fq30_0) hZ (wd hw 55 rfl) (wd hw 3 rfl) (by decide) (by decide)) q41a q41c (g := (mkF m 209 #[iv p0, iv p1, iv p2, iv p3, iv p4, iv p5, lv x1, .second, lv x2, .second, lv x3, .second, lv x4, .second, rv b5, lv x24, .second, lv x25, .second, iv (1 : Int32), lv x37, .second, lv x38, .second] [(.ref b5)])) rfl (by rw [hml]; rfl) (Steps.refl _) (argsL := []) (rest := []) (lenOf pd_4 rfl) rfl (by show 2 * 0 + _ ≤ _; exact Nat.le_of_eq rfl) (hb hby at_209) (fun _ _ => ⟨rfl, e40, (by decide : 1 + 0 ≤ _), (by decide : 11 + 0 ≤ _)⟩)
  dsimp only [Pt.U, Pt.locs, Pt.cells, Pt.slots] at X41 l41 y41 z41 st41 hQ41
  replace l41 : (((([] ++ Lc6) ++ Lc15) ++ Lc30) ++ Lc41) = L41 := l41.symm
  subst l41 y41 z41
  obtain ⟨rfl, rfl, e41⟩ := hQ41
  simp only [List.append_nil, Nat.add_zero] at X41
  have G41 := gd X41 hx hby
  obtain ⟨cq42, kq42, q42a, q42b, q42c⟩ := isOf hZ e41 Eq30
  obtain ⟨_, _, ⟨T42, L42, k42, n42⟩, -, X42, ⟨Lc42, hQ42, l42, y42, z42⟩, st42⟩ := X41.virtualBack hx (y := (⟨"com/example/crowded_platform/crowdedplatform/movement/Body", "y", "()D"⟩ : MethodName)) (z := (⟨"com/example/crowded_platform/crowdedplatform/movement/Body", "y", "()D"⟩ : MethodName)) hown (mvT hZ (wd hw 56 rfl)) (mvT hZ (wd hw 57 rfl)) (notFace_of_selects (args := #[]) (mvT hZ (wd hw 59 rfl))) (mvT hZ (wd hw 59 rfl)) (mvT hZ (wd hw 58 rfl)) (by decide) (backOf (W := 0) (rm10 l Z a0 hw [] b5 T30.heap n0 Z30k Fq30_1) hZ (wd hw 60 rfl) (wd hw 3 rfl) (by decide) (by decide)) q42a q42c (g := (mkF m 221 #[iv p0, iv p1, iv p2, iv p3, iv p4, iv p5, lv x1, .second, lv x2, .second, lv x3, .second, lv x4, .second, rv b5, lv x24, .second, lv x25, .second, iv (1 : Int32), lv x37, .second, lv x38, .second] [(.ref b5)])) rfl (by rw [hml]; rfl) (Steps.refl _) (argsL := []) (rest := []) (lenOf pd_4 rfl) rfl (by show 2 * 0 + _ ≤ _; exact Nat.le_of_eq rfl) (hb hby at_221) (fun _ _ => ⟨rfl, e41, (by decide : 1 + 0 ≤ _), (by decide : 11 + 0 ≤ _)⟩)
  dsimp only [Pt.U, Pt.locs, Pt.cells, Pt.slots] at X42 l42 y42 z42 st42 hQ42
  replace l42 : (((([] ++ Lc6) ++ Lc15) ++ Lc30) ++ Lc42) = L42 := l42.symm
  subst l42 y42 z42
  obtain ⟨rfl, rfl, e42⟩ := hQ42
  simp only [List.append_nil, Nat.add_zero] at X42
  have G42 := gd X42 hx hby
  obtain ⟨fs, hr, hrun, hended, hW, hsame⟩ := X42.leave (v := some (.int (1 : Int32))) (fun h => by rw [Bd.returns] at h; cases h)
  refine ⟨_, _, pre0 _ ?_, hrun, hended, _, _, rfl, ?_, ⟨_, rfl⟩, hW, hsame.mono (by decide) (by decide)⟩
  · show Steps p.tables e below (s₁.setTop (mkF m 0 #[iv p0, iv p1, iv p2, iv p3, iv p4, iv p5, .unset, .unset, .unset, .unset, .unset, .unset, .unset, .unset, .unset, .unset, .unset, .unset, .unset, .unset, .unset, .unset, .unset, .unset] [])) _
    refine miloadN 1 G0 at_0 rfl rfl ?_
    refine mbipush 3 G0 at_1 (v := (8 : Int32)) rfl rfl ?_
    refine mishl 4 G0 at_3 rfl rfl ?_
    refine mbipush 6 G0 at_4 (v := (8 : Int32)) rfl rfl ?_
    refine mishr 7 G0 at_6 rfl rfl ?_
    refine mi2l 8 G0 at_7 rfl ?_
    refine castTop (g' := (mkF m 8 #[iv p0, iv p1, iv p2, iv p3, iv p4, iv p5, .unset, .unset, .unset, .unset, .unset, .unset, .unset, .unset, .unset, .unset, .unset, .unset, .unset, .unset, .unset, .unset, .unset, .unset] [(.long x1)])) (by rw [hx1]) ?_
    refine mlstore 10 G0 at_8 #[iv p0, iv p1, iv p2, iv p3, iv p4, iv p5, lv x1, .second, .unset, .unset, .unset, .unset, .unset, .unset, .unset, .unset, .unset, .unset, .unset, .unset, .unset, .unset, .unset, .unset] rfl rfl ?_
    refine miloadN 11 G0 at_10 rfl rfl ?_
    refine mbipush 13 G0 at_11 (v := (8 : Int32)) rfl rfl ?_
    refine mishl 14 G0 at_13 rfl rfl ?_
    refine mbipush 16 G0 at_14 (v := (8 : Int32)) rfl rfl ?_
    refine mishr 17 G0 at_16 rfl rfl ?_
    refine mi2l 18 G0 at_17 rfl ?_
    refine castTop (g' := (mkF m 18 #[iv p0, iv p1, iv p2, iv p3, iv p4, iv p5, lv x1, .second, .unset, .unset, .unset, .unset, .unset, .unset, .unset, .unset, .unset, .unset, .unset, .unset, .unset, .unset, .unset, .unset] [(.long x2)])) (by rw [hx2]) ?_
    refine mlstore 20 G0 at_18 #[iv p0, iv p1, iv p2, iv p3, iv p4, iv p5, lv x1, .second, lv x2, .second, .unset, .unset, .unset, .unset, .unset, .unset, .unset, .unset, .unset, .unset, .unset, .unset, .unset, .unset] rfl rfl ?_
    refine miload 22 G0 at_20 rfl rfl ?_
    refine X0.ldcInt hx hown (mvT hZ (wd hw 0 rfl)) (g := (mkF m 22 #[iv p0, iv p1, iv p2, iv p3, iv p4, iv p5, lv x1, .second, lv x2, .second, .unset, .unset, .unset, .unset, .unset, .unset, .unset, .unset, .unset, .unset, .unset, .unset, .unset, .unset] [(.int p4)])) rfl (hb hby at_22) _ ?_
    show Steps p.tables e below (s₁.setTop (mkF m 24 #[iv p0, iv p1, iv p2, iv p3, iv p4, iv p5, lv x1, .second, lv x2, .second, .unset, .unset, .unset, .unset, .unset, .unset, .unset, .unset, .unset, .unset, .unset, .unset, .unset, .unset] [(.int (16777215 : Int32)), (.int p4)])) _
    refine miand 25 G0 at_24 rfl rfl ?_
    refine mi2l 26 G0 at_25 rfl ?_
    refine castTop (g' := (mkF m 26 #[iv p0, iv p1, iv p2, iv p3, iv p4, iv p5, lv x1, .second, lv x2, .second, .unset, .unset, .unset, .unset, .unset, .unset, .unset, .unset, .unset, .unset, .unset, .unset, .unset, .unset] [(.long x3)])) (by rw [hx3]) ?_
    refine mlstore 28 G0 at_26 #[iv p0, iv p1, iv p2, iv p3, iv p4, iv p5, lv x1, .second, lv x2, .second, lv x3, .second, .unset, .unset, .unset, .unset, .unset, .unset, .unset, .unset, .unset, .unset, .unset, .unset] rfl rfl ?_
    refine miload 30 G0 at_28 rfl rfl ?_
    refine X0.ldcInt hx hown (mvT hZ (wd hw 0 rfl)) (g := (mkF m 30 #[iv p0, iv p1, iv p2, iv p3, iv p4, iv p5, lv x1, .second, lv x2, .second, lv x3, .second, .unset, .unset, .unset, .unset, .unset, .unset, .unset, .unset, .unset, .unset, .unset, .unset] [(.int p5)])) rfl (hb hby at_30) _ ?_
    show Steps p.tables e below (s₁.setTop (mkF m 32 #[iv p0, iv p1, iv p2, iv p3, iv p4, iv p5, lv x1, .second, lv x2, .second, lv x3, .second, .unset, .unset, .unset, .unset, .unset, .unset, .unset, .unset, .unset, .unset, .unset, .unset] [(.int (16777215 : Int32)), (.int p5)])) _
    refine miand 33 G0 at_32 rfl rfl ?_
    refine mi2l 34 G0 at_33 rfl ?_
    refine castTop (g' := (mkF m 34 #[iv p0, iv p1, iv p2, iv p3, iv p4, iv p5, lv x1, .second, lv x2, .second, lv x3, .second, .unset, .unset, .unset, .unset, .unset, .unset, .unset, .unset, .unset, .unset, .unset, .unset] [(.long x4)])) (by rw [hx4]) ?_
    refine mlstore 36 G0 at_34 #[iv p0, iv p1, iv p2, iv p3, iv p4, iv p5, lv x1, .second, lv x2, .second, lv x3, .second, lv x4, .second, .unset, .unset, .unset, .unset, .unset, .unset, .unset, .unset, .unset, .unset] rfl rfl ?_
    refine st5 _ ?_
    show Steps p.tables e below (T5.setTop (mkF m 39 #[iv p0, iv p1, iv p2, iv p3, iv p4, iv p5, lv x1, .second, lv x2, .second, lv x3, .second, lv x4, .second, .unset, .unset, .unset, .unset, .unset, .unset, .unset, .unset, .unset, .unset] [(.ref b5)])) _
    refine mdup 40 G5 at_39 rfl rfl ?_
    refine miloadN 41 G5 at_40 rfl rfl ?_
    refine mi2d 42 G5 at_41 rfl ?_
    refine miloadN 43 G5 at_42 rfl rfl ?_
    refine mi2d 44 G5 at_43 rfl ?_
    refine X5.ldc2DoubleC hx hown (mvT hZ (wd hw 4 rfl)) (g := (mkF m 44 #[iv p0, iv p1, iv p2, iv p3, iv p4, iv p5, lv x1, .second, lv x2, .second, lv x3, .second, lv x4, .second, .unset, .unset, .unset, .unset, .unset, .unset, .unset, .unset, .unset, .unset] [(.double (FP.i2d p1)), (.double (FP.i2d p0)), (.ref b5), (.ref b5)])) rfl (hb hby at_44) _ ?_
    show Steps p.tables e below (T5.setTop (mkF m 47 #[iv p0, iv p1, iv p2, iv p3, iv p4, iv p5, lv x1, .second, lv x2, .second, lv x3, .second, lv x4, .second, .unset, .unset, .unset, .unset, .unset, .unset, .unset, .unset, .unset, .unset] [(.double (4602678819172646912 : UInt64)), (.double (FP.i2d p1)), (.double (FP.i2d p0)), (.ref b5), (.ref b5)])) _
    refine X5.ldc2DoubleC hx hown (mvT hZ (wd hw 5 rfl)) (g := (mkF m 47 #[iv p0, iv p1, iv p2, iv p3, iv p4, iv p5, lv x1, .second, lv x2, .second, lv x3, .second, lv x4, .second, .unset, .unset, .unset, .unset, .unset, .unset, .unset, .unset, .unset, .unset] [(.double (4602678819172646912 : UInt64)), (.double (FP.i2d p1)), (.double (FP.i2d p0)), (.ref b5), (.ref b5)])) rfl (hb hby at_47) _ ?_
    show Steps p.tables e below (T5.setTop (mkF m 50 #[iv p0, iv p1, iv p2, iv p3, iv p4, iv p5, lv x1, .second, lv x2, .second, lv x3, .second, lv x4, .second, .unset, .unset, .unset, .unset, .unset, .unset, .unset, .unset, .unset, .unset] [(.double (4609434218613702656 : UInt64)), (.double (4602678819172646912 : UInt64)), (.double (FP.i2d p1)), (.double (FP.i2d p0)), (.ref b5), (.ref b5)])) _
    refine st6.trans ?_
    show Steps p.tables e below (T6.setTop (mkF m 53 #[iv p0, iv p1, iv p2, iv p3, iv p4, iv p5, lv x1, .second, lv x2, .second, lv x3, .second, lv x4, .second, .unset, .unset, .unset, .unset, .unset, .unset, .unset, .unset, .unset, .unset] [(.ref b5)])) _
    refine mastore 55 G6 at_53 rfl #[iv p0, iv p1, iv p2, iv p3, iv p4, iv p5, lv x1, .second, lv x2, .second, lv x3, .second, lv x4, .second, rv b5, .unset, .unset, .unset, .unset, .unset, .unset, .unset, .unset, .unset] rfl rfl ?_
    refine maload 57 G6 at_55 rfl rfl rfl ?_
    refine mlload 59 G6 at_57 rfl rfl ?_
    refine ml2d 60 G6 at_59 rfl ?_
    refine mlload 62 G6 at_60 rfl rfl ?_
    refine ml2d 63 G6 at_62 rfl ?_
    refine mlload 65 G6 at_63 rfl rfl ?_
    refine ml2d 66 G6 at_65 rfl ?_
    refine st15.trans ?_
    show Steps p.tables e below (T15.setTop (mkF m 69 #[iv p0, iv p1, iv p2, iv p3, iv p4, iv p5, lv x1, .second, lv x2, .second, lv x3, .second, lv x4, .second, rv b5, .unset, .unset, .unset, .unset, .unset, .unset, .unset, .unset, .unset] [])) _
    refine miloadN 70 G15 at_69 rfl rfl ?_
    refine mi2l 71 G15 at_70 rfl ?_
    refine mlload 73 G15 at_71 rfl rfl ?_
    refine mlload 75 G15 at_73 rfl rfl ?_
    refine mlmul 76 G15 at_75 rfl rfl ?_
    refine mladd 77 G15 at_76 rfl rfl ?_
    refine castTop (g' := (mkF m 77 #[iv p0, iv p1, iv p2, iv p3, iv p4, iv p5, lv x1, .second, lv x2, .second, lv x3, .second, lv x4, .second, rv b5, .unset, .unset, .unset, .unset, .unset, .unset, .unset, .unset, .unset] [(.long x24)])) (by rw [hx24]) ?_
    refine mlstore 79 G15 at_77 #[iv p0, iv p1, iv p2, iv p3, iv p4, iv p5, lv x1, .second, lv x2, .second, lv x3, .second, lv x4, .second, rv b5, lv x24, .second, .unset, .unset, .unset, .unset, .unset, .unset, .unset] rfl rfl ?_
    refine miloadN 80 G15 at_79 rfl rfl ?_
    refine mi2l 81 G15 at_80 rfl ?_
    refine mlload 83 G15 at_81 rfl rfl ?_
    refine mlload 85 G15 at_83 rfl rfl ?_
    refine mlmul 86 G15 at_85 rfl rfl ?_
    refine mladd 87 G15 at_86 rfl rfl ?_
    refine castTop (g' := (mkF m 87 #[iv p0, iv p1, iv p2, iv p3, iv p4, iv p5, lv x1, .second, lv x2, .second, lv x3, .second, lv x4, .second, rv b5, lv x24, .second, .unset, .unset, .unset, .unset, .unset, .unset, .unset] [(.long x25)])) (by rw [hx25]) ?_
    refine mlstore 89 G15 at_87 #[iv p0, iv p1, iv p2, iv p3, iv p4, iv p5, lv x1, .second, lv x2, .second, lv x3, .second, lv x4, .second, rv b5, lv x24, .second, lv x25, .second, .unset, .unset, .unset, .unset, .unset] rfl rfl ?_
    refine maload 91 G15 at_89 rfl rfl rfl ?_
    refine st26.trans ?_
    show Steps p.tables e below (T26.setTop (mkF m 94 #[iv p0, iv p1, iv p2, iv p3, iv p4, iv p5, lv x1, .second, lv x2, .second, lv x3, .second, lv x4, .second, rv b5, lv x24, .second, lv x25, .second, .unset, .unset, .unset, .unset, .unset] [(.double (rv7 (FP.l2d x1)))])) _
    refine mlload 96 G26 at_94 rfl rfl ?_
    refine ml2d 97 G26 at_96 rfl ?_
    refine mdcmp 98 G26 at_97 rfl ?_
    refine mifNo 101 G26 at_98 ((if0 _ _).trans (teq (own_rm0_fc98 p0 p1 p2 p3 p4 p5 x1 hx1 x2 hx2 x3 hx3 x4 hx4 x24 hx24 x25 hx25)).2) rfl ?_
    refine maload 103 G26 at_101 rfl rfl rfl ?_
    refine st27.trans ?_
    show Steps p.tables e below (T27.setTop (mkF m 106 #[iv p0, iv p1, iv p2, iv p3, iv p4, iv p5, lv x1, .second, lv x2, .second, lv x3, .second, lv x4, .second, rv b5, lv x24, .second, lv x25, .second, .unset, .unset, .unset, .unset, .unset] [(.double (rv8 (FP.l2d x2)))])) _
    refine mlload 108 G27 at_106 rfl rfl ?_
    refine ml2d 109 G27 at_108 rfl ?_
    refine mdcmp 110 G27 at_109 rfl ?_
    refine mifNo 113 G27 at_110 ((if0 _ _).trans (teq (own_rm0_fc110 p0 p1 p2 p3 p4 p5 x1 hx1 x2 hx2 x3 hx3 x4 hx4 x24 hx24 x25 hx25)).2) rfl ?_
    refine maload 115 G27 at_113 rfl rfl rfl ?_
    refine st28.trans ?_
    show Steps p.tables e below (T28.setTop (mkF m 118 #[iv p0, iv p1, iv p2, iv p3, iv p4, iv p5, lv x1, .second, lv x2, .second, lv x3, .second, lv x4, .second, rv b5, lv x24, .second, lv x25, .second, .unset, .unset, .unset, .unset, .unset] [(.double (rv9 (FP.dadd (FP.i2d p0) (FP.dmul (FP.l2d x1) (FP.l2d x3)))))])) _
    refine mlload 120 G28 at_118 rfl rfl ?_
    refine ml2d 121 G28 at_120 rfl ?_
    refine mdcmp 122 G28 at_121 rfl ?_
    refine mifNo 125 G28 at_122 ((if0 _ _).trans (teq (own_rm0_fc122 p0 p1 p2 p3 p4 p5 x1 hx1 x2 hx2 x3 hx3 x4 hx4 x24 hx24 x25 hx25)).2) rfl ?_
    refine maload 127 G28 at_125 rfl rfl rfl ?_
    refine st29.trans ?_
    show Steps p.tables e below (T29.setTop (mkF m 130 #[iv p0, iv p1, iv p2, iv p3, iv p4, iv p5, lv x1, .second, lv x2, .second, lv x3, .second, lv x4, .second, rv b5, lv x24, .second, lv x25, .second, .unset, .unset, .unset, .unset, .unset] [(.double (rv10 (FP.dadd (FP.i2d p1) (FP.dmul (FP.l2d x2) (FP.l2d x3)))))])) _
    refine mlload 132 G29 at_130 rfl rfl ?_
    refine ml2d 133 G29 at_132 rfl ?_
    refine mdcmp 134 G29 at_133 rfl ?_
    refine mifNo 137 G29 at_134 ((if0 _ _).trans (teq (own_rm0_fc134 p0 p1 p2 p3 p4 p5 x1 hx1 x2 hx2 x3 hx3 x4 hx4 x24 hx24 x25 hx25)).2) rfl ?_
    refine miconst 138 G29 at_137 (v := (1 : Int32)) rfl rfl ?_
    refine mgoto 142 G29 at_138 (by decide) rfl ?_
    refine mistore 144 G29 at_142 #[iv p0, iv p1, iv p2, iv p3, iv p4, iv p5, lv x1, .second, lv x2, .second, lv x3, .second, lv x4, .second, rv b5, lv x24, .second, lv x25, .second, iv (1 : Int32), .unset, .unset, .unset, .unset] rfl rfl ?_
    refine maload 146 G29 at_144 rfl rfl rfl ?_
    refine mlload 148 G29 at_146 rfl rfl ?_
    refine ml2d 149 G29 at_148 rfl ?_
    refine mlload 151 G29 at_149 rfl rfl ?_
    refine ml2d 152 G29 at_151 rfl ?_
    refine mlload 154 G29 at_152 rfl rfl ?_
    refine ml2d 155 G29 at_154 rfl ?_
    refine st30.trans ?_
    show Steps p.tables e below (T30.setTop (mkF m 158 #[iv p0, iv p1, iv p2, iv p3, iv p4, iv p5, lv x1, .second, lv x2, .second, lv x3, .second, lv x4, .second, rv b5, lv x24, .second, lv x25, .second, iv (1 : Int32), .unset, .unset, .unset, .unset] [])) _
    refine mlload 160 G30 at_158 rfl rfl ?_
    refine mlload 162 G30 at_160 rfl rfl ?_
    refine mlload 164 G30 at_162 rfl rfl ?_
    refine mlmul 165 G30 at_164 rfl rfl ?_
    refine mladd 166 G30 at_165 rfl rfl ?_
    refine castTop (g' := (mkF m 166 #[iv p0, iv p1, iv p2, iv p3, iv p4, iv p5, lv x1, .second, lv x2, .second, lv x3, .second, lv x4, .second, rv b5, lv x24, .second, lv x25, .second, iv (1 : Int32), .unset, .unset, .unset, .unset] [(.long x37)])) (by rw [hx37]) ?_
    refine mlstore 168 G30 at_166 #[iv p0, iv p1, iv p2, iv p3, iv p4, iv p5, lv x1, .second, lv x2, .second, lv x3, .second, lv x4, .second, rv b5, lv x24, .second, lv x25, .second, iv (1 : Int32), lv x37, .second, .unset, .unset] rfl rfl ?_
    refine mlload 170 G30 at_168 rfl rfl ?_
    refine mlload 172 G30 at_170 rfl rfl ?_
    refine mlload 174 G30 at_172 rfl rfl ?_
    refine mlmul 175 G30 at_174 rfl rfl ?_
    refine mladd 176 G30 at_175 rfl rfl ?_
    refine castTop (g' := (mkF m 176 #[iv p0, iv p1, iv p2, iv p3, iv p4, iv p5, lv x1, .second, lv x2, .second, lv x3, .second, lv x4, .second, rv b5, lv x24, .second, lv x25, .second, iv (1 : Int32), lv x37, .second, .unset, .unset] [(.long x38)])) (by rw [hx38]) ?_
    refine mlstore 178 G30 at_176 #[iv p0, iv p1, iv p2, iv p3, iv p4, iv p5, lv x1, .second, lv x2, .second, lv x3, .second, lv x4, .second, rv b5, lv x24, .second, lv x25, .second, iv (1 : Int32), lv x37, .second, lv x38, .second] rfl rfl ?_
    refine miload 180 G30 at_178 rfl rfl ?_
    refine mifNo 183 G30 at_180 ((if0 _ _).trans (feq (by decide : ¬ ((1 : Int32) = (0 : Int32)))).1) rfl ?_
    refine maload 185 G30 at_183 rfl rfl rfl ?_
    refine st39.trans ?_
    show Steps p.tables e below (T39.setTop (mkF m 188 #[iv p0, iv p1, iv p2, iv p3, iv p4, iv p5, lv x1, .second, lv x2, .second, lv x3, .second, lv x4, .second, rv b5, lv x24, .second, lv x25, .second, iv (1 : Int32), lv x37, .second, lv x38, .second] [(.double (rv7 (FP.l2d x2)))])) _
    refine mlload 190 G39 at_188 rfl rfl ?_
    refine ml2d 191 G39 at_190 rfl ?_
    refine mdcmp 192 G39 at_191 rfl ?_
    refine mifNo 195 G39 at_192 ((if0 _ _).trans (teq (own_rm0_fc192 p0 p1 p2 p3 p4 p5 x1 hx1 x2 hx2 x3 hx3 x4 hx4 x24 hx24 x25 hx25 x37 hx37 x38 hx38)).2) rfl ?_
    refine maload 197 G39 at_195 rfl rfl rfl ?_
    refine st40.trans ?_
    show Steps p.tables e below (T40.setTop (mkF m 200 #[iv p0, iv p1, iv p2, iv p3, iv p4, iv p5, lv x1, .second, lv x2, .second, lv x3, .second, lv x4, .second, rv b5, lv x24, .second, lv x25, .second, iv (1 : Int32), lv x37, .second, lv x38, .second] [(.double (rv8 (FP.l2d x1)))])) _
    refine mlload 202 G40 at_200 rfl rfl ?_
    refine ml2d 203 G40 at_202 rfl ?_
    refine mdcmp 204 G40 at_203 rfl ?_
    refine mifNo 207 G40 at_204 ((if0 _ _).trans (teq (own_rm0_fc204 p0 p1 p2 p3 p4 p5 x1 hx1 x2 hx2 x3 hx3 x4 hx4 x24 hx24 x25 hx25 x37 hx37 x38 hx38)).2) rfl ?_
    refine maload 209 G40 at_207 rfl rfl rfl ?_
    refine st41.trans ?_
    show Steps p.tables e below (T41.setTop (mkF m 212 #[iv p0, iv p1, iv p2, iv p3, iv p4, iv p5, lv x1, .second, lv x2, .second, lv x3, .second, lv x4, .second, rv b5, lv x24, .second, lv x25, .second, iv (1 : Int32), lv x37, .second, lv x38, .second] [(.double (rv9 (FP.dadd (FP.dadd (FP.i2d p0) (FP.dmul (FP.l2d x1) (FP.l2d x3))) (FP.dmul (FP.l2d x2) (FP.l2d x4)))))])) _
    refine mlload 214 G41 at_212 rfl rfl ?_
    refine ml2d 215 G41 at_214 rfl ?_
    refine mdcmp 216 G41 at_215 rfl ?_
    refine mifNo 219 G41 at_216 ((if0 _ _).trans (teq (own_rm0_fc216 p0 p1 p2 p3 p4 p5 x1 hx1 x2 hx2 x3 hx3 x4 hx4 x24 hx24 x25 hx25 x37 hx37 x38 hx38)).2) rfl ?_
    refine maload 221 G41 at_219 rfl rfl rfl ?_
    refine st42.trans ?_
    show Steps p.tables e below (T42.setTop (mkF m 224 #[iv p0, iv p1, iv p2, iv p3, iv p4, iv p5, lv x1, .second, lv x2, .second, lv x3, .second, lv x4, .second, rv b5, lv x24, .second, lv x25, .second, iv (1 : Int32), lv x37, .second, lv x38, .second] [(.double (rv10 (FP.dadd (FP.dadd (FP.i2d p1) (FP.dmul (FP.l2d x2) (FP.l2d x3))) (FP.dmul (FP.l2d x1) (FP.l2d x4)))))])) _
    refine mlload 226 G42 at_224 rfl rfl ?_
    refine ml2d 227 G42 at_226 rfl ?_
    refine mdcmp 228 G42 at_227 rfl ?_
    refine mifNo 231 G42 at_228 ((if0 _ _).trans (teq (own_rm0_fc228 p0 p1 p2 p3 p4 p5 x1 hx1 x2 hx2 x3 hx3 x4 hx4 x24 hx24 x25 hx25 x37 hx37 x38 hx38)).2) rfl ?_
    refine miconst 232 G42 at_231 (v := (1 : Int32)) rfl rfl ?_
    refine mgoto 236 G42 at_232 (by decide) rfl ?_
    refine mistore 238 G42 at_236 #[iv p0, iv p1, iv p2, iv p3, iv p4, iv p5, lv x1, .second, lv x2, .second, lv x3, .second, lv x4, .second, rv b5, lv x24, .second, lv x25, .second, iv (1 : Int32), lv x37, .second, lv x38, .second] rfl rfl ?_
    refine miload 240 G42 at_238 rfl rfl ?_
    exact retN X42 hx (t := .boolean) Bd.returns (by simp) (hb hby at_240) hr
  · show Q0 Z p0 p1 p2 p3 p4 p5 h0 n0 _ T42.heap _
    rw [e42]
    exact ⟨rfl, N30⟩
set_option maxRecDepth 65536 in
set_option maxHeartbeats 40000000 in
theorem comes_1 {Post : Tables → Env → Array Value → State → Outcome → State → Prop} (hpost : ∀ tb e args s v u, (limb_1_1.after args s (.returned v) u = true ∧ limb_1_2.after args s (.returned v) u = true ∧ True) → FrameEnd s (.returned v) u (Jvm.fieldLocs frame_1_writes args s ++ Jvm.arrayLocs frame_1_arrays args s ++ Jvm.staticLocs frame_1_statics s) 16 128 → Post tb e args s (.returned v) u) :
    ArmFor flags0 classFile x code maxLocals ret World_1 tables_1 room_1 Calls_1 rest_1 Pre_1 Post := by
  intro l hfl _ _ p e ha hc hk s m args below hf hA hF happ hP
  obtain ⟨hcalls, hrest, hpre⟩ := hP
  obtain ⟨-, -, -, hnamed, -, -, -, hat⟩ := (Spec.applies_iff hf).mp happ
  obtain ⟨hg, hn⟩ := and_e (Cond.before_iff.mp (show (Jvm.Cond.and given_1 narrow_1).before args s = true from hpre))
  obtain ⟨g1, g2⟩ := and_e hg
  obtain ⟨g3, g4⟩ := and_e g2
  obtain ⟨g5, g6⟩ := and_e g4
  obtain ⟨g7, g8⟩ := and_e g6
  obtain ⟨g9, g10⟩ := and_e g8
  obtain ⟨g11, g12⟩ := and_e g10
  obtain ⟨w0, w1, w2, w3, w4, w5, rfl⟩ : ∃ w0 w1 w2 w3 w4 w5 : Value, args = #[w0, w1, w2, w3, w4, w5] := by
    have hs : args.size = 6 := by simpa [Cond.value, given_1] using g1
    obtain ⟨L⟩ := args
    match L, hs with
    | [w0, w1, w2, w3, w4, w5], _ => exact ⟨w0, w1, w2, w3, w4, w5, rfl⟩
  have hw := fun d (hd : d ∈ tables_1) => atoms_spec (ws := Jvm.Cond.code x code maxLocals ret :: tables_1) hat d (List.mem_cons_of_mem _ hd)
  have hfit : Fit s := fun {y c} hc i hi => by
    obtain ⟨ha, rfl⟩ := Array.getElem?_eq_some_iff.mp hc
    have q := List.all_eq_true.mp ((Array.all_eq_true_iff_forall_mem.mp hF) _ (Array.getElem_mem ha)) i (List.mem_range.mpr hi)
    simpa [Array.getElem?_eq_getElem hi] using q
  obtain ⟨i0, ei0⟩ := is_v g3
  obtain rfl : w0 = (.int i0) := Option.some.inj ei0
  obtain ⟨i1, ei1⟩ := is_v g5
  obtain rfl : w1 = (.int i1) := Option.some.inj ei1
  obtain ⟨i2, ei2⟩ := is_v g7
  obtain rfl : w2 = (.int i2) := Option.some.inj ei2
  obtain ⟨i3, ei3⟩ := is_v g9
  obtain rfl : w3 = (.int i3) := Option.some.inj ei3
  obtain ⟨i4, ei4⟩ := is_v g11
  obtain rfl : w4 = (.int i4) := Option.some.inj ei4
  obtain ⟨i5, ei5⟩ := is_v g12
  obtain rfl : w5 = (.int i5) := Option.some.inj ei5
  obtain ⟨n, o, h1, h2, h3, _, L, rfl, ⟨rfl, N⟩, hq⟩ := rm0 l s _ hw tables_1 i0 i1 i2 i3 i4 i5 s.heap s.heap.size (Nat.le_refl _)  p e ha hc hk s m _ below hf ((Spec.applies_iff_loose hf).mp happ).1 ⟨rfl, State.Warmed39.refl s, rfl⟩ trivial
  refine ⟨n, _, h1, h2, h3, hpost _ _ _ _ _ _ ⟨Cond.after_iff.mpr rfl, Cond.after_iff.mpr (eq_i res_at (Term.int_eval (1)) rfl), trivial⟩ ⟨hq.1, hq.2.1, (hq.2.2.sift fun y hy => Or.inr (N y hy)).mono (by decide) (by decide)⟩⟩
theorem main_1_1 : Claimed_1_1 := comes_1 fun _ _ _ _ _ _ h hF => ⟨h.1, hF⟩
theorem main_1_2 : Claimed_1_2 := comes_1 fun _ _ _ _ _ _ h hF => ⟨h.2.1, hF⟩
end Jvm.Pilot.@@N@@
namespace Jvm.Pilot.@@N@@
open Jvm Jvm.ClassFile Sem Op Lib Jvm.Free Jvm.Stand Jvm.Pilot.@@N@@.Jvm.D
/-! MADE BY PROGRAM (witnessworld.py) out of the Statement's table words and the real class files: 15 classes; the members and pool entries that the words name. The judged class is class 1, her method 1. -/
namespace start1
open Jvm.ClassFile
def u (s : String) : CpInfo := .utf8 (stringToUtf16 s)
/-- a pool by its gaps: so many unusable entries, then the entry; so many at the end -/
def gap : Nat → List CpInfo → List CpInfo
  | 0, r => r
  | n + 1, r => .unusable :: gap n r
def poolList (es : List (Nat × CpInfo)) (last : Nat) : List CpInfo := es.foldr (fun e r => gap e.1 (e.2 :: r)) (gap last [])
def pool (es : List (Nat × CpInfo)) (last : Nat) : Array CpInfo := ⟨poolList es last⟩
def fileOf (pool : Array CpInfo) (this : Nat) (attrs : Array Attribute := #[]) (ms : Array MethodInfo := #[]) (fl : Nat := 33) (sup : Nat := 0) (ifs : Array Nat := #[]) (fds : Array FieldInfo := #[]) : ClassFile where
  minorVersion := 0
  majorVersion := 65
  constantPool := pool
  accessFlags := fl
  thisClass := this
  superClass := sup
  interfaces := ifs
  fields := fds
  methods := ms
  attributes := attrs
def plain (name : String) (sup : Option ClassId) : Class where
  name := name
  kind := .ordinary
  loader := none
  accessFlags := 33
  super := sup
  interfaces := #[]
  cf := none
  fields := #[]
  methods := #[]
  instanceTypes := #[]
  staticTypes := #[]
  resolved := #[]
  callSites := []
  init := .initialized
  statics := none
  mirror := none

def pool0 : Array CpInfo := pool [(5, u "<init>"), (0, u "()V"), (1, .class_ 10), (1, u "java/lang/Object")] 113

def k0c0 : Code := { maxStack := 0, maxLocals := 1, code := object_method_1_code, exceptionTable := #[], attributes := #[] }
def k0m0 : Method := { name := "<init>", desc := "()V", sig := { parameters := [], returnType := none }, accessFlags := 1, code := some k0c0 }
/-- java/lang/Object -/
def k0 : Class := { plain "java/lang/Object" none with
  accessFlags := 33
  interfaces := #[]
  cf := some (fileOf pool0 8 #[] #[{ accessFlags := 1, nameIndex := 5, descriptorIndex := 6, attributes := #[] }] 33 0 #[] #[])
  fields := #[]
  methods := #[k0m0]
  instanceTypes := #[]
  staticTypes := #[]
  resolved := Array.replicate 124 none
  statics := none }

def pool1 : Array CpInfo := pool [(2, .class_ 4), (1, u "java/lang/Object"), (0, u "<init>"), (0, u "()V"), (0, .integer 16777215), (0, .class_ 9), (0, u "com/example/crowded_platform/crowdedplatform/movement/Body"), (0, .double 4602678819172646912), (1, .double 4609434218613702656), (1, .methodref 8 15), (0, .nameAndType 5 16), (0, u "(DDDD)V"), (0, .methodref 8 18), (0, .nameAndType 19 20), (0, u "move"), (0, u "(DDD)V"), (0, .methodref 8 22), (0, .nameAndType 23 24), (0, u "vx"), (0, u "()D"), (0, .methodref 8 26), (0, .nameAndType 27 24), (0, u "vy"), (0, .methodref 8 29), (0, .nameAndType 30 24), (0, u "x"), (0, .methodref 8 32), (0, .nameAndType 33 24), (0, u "y"), (0, .class_ 35), (0, u "com/example/crowded_platform/crowdedplatform/movement/BodyMovePinLaw"), (2, u "law"), (0, u "(IIIIII)Z")] 3

def k1m0 : Method := { name := "<init>", desc := "()V", sig := { parameters := [], returnType := none }, accessFlags := 1, code := none }
def k1c1 : Code := { maxStack := 10, maxLocals := 24, code := code, exceptionTable := #[], attributes := #[] }
def k1m1 : Method := { name := "law", desc := "(IIIIII)Z", sig := { parameters := [.int, .int, .int, .int, .int, .int], returnType := some .boolean }, accessFlags := 9, code := some k1c1 }
/-- com/example/crowded_platform/crowdedplatform/movement/BodyMovePinLaw -/
def k1 : Class := { plain "com/example/crowded_platform/crowdedplatform/movement/BodyMovePinLaw" (some 0) with
  accessFlags := 49
  interfaces := #[]
  cf := some (fileOf pool1 34 #[] #[{ accessFlags := 1, nameIndex := 5, descriptorIndex := 6, attributes := #[] }, { accessFlags := 9, nameIndex := 38, descriptorIndex := 39, attributes := #[] }] 49 2 #[] #[])
  fields := #[]
  methods := #[k1m0, k1m1]
  instanceTypes := #[]
  staticTypes := #[]
  resolved := Array.replicate 43 none
  statics := none }

def pool2 : Array CpInfo := pool [(1, .methodref 2 3), (0, .class_ 4), (0, .nameAndType 5 6), (0, u "java/lang/Object"), (0, u "<init>"), (0, u "()V"), (0, .methodref 8 9), (0, .class_ 10), (0, .nameAndType 11 12), (0, u "java/lang/Double"), (0, u "isFinite"), (0, u "(D)Z"), (9, .methodref 8 23), (0, .nameAndType 24 12), (0, u "isInfinite"), (4, .fieldref 30 31), (0, .class_ 32), (0, .nameAndType 33 34), (0, u "com/example/crowded_platform/crowdedplatform/movement/Body"), (0, u "x"), (0, u "D"), (0, .fieldref 30 36), (0, .nameAndType 37 34), (0, u "y"), (0, .fieldref 30 39), (0, .nameAndType 40 34), (0, u "radius"), (0, .fieldref 30 42), (0, .nameAndType 43 34), (0, u "desiredSpeed"), (0, .fieldref 30 45), (0, .nameAndType 46 34), (0, u "vx"), (0, .fieldref 30 48), (0, .nameAndType 49 34), (0, u "vy"), (2, u "headingX"), (2, u "headingY"), (11, u "held"), (0, u "Z"), (2, u "barredX"), (2, u "barredY"), (6, u "(DDDD)V"), (3, u "()D"), (7, u "move"), (0, u "(DDD)V")] 25

def k2c0 : Code := { maxStack := 6, maxLocals := 9, code := prog_14_method_1_code, exceptionTable := #[], attributes := #[] }
def k2m0 : Method := { name := "<init>", desc := "(DDDD)V", sig := { parameters := [.double, .double, .double, .double], returnType := none }, accessFlags := 1, code := some k2c0 }
def k2c1 : Code := { maxStack := 2, maxLocals := 1, code := prog_14_method_2_code, exceptionTable := #[], attributes := #[] }
def k2m1 : Method := { name := "x", desc := "()D", sig := { parameters := [], returnType := some .double }, accessFlags := 1, code := some k2c1 }
def k2c2 : Code := { maxStack := 2, maxLocals := 1, code := prog_14_method_3_code, exceptionTable := #[], attributes := #[] }
def k2m2 : Method := { name := "y", desc := "()D", sig := { parameters := [], returnType := some .double }, accessFlags := 1, code := some k2c2 }
def k2c3 : Code := { maxStack := 2, maxLocals := 1, code := prog_14_method_4_code, exceptionTable := #[], attributes := #[] }
def k2m3 : Method := { name := "vx", desc := "()D", sig := { parameters := [], returnType := some .double }, accessFlags := 1, code := some k2c3 }
def k2c4 : Code := { maxStack := 2, maxLocals := 1, code := prog_14_method_5_code, exceptionTable := #[], attributes := #[] }
def k2m4 : Method := { name := "vy", desc := "()D", sig := { parameters := [], returnType := some .double }, accessFlags := 1, code := some k2c4 }
def k2c5 : Code := { maxStack := 7, maxLocals := 7, code := prog_14_method_16_code, exceptionTable := #[], attributes := #[] }
def k2m5 : Method := { name := "move", desc := "(DDD)V", sig := { parameters := [.double, .double, .double], returnType := none }, accessFlags := 0, code := some k2c5 }
/-- com/example/crowded_platform/crowdedplatform/movement/Body -/
def k2 : Class := { plain "com/example/crowded_platform/crowdedplatform/movement/Body" (some 0) with
  accessFlags := 49
  interfaces := #[]
  cf := some (fileOf pool2 30 #[] #[{ accessFlags := 1, nameIndex := 5, descriptorIndex := 81, attributes := #[] }, { accessFlags := 1, nameIndex := 33, descriptorIndex := 85, attributes := #[] }, { accessFlags := 1, nameIndex := 37, descriptorIndex := 85, attributes := #[] }, { accessFlags := 1, nameIndex := 46, descriptorIndex := 85, attributes := #[] }, { accessFlags := 1, nameIndex := 49, descriptorIndex := 85, attributes := #[] }, { accessFlags := 0, nameIndex := 93, descriptorIndex := 94, attributes := #[] }] 49 2 #[] #[{ accessFlags := 18, nameIndex := 40, descriptorIndex := 34, attributes := #[] }, { accessFlags := 18, nameIndex := 43, descriptorIndex := 34, attributes := #[] }, { accessFlags := 2, nameIndex := 33, descriptorIndex := 34, attributes := #[] }, { accessFlags := 2, nameIndex := 37, descriptorIndex := 34, attributes := #[] }, { accessFlags := 2, nameIndex := 46, descriptorIndex := 34, attributes := #[] }, { accessFlags := 2, nameIndex := 49, descriptorIndex := 34, attributes := #[] }, { accessFlags := 2, nameIndex := 52, descriptorIndex := 34, attributes := #[] }, { accessFlags := 2, nameIndex := 55, descriptorIndex := 34, attributes := #[] }, { accessFlags := 2, nameIndex := 67, descriptorIndex := 68, attributes := #[] }, { accessFlags := 2, nameIndex := 71, descriptorIndex := 34, attributes := #[] }, { accessFlags := 2, nameIndex := 74, descriptorIndex := 34, attributes := #[] }])
  fields := #[{ name := "radius", type := .double, accessFlags := 18, slot := 0, constantValue := 0 }, { name := "desiredSpeed", type := .double, accessFlags := 18, slot := 1, constantValue := 0 }, { name := "x", type := .double, accessFlags := 2, slot := 2, constantValue := 0 }, { name := "y", type := .double, accessFlags := 2, slot := 3, constantValue := 0 }, { name := "vx", type := .double, accessFlags := 2, slot := 4, constantValue := 0 }, { name := "vy", type := .double, accessFlags := 2, slot := 5, constantValue := 0 }, { name := "headingX", type := .double, accessFlags := 2, slot := 6, constantValue := 0 }, { name := "headingY", type := .double, accessFlags := 2, slot := 7, constantValue := 0 }, { name := "held", type := .boolean, accessFlags := 2, slot := 8, constantValue := 0 }, { name := "barredX", type := .double, accessFlags := 2, slot := 9, constantValue := 0 }, { name := "barredY", type := .double, accessFlags := 2, slot := 10, constantValue := 0 }]
  methods := #[k2m0, k2m1, k2m2, k2m3, k2m4, k2m5]
  instanceTypes := #[.double, .double, .double, .double, .double, .double, .double, .double, .boolean, .double, .double]
  staticTypes := #[]
  resolved := Array.replicate 120 none
  statics := none }

def pool3 : Array CpInfo := pool [(1, .class_ 2), (0, u "java/io/Serializable"), (0, .class_ 4), (0, u "java/lang/Object")] 2

/-- java/io/Serializable -/
def k3 : Class := { plain "java/io/Serializable" (some 0) with
  accessFlags := 1537
  interfaces := #[]
  cf := some (fileOf pool3 1 #[] #[] 1537 3 #[] #[])
  fields := #[]
  methods := #[]
  instanceTypes := #[]
  staticTypes := #[]
  resolved := Array.replicate 7 none
  statics := none }

def pool4 : Array CpInfo := pool [(2, .class_ 4), (1, u "java/lang/Object"), (0, u "<init>"), (0, u "()V"), (1, .class_ 10), (1, u "java/lang/Number"), (2, .class_ 14), (0, u "java/io/Serializable"), (0, u "serialVersionUID"), (0, u "J")] 20

def k4m0 : Method := { name := "<init>", desc := "()V", sig := { parameters := [], returnType := none }, accessFlags := 1, code := none }
/-- java/lang/Number -/
def k4 : Class := { plain "java/lang/Number" (some 0) with
  accessFlags := 1057
  interfaces := #[3]
  cf := some (fileOf pool4 8 #[] #[{ accessFlags := 1, nameIndex := 5, descriptorIndex := 6, attributes := #[] }] 1057 2 #[13] #[{ accessFlags := 26, nameIndex := 15, descriptorIndex := 16, attributes := #[] }])
  fields := #[{ name := "serialVersionUID", type := .long, accessFlags := 26, slot := 0, constantValue := 0 }]
  methods := #[k4m0]
  instanceTypes := #[]
  staticTypes := #[.long]
  resolved := Array.replicate 37 none
  statics := none }

def pool5 : Array CpInfo := pool [(1, .class_ 2), (0, u "java/lang/Comparable"), (0, .class_ 4), (0, u "java/lang/Object")] 7

/-- java/lang/Comparable -/
def k5 : Class := { plain "java/lang/Comparable" (some 0) with
  accessFlags := 1537
  interfaces := #[]
  cf := some (fileOf pool5 1 #[] #[] 1537 3 #[] #[])
  fields := #[]
  methods := #[]
  instanceTypes := #[]
  staticTypes := #[]
  resolved := Array.replicate 12 none
  statics := none }

def pool6 : Array CpInfo := pool [(1, .class_ 2), (0, u "java/lang/constant/Constable"), (0, .class_ 4), (0, u "java/lang/Object")] 6

/-- java/lang/constant/Constable -/
def k6 : Class := { plain "java/lang/constant/Constable" (some 0) with
  accessFlags := 1537
  interfaces := #[]
  cf := some (fileOf pool6 1 #[] #[] 1537 3 #[] #[])
  fields := #[]
  methods := #[]
  instanceTypes := #[]
  staticTypes := #[]
  resolved := Array.replicate 11 none
  statics := none }

def pool7 : Array CpInfo := pool [(1, .class_ 2), (0, u "java/lang/constant/ConstantDesc"), (0, .class_ 4), (0, u "java/lang/Object")] 32

/-- java/lang/constant/ConstantDesc -/
def k7 : Class := { plain "java/lang/constant/ConstantDesc" (some 0) with
  accessFlags := 1537
  interfaces := #[]
  cf := some (fileOf pool7 1 #[] #[] 1537 3 #[] #[])
  fields := #[]
  methods := #[]
  instanceTypes := #[]
  staticTypes := #[]
  resolved := Array.replicate 37 none
  statics := none }

def pool8 : Array CpInfo := pool [(1, .class_ 2), (0, u "java/lang/Double"), (10, u "isFinite"), (0, u "(D)Z"), (8, .class_ 25), (1, u "java/lang/Math"), (12, .methodref 23 39), (0, .nameAndType 40 41), (0, u "abs"), (0, u "(D)D"), (69, .double 9218868437227405311), (2, .class_ 116), (1, u "java/lang/Number"), (3, u "value"), (0, u "D"), (5, u "isInfinite"), (45, u "TYPE"), (0, u "Ljava/lang/Class;"), (0, .class_ 176), (0, u "java/lang/Comparable"), (0, .class_ 178), (0, u "java/lang/constant/Constable"), (0, .class_ 180), (0, u "java/lang/constant/ConstantDesc"), (0, u "POSITIVE_INFINITY"), (3, u "NEGATIVE_INFINITY"), (2, u "NaN"), (2, u "MAX_VALUE"), (0, u "MIN_NORMAL"), (0, u "MIN_VALUE"), (2, u "SIZE"), (0, u "I"), (1, u "PRECISION"), (1, u "MAX_EXPONENT"), (1, u "MIN_EXPONENT"), (1, u "BYTES"), (3, u "serialVersionUID"), (0, u "J")] 79

def k8c0 : Code := { maxStack := 4, maxLocals := 2, code := jdk_117_method_7_code, exceptionTable := #[], attributes := #[] }
def k8m0 : Method := { name := "isInfinite", desc := "(D)Z", sig := { parameters := [.double], returnType := some .boolean }, accessFlags := 9, code := some k8c0 }
def k8c1 : Code := { maxStack := 4, maxLocals := 2, code := jdk_117_method_8_code, exceptionTable := #[], attributes := #[] }
def k8m1 : Method := { name := "isFinite", desc := "(D)Z", sig := { parameters := [.double], returnType := some .boolean }, accessFlags := 9, code := some k8c1 }
/-- java/lang/Double -/
def k8 : Class := { plain "java/lang/Double" (some 4) with
  accessFlags := 49
  interfaces := #[5, 6, 7]
  cf := some (fileOf pool8 1 #[] #[{ accessFlags := 9, nameIndex := 127, descriptorIndex := 14, attributes := #[] }, { accessFlags := 9, nameIndex := 13, descriptorIndex := 14, attributes := #[] }] 49 114 #[175, 177, 179] #[{ accessFlags := 25, nameIndex := 181, descriptorIndex := 121, attributes := #[] }, { accessFlags := 25, nameIndex := 185, descriptorIndex := 121, attributes := #[] }, { accessFlags := 25, nameIndex := 188, descriptorIndex := 121, attributes := #[] }, { accessFlags := 25, nameIndex := 191, descriptorIndex := 121, attributes := #[] }, { accessFlags := 25, nameIndex := 192, descriptorIndex := 121, attributes := #[] }, { accessFlags := 25, nameIndex := 193, descriptorIndex := 121, attributes := #[] }, { accessFlags := 25, nameIndex := 196, descriptorIndex := 197, attributes := #[] }, { accessFlags := 25, nameIndex := 199, descriptorIndex := 197, attributes := #[] }, { accessFlags := 25, nameIndex := 201, descriptorIndex := 197, attributes := #[] }, { accessFlags := 25, nameIndex := 203, descriptorIndex := 197, attributes := #[] }, { accessFlags := 25, nameIndex := 205, descriptorIndex := 197, attributes := #[] }, { accessFlags := 25, nameIndex := 173, descriptorIndex := 174, attributes := #[] }, { accessFlags := 18, nameIndex := 120, descriptorIndex := 121, attributes := #[] }, { accessFlags := 26, nameIndex := 209, descriptorIndex := 210, attributes := #[] }])
  fields := #[{ name := "POSITIVE_INFINITY", type := .double, accessFlags := 25, slot := 0, constantValue := 0 }, { name := "NEGATIVE_INFINITY", type := .double, accessFlags := 25, slot := 1, constantValue := 0 }, { name := "NaN", type := .double, accessFlags := 25, slot := 2, constantValue := 0 }, { name := "MAX_VALUE", type := .double, accessFlags := 25, slot := 3, constantValue := 0 }, { name := "MIN_NORMAL", type := .double, accessFlags := 25, slot := 4, constantValue := 0 }, { name := "MIN_VALUE", type := .double, accessFlags := 25, slot := 5, constantValue := 0 }, { name := "SIZE", type := .int, accessFlags := 25, slot := 6, constantValue := 0 }, { name := "PRECISION", type := .int, accessFlags := 25, slot := 7, constantValue := 0 }, { name := "MAX_EXPONENT", type := .int, accessFlags := 25, slot := 8, constantValue := 0 }, { name := "MIN_EXPONENT", type := .int, accessFlags := 25, slot := 9, constantValue := 0 }, { name := "BYTES", type := .int, accessFlags := 25, slot := 10, constantValue := 0 }, { name := "TYPE", type := (.object "java/lang/Class"), accessFlags := 25, slot := 11, constantValue := 0 }, { name := "value", type := .double, accessFlags := 18, slot := 0, constantValue := 0 }, { name := "serialVersionUID", type := .long, accessFlags := 26, slot := 12, constantValue := 0 }]
  methods := #[k8m0, k8m1]
  instanceTypes := #[.double]
  staticTypes := #[.double, .double, .double, .double, .double, .double, .int, .int, .int, .int, .int, (.object "java/lang/Class"), .long]
  resolved := Array.replicate 290 none
  statics := none }

def pool9 : Array CpInfo := pool [(1, .class_ 2), (0, u "java/lang/Math"), (1, .class_ 6), (1, u "java/lang/Object"), (0, u "<init>"), (0, u "()V"), (5, u "(D)D"), (83, .class_ 100), (1, u "java/lang/Math$RandomNumberGeneratorHolder"), (23, u "abs"), (47, u "negativeZeroFloatBits"), (0, u "J"), (2, u "negativeZeroDoubleBits"), (68, u "$assertionsDisabled"), (0, u "Z"), (91, u "twoToTheDoubleScaleDown"), (0, u "D"), (4, u "twoToTheDoubleScaleUp"), (9, u "E"), (3, u "PI"), (2, u "TAU"), (2, u "DEGREES_TO_RADIANS"), (0, u "RADIANS_TO_DEGREES")] 94

def k9m0 : Method := { name := "<init>", desc := "()V", sig := { parameters := [], returnType := none }, accessFlags := 2, code := none }
def k9c1 : Code := { maxStack := 4, maxLocals := 2, code := jdk_29_method_64_code, exceptionTable := #[], attributes := #[] }
def k9m1 : Method := { name := "abs", desc := "(D)D", sig := { parameters := [.double], returnType := some .double }, accessFlags := 9, code := some k9c1 }
/-- java/lang/Math -/
def k9 : Class := { plain "java/lang/Math" (some 0) with
  accessFlags := 49
  interfaces := #[]
  cf := some (fileOf pool9 1 #[.nestMembers #[98]] #[{ accessFlags := 2, nameIndex := 7, descriptorIndex := 8, attributes := #[] }, { accessFlags := 9, nameIndex := 124, descriptorIndex := 14, attributes := #[] }] 49 4 #[] #[{ accessFlags := 25, nameIndex := 354, descriptorIndex := 339, attributes := #[] }, { accessFlags := 25, nameIndex := 358, descriptorIndex := 339, attributes := #[] }, { accessFlags := 25, nameIndex := 361, descriptorIndex := 339, attributes := #[] }, { accessFlags := 26, nameIndex := 364, descriptorIndex := 339, attributes := #[] }, { accessFlags := 26, nameIndex := 365, descriptorIndex := 339, attributes := #[] }, { accessFlags := 26, nameIndex := 172, descriptorIndex := 173, attributes := #[] }, { accessFlags := 26, nameIndex := 176, descriptorIndex := 173, attributes := #[] }, { accessFlags := 8, nameIndex := 344, descriptorIndex := 339, attributes := #[] }, { accessFlags := 8, nameIndex := 338, descriptorIndex := 339, attributes := #[] }, { accessFlags := 4120, nameIndex := 245, descriptorIndex := 246, attributes := #[] }])
  fields := #[{ name := "E", type := .double, accessFlags := 25, slot := 0, constantValue := 0 }, { name := "PI", type := .double, accessFlags := 25, slot := 1, constantValue := 0 }, { name := "TAU", type := .double, accessFlags := 25, slot := 2, constantValue := 0 }, { name := "DEGREES_TO_RADIANS", type := .double, accessFlags := 26, slot := 3, constantValue := 0 }, { name := "RADIANS_TO_DEGREES", type := .double, accessFlags := 26, slot := 4, constantValue := 0 }, { name := "negativeZeroFloatBits", type := .long, accessFlags := 26, slot := 5, constantValue := 0 }, { name := "negativeZeroDoubleBits", type := .long, accessFlags := 26, slot := 6, constantValue := 0 }, { name := "twoToTheDoubleScaleUp", type := .double, accessFlags := 8, slot := 7, constantValue := 0 }, { name := "twoToTheDoubleScaleDown", type := .double, accessFlags := 8, slot := 8, constantValue := 0 }, { name := "$assertionsDisabled", type := .boolean, accessFlags := 4120, slot := 9, constantValue := 0 }]
  methods := #[k9m0, k9m1]
  instanceTypes := #[]
  staticTypes := #[.double, .double, .double, .double, .double, .long, .long, .double, .double, .boolean]
  resolved := Array.replicate 460 none
  statics := none }

def pool10 : Array CpInfo := pool [(1, u "java/lang/Cloneable"), (0, .class_ 1), (0, u "java/lang/Object"), (0, .class_ 3)] 3

/-- java/lang/Cloneable -/
def k10 : Class := { plain "java/lang/Cloneable" (some 0) with
  accessFlags := 1537
  interfaces := #[]
  cf := some (fileOf pool10 2 #[] #[] 1537 4 #[] #[])
  fields := #[]
  methods := #[]
  instanceTypes := #[]
  staticTypes := #[]
  resolved := Array.replicate 8 none
  statics := none }

/-- the primitive byte -/
def k11 : Class := { plain "byte" none with kind := .primitive 'B', accessFlags := 0x411 }
/-- [B -/
def k12 : Class := { plain "[B" (some 0) with kind := .array 11 .byte, interfaces := #[10, 3], accessFlags := 1041 }

/-- the primitive int -/
def k13 : Class := { plain "int" none with kind := .primitive 'I', accessFlags := 0x411 }
/-- [I -/
def k14 : Class := { plain "[I" (some 0) with kind := .array 13 .int, interfaces := #[10, 3], accessFlags := 1041 }

def heap : Heap := #[]
def classes : Array Class := #[k0, k1, k2, k3, k4, k5, k6, k7, k8, k9, k10, k11, k12, k13, k14]
def interned : List (Array UInt16 × Addr) := []
def slotsUsed : Nat := 0
def theMethod : MethodId := ⟨1, 1⟩
def args0 : Array Value := #[.int 5, .int 5, .int 5, .int 5, .int 5, .int 5]
def aboutOver (below : List Frame) : State where
  vm := { classes := classes, interned := interned.toArray }
  heap := heap
  slotsUsed := slotsUsed
  threads := #[{ frames := .invoking theMethod args0 :: below }]
def below0 : List Frame := [.native { method := ⟨0, 0⟩, args := #[] }]
def about1 : State := aboutOver below0
def p0 : Program := .bare "" "" ""
def e0 : Env := launch0.env 0 0 0
theorem w_frames : about1.frames = Frame.invoking theMethod args0 :: below0 := rfl
set_option maxRecDepth 65536 in
theorem w_args : argsFit about1.vm theMethod args0 = true := by decide +kernel
set_option maxRecDepth 65536 in
theorem w_heap : heapFits about1 = true := by decide +kernel
set_option maxRecDepth 65536 in
theorem w_runnable : about1.curStatus? = some .runnable := by decide +kernel
set_option maxRecDepth 65536 in
theorem w_alone : about1.alone = true := by decide +kernel
set_option maxRecDepth 65536 in
theorem w_named : about1.methodNamed? x = some theMethod := by decide +kernel
set_option maxRecDepth 65536 in
theorem w_hears : about1.hears theMethod below0 = true := by decide +kernel
set_option maxRecDepth 65536 in
theorem w_ripe : about1.ripe theMethod args0 below0 = true := by decide +kernel
theorem w_running : about1.status = .running := rfl
set_option maxRecDepth 65536 in
theorem w_room : about1.hasRoom e0.platform room_1 = true :=
  launch0.hasRoom_least _ room_1 (by decide +kernel) (by decide +kernel) (by decide +kernel) (by decide +kernel) (by decide +kernel) (by decide +kernel)
theorem allAtoms_all (ts : List Jvm.Cond) (a : Array Jvm.Value) (st : Jvm.State) : (allAtoms ts).before a st = ts.all (fun c => c.before a st) := by
  induction ts with
  | nil => rfl
  | cons c t ih =>
    show (Jvm.Cond.and c (allAtoms t)).before a st = _
    rw [Jvm.Cond.before_and, ih, List.all_cons]
def words1 : List Jvm.Cond := Jvm.Cond.code x code maxLocals ret :: tables_1
/-- a 'code' word, met by the world's own term for the bytes: nothing is compared byte by byte -/
theorem code_word {y : MethodName} {bytes : ByteArray} {mx : Nat} {rt : Option FieldType} {a : Array Value} {s : State} {m : MethodId} {meth : Method} {c : Code} (h1 : s.methodNamed? y = some m) (h2 : s.vm.method? m = some meth) (h3 : meth.code = some c) (h4 : c.code = bytes)
    (h5 : (c.maxLocals == mx && c.exceptionTable.isEmpty && decide (c.maxStack ≤ mostOperands) && decide (meth.sig.returnType = rt) && !meth.locks && decide (parseMethodDescriptor y.desc = some meth.sig)) = true) : (Jvm.Cond.code y bytes mx rt).before a s = true := by
  simp only [Bool.and_eq_true, beq_iff_eq, Bool.not_eq_true', decide_eq_true_eq] at h5
  obtain ⟨⟨⟨⟨⟨g1, g2⟩, g3⟩, g4⟩, g5⟩, g6⟩ := h5
  simp [Cond.before, Cond.holds, Cond.value, h1, h2, h3, h4, g1, g2, g3, g4, g5, g6]
def isCode : Jvm.Cond → Bool
  | .code _ _ _ _ => true
  | _ => false
theorem all_split {L : List Jvm.Cond} {P : Jvm.Cond → Bool} (h1 : L.all (fun c => isCode c || P c) = true) (h2 : ∀ c ∈ L.filter isCode, P c = true) : L.all P = true := by
  refine List.all_eq_true.mpr fun c hc => ?_
  have h := List.all_eq_true.mp h1 c hc
  rcases Bool.eq_false_or_eq_true (isCode c) with hi | hi
  · exact h2 c (List.mem_filter.mpr ⟨hc, hi⟩)
  · simpa [hi] using h
set_option maxRecDepth 65536 in
theorem w_c0 : (Jvm.Cond.code x code maxLocals ret).before args0 about1 = true := code_word (m := ⟨1, 1⟩) (meth := k1m1) (c := k1c1) (by decide +kernel) rfl rfl rfl (by decide +kernel)
set_option maxRecDepth 65536 in
theorem w_c1 : (Jvm.Cond.code ({ cls := "com/example/crowded_platform/crowdedplatform/movement/Body", name := "<init>", desc := "(DDDD)V" } : Jvm.MethodName) prog_14_method_1_code (9 : Nat) (Option.none : Option Jvm.ClassFile.FieldType)).before args0 about1 = true := code_word (m := ⟨2, 0⟩) (meth := k2m0) (c := k2c0) (by decide +kernel) rfl rfl rfl (by decide +kernel)
set_option maxRecDepth 65536 in
theorem w_c2 : (Jvm.Cond.code ({ cls := "java/lang/Object", name := "<init>", desc := "()V" } : Jvm.MethodName) object_method_1_code (1 : Nat) (Option.none : Option Jvm.ClassFile.FieldType)).before args0 about1 = true := code_word (m := ⟨0, 0⟩) (meth := k0m0) (c := k0c0) (by decide +kernel) rfl rfl rfl (by decide +kernel)
set_option maxRecDepth 65536 in
theorem w_c3 : (Jvm.Cond.code ({ cls := "java/lang/Double", name := "isFinite", desc := "(D)Z" } : Jvm.MethodName) jdk_117_method_8_code (2 : Nat) (Option.some Jvm.ClassFile.FieldType.boolean)).before args0 about1 = true := code_word (m := ⟨8, 1⟩) (meth := k8m1) (c := k8c1) (by decide +kernel) rfl rfl rfl (by decide +kernel)
set_option maxRecDepth 65536 in
theorem w_c4 : (Jvm.Cond.code ({ cls := "java/lang/Math", name := "abs", desc := "(D)D" } : Jvm.MethodName) jdk_29_method_64_code (2 : Nat) (Option.some Jvm.ClassFile.FieldType.double)).before args0 about1 = true := code_word (m := ⟨9, 1⟩) (meth := k9m1) (c := k9c1) (by decide +kernel) rfl rfl rfl (by decide +kernel)
set_option maxRecDepth 65536 in
theorem w_c5 : (Jvm.Cond.code ({ cls := "java/lang/Double", name := "isInfinite", desc := "(D)Z" } : Jvm.MethodName) jdk_117_method_7_code (2 : Nat) (Option.some Jvm.ClassFile.FieldType.boolean)).before args0 about1 = true := code_word (m := ⟨8, 0⟩) (meth := k8m0) (c := k8c0) (by decide +kernel) rfl rfl rfl (by decide +kernel)
set_option maxRecDepth 65536 in
theorem w_c6 : (Jvm.Cond.code ({ cls := "com/example/crowded_platform/crowdedplatform/movement/Body", name := "move", desc := "(DDD)V" } : Jvm.MethodName) prog_14_method_16_code (7 : Nat) (Option.none : Option Jvm.ClassFile.FieldType)).before args0 about1 = true := code_word (m := ⟨2, 5⟩) (meth := k2m5) (c := k2c5) (by decide +kernel) rfl rfl rfl (by decide +kernel)
set_option maxRecDepth 65536 in
theorem w_c7 : (Jvm.Cond.code ({ cls := "com/example/crowded_platform/crowdedplatform/movement/Body", name := "vx", desc := "()D" } : Jvm.MethodName) prog_14_method_4_code (1 : Nat) (Option.some Jvm.ClassFile.FieldType.double)).before args0 about1 = true := code_word (m := ⟨2, 3⟩) (meth := k2m3) (c := k2c3) (by decide +kernel) rfl rfl rfl (by decide +kernel)
set_option maxRecDepth 65536 in
theorem w_c8 : (Jvm.Cond.code ({ cls := "com/example/crowded_platform/crowdedplatform/movement/Body", name := "vy", desc := "()D" } : Jvm.MethodName) prog_14_method_5_code (1 : Nat) (Option.some Jvm.ClassFile.FieldType.double)).before args0 about1 = true := code_word (m := ⟨2, 4⟩) (meth := k2m4) (c := k2c4) (by decide +kernel) rfl rfl rfl (by decide +kernel)
set_option maxRecDepth 65536 in
theorem w_c9 : (Jvm.Cond.code ({ cls := "com/example/crowded_platform/crowdedplatform/movement/Body", name := "x", desc := "()D" } : Jvm.MethodName) prog_14_method_2_code (1 : Nat) (Option.some Jvm.ClassFile.FieldType.double)).before args0 about1 = true := code_word (m := ⟨2, 1⟩) (meth := k2m1) (c := k2c1) (by decide +kernel) rfl rfl rfl (by decide +kernel)
set_option maxRecDepth 65536 in
theorem w_c10 : (Jvm.Cond.code ({ cls := "com/example/crowded_platform/crowdedplatform/movement/Body", name := "y", desc := "()D" } : Jvm.MethodName) prog_14_method_3_code (1 : Nat) (Option.some Jvm.ClassFile.FieldType.double)).before args0 about1 = true := code_word (m := ⟨2, 2⟩) (meth := k2m2) (c := k2c2) (by decide +kernel) rfl rfl rfl (by decide +kernel)
def codes1 : List Jvm.Cond := [Jvm.Cond.code x code maxLocals ret, Jvm.Cond.code ({ cls := "com/example/crowded_platform/crowdedplatform/movement/Body", name := "<init>", desc := "(DDDD)V" } : Jvm.MethodName) prog_14_method_1_code (9 : Nat) (Option.none : Option Jvm.ClassFile.FieldType), Jvm.Cond.code ({ cls := "java/lang/Object", name := "<init>", desc := "()V" } : Jvm.MethodName) object_method_1_code (1 : Nat) (Option.none : Option Jvm.ClassFile.FieldType), Jvm.Cond.code ({ cls := "java/lang/Double", name := "isFinite", desc := "(D)Z" } : Jvm.MethodName) jdk_117_method_8_code (2 : Nat) (Option.some Jvm.ClassFile.FieldType.boolean), Jvm.Cond.code ({ cls := "java/lang/Math", name := "abs", desc := "(D)D" } : Jvm.MethodName) jdk_29_method_64_code (2 : Nat) (Option.some Jvm.ClassFile.FieldType.double), Jvm.Cond.code ({ cls := "java/lang/Double", name := "isInfinite", desc := "(D)Z" } : Jvm.MethodName) jdk_117_method_7_code (2 : Nat) (Option.some Jvm.ClassFile.FieldType.boolean), Jvm.Cond.code ({ cls := "com/example/crowded_platform/crowdedplatform/movement/Body", name := "move", desc := "(DDD)V" } : Jvm.MethodName) prog_14_method_16_code (7 : Nat) (Option.none : Option Jvm.ClassFile.FieldType), Jvm.Cond.code ({ cls := "com/example/crowded_platform/crowdedplatform/movement/Body", name := "vx", desc := "()D" } : Jvm.MethodName) prog_14_method_4_code (1 : Nat) (Option.some Jvm.ClassFile.FieldType.double), Jvm.Cond.code ({ cls := "com/example/crowded_platform/crowdedplatform/movement/Body", name := "vy", desc := "()D" } : Jvm.MethodName) prog_14_method_5_code (1 : Nat) (Option.some Jvm.ClassFile.FieldType.double), Jvm.Cond.code ({ cls := "com/example/crowded_platform/crowdedplatform/movement/Body", name := "x", desc := "()D" } : Jvm.MethodName) prog_14_method_2_code (1 : Nat) (Option.some Jvm.ClassFile.FieldType.double), Jvm.Cond.code ({ cls := "com/example/crowded_platform/crowdedplatform/movement/Body", name := "y", desc := "()D" } : Jvm.MethodName) prog_14_method_3_code (1 : Nat) (Option.some Jvm.ClassFile.FieldType.double)]
set_option maxRecDepth 65536 in
theorem codes_eq : words1.filter isCode = codes1 := rfl
theorem w_codes : ∀ c ∈ words1.filter isCode, c.before args0 about1 = true := by
  rw [codes_eq]
  intro c hc
  simp only [codes1, List.mem_cons, List.not_mem_nil, or_false] at hc
  rcases hc with rfl | rfl | rfl | rfl | rfl | rfl | rfl | rfl | rfl | rfl | rfl
  · exact w_c0
  · exact w_c1
  · exact w_c2
  · exact w_c3
  · exact w_c4
  · exact w_c5
  · exact w_c6
  · exact w_c7
  · exact w_c8
  · exact w_c9
  · exact w_c10
set_option maxRecDepth 65536 in
theorem w_t1 : (words1.take 24).all (fun c => isCode c || c.before args0 about1) = true := by decide +kernel
set_option maxRecDepth 65536 in
theorem w_t2 : ((words1.drop 24).take 24).all (fun c => isCode c || c.before args0 about1) = true := by decide +kernel
set_option maxRecDepth 65536 in
theorem w_t3 : ((words1.drop 24).drop 24).all (fun c => isCode c || c.before args0 about1) = true := by decide +kernel
theorem w_tables : (allAtoms (Jvm.Cond.code x code maxLocals ret :: tables_1)).before args0 about1 = true := by
  rw [allAtoms_all]
  show words1.all (fun c => c.before args0 about1) = true
  refine all_split ?_ w_codes
  rw [← List.take_append_drop 24 words1, List.all_append, w_t1, ← List.take_append_drop 24 (words1.drop 24), List.all_append, w_t2, w_t3]
  rfl
set_option maxRecDepth 65536 in
theorem w_case : (Jvm.Cond.and given_1 narrow_1).before args0 about1 = true := by decide +kernel
theorem w_applies : (headSpec (Jvm.Cond.code x code maxLocals ret :: tables_1) room_1).applies x e0.platform about1 = true :=
  (Spec.applies_iff w_frames).mpr ⟨w_running, w_runnable, w_alone, w_named, w_hears, w_ripe, w_room, w_tables⟩
theorem atStart : AtStart classFile x code maxLocals ret World_1 tables_1 room_1 Calls_1 rest_1 Pre_1 launch0 p0 e0 about1 theMethod args0 below0 :=
  ⟨lists_1, trivial, launch0.admits_env _ _ _, launch0.least_env, fairChoices_fair.cas, fairChoices_fair.clock, w_frames, w_args, w_heap, w_applies, trivial, trivial, w_case⟩
end start1
theorem witness_1 : WitnessClaimed_1 := ⟨start1.p0, start1.e0, start1.about1, start1.theMethod, start1.args0, start1.below0, start1.atStart⟩
end Jvm.Pilot.@@N@@
