import JvmDerived
import JvmDerived.Pilot.@@N@@Statement
import JvmDerived.Pilot.@@N@@Code
set_option linter.unusedVariables false
set_option linter.unusedSimpArgs false
namespace Jvm.OwnKit
open Jvm Jvm.ClassFile Sem Op Lib Jvm.Free Jvm.Stand Jvm.LawKit Jvm.RoadKit
/-- from the frame f at T the invocation comes to an end of which P holds -/
def Goes (p : Program) (e : Env) (below : List Frame) (P : Outcome → State → Prop) (T : State) (f : JFrame) : Prop :=
  ∃ s₂ o, Steps p.tables e below (T.setTop f) s₂ ∧ s₂.status = .running ∧ Ended s₂ below o ∧ P o s₂
theorem Goes.step {p : Program} {e : Env} {below : List Frame} {P : Outcome → State → Prop} {T T' : State} {f f' : JFrame} (K : Goes p e below P T' f') (q : ∀ t, Steps p.tables e below (T'.setTop f') t → Steps p.tables e below (T.setTop f) t) : Goes p e below P T f := by
  obtain ⟨s₂, o, h1, h2⟩ := K; exact ⟨s₂, o, q _ h1, h2⟩
/-- THE WALK STANDS at T over the heap h: what was written lies above n0; at most k cells of n slots were made; over h0 only the cells of ws have turned -/
def Wk (p : Program) (l : Launch) (e : Env) (R : Room) (s : State) (m : MethodId) (args : Array Value) (below : List Frame) (meth : Method) (c : Code)
    (Z : State) (own : String) (bytes : ByteArray) (maxL : Nat) (ret : Option FieldType) (mn : String) (n0 : Nat) (h0 : Heap) (ws : List Addr) (T : State) (h : Heap) (k n : Nat) : Prop :=
  (p.tables.exec = Jvm.exec ∧ c.code = bytes ∧ c.maxLocals = maxL ∧ Z.Warmed39 s.vm ∧ s.vm.findClass own = some m.cls ∧ meth.sig.returnType = ret ∧ meth.locks = false ∧ meth.name = mn ∧ (∀ x ∈ ws, n0 ≤ x) ∧ n0 ≤ h0.size) ∧
  ∃ locs cells slots, Stand p l e R s m args below meth c T locs cells slots ∧ T.heap = h ∧ Fr n0 locs ∧ cells ≤ k ∧ slots ≤ n ∧ Old Z n0 h ∧ Keep h0 h ws
section Steps
variable {p : Program} {l : Launch} {e : Env} {R : Room} {s : State} {m : MethodId} {args : Array Value} {below : List Frame} {meth : Method} {c : Code} {Z : State} {own : String} {bytes : ByteArray} {maxL : Nat} {ret : Option FieldType} {mn : String} {n0 : Nat} {h0 : Heap} {ws : List Addr} {T : State} {h : Heap} {k n : Nat} {P : Outcome → State → Prop} {Ls : Array Slot} {st : List Value} {pc pc' : Nat} {a0 : Array Value}
theorem Wk.mono (w : Wk p l e R s m args below meth c Z own bytes maxL ret mn n0 h0 ws T h k n) {k' n' : Nat} (hk : k ≤ k') (hn : n ≤ n') : Wk p l e R s m args below meth c Z own bytes maxL ret mn n0 h0 ws T h k' n' := by
  obtain ⟨cx, locs, cells, slots, X, e1, N, a, b, r⟩ := w; exact ⟨cx, locs, cells, slots, X, e1, N, Nat.le_trans a hk, Nat.le_trans b hn, r⟩
theorem Wk.kp (w : Wk p l e R s m args below meth c Z own bytes maxL ret mn n0 h0 ws T h k n) : Keep h0 h ws := w.2.choose_spec.choose_spec.choose_spec.2.2.2.2.2.2
theorem Wk.old (w : Wk p l e R s m args below meth c Z own bytes maxL ret mn n0 h0 ws T h k n) : Old Z n0 h := w.2.choose_spec.choose_spec.choose_spec.2.2.2.2.2.1
theorem Wk.le0 (w : Wk p l e R s m args below meth c Z own bytes maxL ret mn n0 h0 ws T h k n) : h0.size ≤ h.size := w.kp.1
theorem Wk.n0h0 (w : Wk p l e R s m args below meth c Z own bytes maxL ret mn n0 h0 ws T h k n) : n0 ≤ h0.size := w.1.2.2.2.2.2.2.2.2.2
theorem Wk.le (w : Wk p l e R s m args below meth c Z own bytes maxL ret mn n0 h0 ws T h k n) : n0 ≤ h.size := Nat.le_trans w.n0h0 w.le0
theorem Wk.hZ (w : Wk p l e R s m args below meth c Z own bytes maxL ret mn n0 h0 ws T h k n) : Z.Warmed39 s.vm := w.1.2.2.2.1
theorem Wk.heap (w : Wk p l e R s m args below meth c Z own bytes maxL ret mn n0 h0 ws T h k n) : T.heap = h := w.2.choose_spec.choose_spec.choose_spec.2.1
theorem Wk.sta (w : Wk p l e R s m args below meth c Z own bytes maxL ret mn n0 h0 ws T h k n) {C nm d : String} {v : Value} (S : Sta Z Z.heap C nm d v) : Sta Z h C nm d v := S.ext w.old.2
theorem Wk.wsn {a : Addr} (w : Wk p l e R s m args below meth c Z own bytes maxL ret mn n0 h0 ws T h k n) (q : a ∈ ws ∨ h0.size ≤ a) : n0 ≤ a := q.elim (w.1.2.2.2.2.2.2.2.2.1 a) (Nat.le_trans w.n0h0)
theorem i_aload (w : Wk p l e R s m args below meth c Z own bytes maxL ret mn n0 h0 ws T h k n) {i : Nat} {v : Value} (d : decode bytes pc = .ok (.aload i, 2)) (hl : Ls[i]? = some (.val v)) (hv : v.isRef = true) (hp : pc + 2 = pc') (K : Goes p e below P T (mkF m pc' Ls (v :: st))) : Goes p e below P T (mkF m pc Ls (st)) := by
  obtain ⟨⟨hx, hb', -⟩, locs, cells, slots, X, -⟩ := w
  subst hp
  exact K.step fun t q => XS.aload X.here hx rfl (hb hb' d) hl hv q
theorem i_aloadN (w : Wk p l e R s m args below meth c Z own bytes maxL ret mn n0 h0 ws T h k n) {i : Fin 4} {v : Value} (d : decode bytes pc = .ok (.aload_n i, 1)) (hl : Ls[i.val]? = some (.val v)) (hv : v.isRef = true) (hp : pc + 1 = pc') (K : Goes p e below P T (mkF m pc' Ls (v :: st))) : Goes p e below P T (mkF m pc Ls (st)) := by
  obtain ⟨⟨hx, hb', -⟩, locs, cells, slots, X, -⟩ := w
  subst hp
  exact K.step fun t q => XS.aloadN X.here hx rfl (hb hb' d) hl hv q
theorem i_iload (w : Wk p l e R s m args below meth c Z own bytes maxL ret mn n0 h0 ws T h k n) {i : Nat} {z : Int32} (d : decode bytes pc = .ok (.iload i, 2)) (hl : Ls[i]? = some (.val (.int z))) (hp : pc + 2 = pc') (K : Goes p e below P T (mkF m pc' Ls (.int z :: st))) : Goes p e below P T (mkF m pc Ls (st)) := by
  obtain ⟨⟨hx, hb', -⟩, locs, cells, slots, X, -⟩ := w
  subst hp
  exact K.step fun t q => XS.iload X.here hx rfl (hb hb' d) hl q
theorem i_iloadN (w : Wk p l e R s m args below meth c Z own bytes maxL ret mn n0 h0 ws T h k n) {i : Fin 4} {z : Int32} (d : decode bytes pc = .ok (.iload_n i, 1)) (hl : Ls[i.val]? = some (.val (.int z))) (hp : pc + 1 = pc') (K : Goes p e below P T (mkF m pc' Ls (.int z :: st))) : Goes p e below P T (mkF m pc Ls (st)) := by
  obtain ⟨⟨hx, hb', -⟩, locs, cells, slots, X, -⟩ := w
  subst hp
  exact K.step fun t q => XS.iloadN X.here hx rfl (hb hb' d) hl q
theorem i_lload (w : Wk p l e R s m args below meth c Z own bytes maxL ret mn n0 h0 ws T h k n) {i : Nat} {z : Int64} (d : decode bytes pc = .ok (.lload i, 2)) (hl : Ls[i]? = some (.val (.long z))) (hp : pc + 2 = pc') (K : Goes p e below P T (mkF m pc' Ls (.long z :: st))) : Goes p e below P T (mkF m pc Ls (st)) := by
  obtain ⟨⟨hx, hb', -⟩, locs, cells, slots, X, -⟩ := w
  subst hp
  exact K.step fun t q => XT.lload X.here hx rfl (hb hb' d) hl q
theorem i_lloadN (w : Wk p l e R s m args below meth c Z own bytes maxL ret mn n0 h0 ws T h k n) {i : Fin 4} {z : Int64} (d : decode bytes pc = .ok (.lload_n i, 1)) (hl : Ls[i.val]? = some (.val (.long z))) (hp : pc + 1 = pc') (K : Goes p e below P T (mkF m pc' Ls (.long z :: st))) : Goes p e below P T (mkF m pc Ls (st)) := by
  obtain ⟨⟨hx, hb', -⟩, locs, cells, slots, X, -⟩ := w
  subst hp
  exact K.step fun t q => XT.lloadN X.here hx rfl (hb hb' d) hl q
theorem i_iconst (w : Wk p l e R s m args below meth c Z own bytes maxL ret mn n0 h0 ws T h k n) {i : Int} {z : Int32} (d : decode bytes pc = .ok (.iconst i, 1)) (hz : Int32.ofInt i = z) (hp : pc + 1 = pc') (K : Goes p e below P T (mkF m pc' Ls (.int z :: st))) : Goes p e below P T (mkF m pc Ls (st)) := by
  obtain ⟨⟨hx, hb', -⟩, locs, cells, slots, X, -⟩ := w
  subst hp
  exact K.step fun t q => XS.iconst X.here hx rfl (hb hb' d) (hz ▸ q)
theorem i_bipush (w : Wk p l e R s m args below meth c Z own bytes maxL ret mn n0 h0 ws T h k n) {i : Int} {z : Int32} (d : decode bytes pc = .ok (.bipush i, 2)) (hz : (Int8.ofInt i).toInt32 = z) (hp : pc + 2 = pc') (K : Goes p e below P T (mkF m pc' Ls (.int z :: st))) : Goes p e below P T (mkF m pc Ls (st)) := by
  obtain ⟨⟨hx, hb', -⟩, locs, cells, slots, X, -⟩ := w
  subst hp
  exact K.step fun t q => XS.bipush X.here hx rfl (hb hb' d) (hz ▸ q)
theorem i_sipush (w : Wk p l e R s m args below meth c Z own bytes maxL ret mn n0 h0 ws T h k n) {i : Int} {z : Int32} (d : decode bytes pc = .ok (.sipush i, 3)) (hz : (Int16.ofInt i).toInt32 = z) (hp : pc + 3 = pc') (K : Goes p e below P T (mkF m pc' Ls (.int z :: st))) : Goes p e below P T (mkF m pc Ls (st)) := by
  obtain ⟨⟨hx, hb', -⟩, locs, cells, slots, X, -⟩ := w
  subst hp
  exact K.step fun t q => XS.sipush X.here hx rfl (hb hb' d) (hz ▸ q)
theorem i_lconst (w : Wk p l e R s m args below meth c Z own bytes maxL ret mn n0 h0 ws T h k n) {i : Fin 2} {z : Int64} (d : decode bytes pc = .ok (.lconst i, 1)) (hz : Int64.ofNat i = z) (hp : pc + 1 = pc') (K : Goes p e below P T (mkF m pc' Ls (.long z :: st))) : Goes p e below P T (mkF m pc Ls (st)) := by
  obtain ⟨⟨hx, hb', -⟩, locs, cells, slots, X, -⟩ := w
  subst hp
  exact K.step fun t q => XT.lconst X.here hx rfl (hb hb' d) (hz ▸ q)
theorem i_aconstNull (w : Wk p l e R s m args below meth c Z own bytes maxL ret mn n0 h0 ws T h k n)  (d : decode bytes pc = .ok (.aconst_null, 1))  (hp : pc + 1 = pc') (K : Goes p e below P T (mkF m pc' Ls (.null :: st))) : Goes p e below P T (mkF m pc Ls (st)) := by
  obtain ⟨⟨hx, hb', -⟩, locs, cells, slots, X, -⟩ := w
  subst hp
  exact K.step fun t q => XS.aconstNull X.here hx rfl (hb hb' d) q
theorem i_iadd (w : Wk p l e R s m args below meth c Z own bytes maxL ret mn n0 h0 ws T h k n) {x y : Int32} (d : decode bytes pc = .ok (.iadd, 1))  (hp : pc + 1 = pc') (K : Goes p e below P T (mkF m pc' Ls (.int (x + y) :: st))) : Goes p e below P T (mkF m pc Ls (.int y :: .int x :: st)) := by
  obtain ⟨⟨hx, hb', -⟩, locs, cells, slots, X, -⟩ := w
  subst hp
  exact K.step fun t q => XS.iadd X.here hx rfl (hb hb' d) rfl q
theorem i_isub (w : Wk p l e R s m args below meth c Z own bytes maxL ret mn n0 h0 ws T h k n) {x y : Int32} (d : decode bytes pc = .ok (.isub, 1))  (hp : pc + 1 = pc') (K : Goes p e below P T (mkF m pc' Ls (.int (x - y) :: st))) : Goes p e below P T (mkF m pc Ls (.int y :: .int x :: st)) := by
  obtain ⟨⟨hx, hb', -⟩, locs, cells, slots, X, -⟩ := w
  subst hp
  exact K.step fun t q => XS.isub X.here hx rfl (hb hb' d) rfl q
theorem i_imul (w : Wk p l e R s m args below meth c Z own bytes maxL ret mn n0 h0 ws T h k n) {x y : Int32} (d : decode bytes pc = .ok (.imul, 1))  (hp : pc + 1 = pc') (K : Goes p e below P T (mkF m pc' Ls (.int (x * y) :: st))) : Goes p e below P T (mkF m pc Ls (.int y :: .int x :: st)) := by
  obtain ⟨⟨hx, hb', -⟩, locs, cells, slots, X, -⟩ := w
  subst hp
  exact K.step fun t q => XS.imul X.here hx rfl (hb hb' d) rfl q
theorem i_iand (w : Wk p l e R s m args below meth c Z own bytes maxL ret mn n0 h0 ws T h k n) {x y : Int32} (d : decode bytes pc = .ok (.iand, 1))  (hp : pc + 1 = pc') (K : Goes p e below P T (mkF m pc' Ls (.int (x &&& y) :: st))) : Goes p e below P T (mkF m pc Ls (.int y :: .int x :: st)) := by
  obtain ⟨⟨hx, hb', -⟩, locs, cells, slots, X, -⟩ := w
  subst hp
  exact K.step fun t q => XS.iand X.here hx rfl (hb hb' d) rfl q
theorem i_ior (w : Wk p l e R s m args below meth c Z own bytes maxL ret mn n0 h0 ws T h k n) {x y : Int32} (d : decode bytes pc = .ok (.ior, 1))  (hp : pc + 1 = pc') (K : Goes p e below P T (mkF m pc' Ls (.int (x ||| y) :: st))) : Goes p e below P T (mkF m pc Ls (.int y :: .int x :: st)) := by
  obtain ⟨⟨hx, hb', -⟩, locs, cells, slots, X, -⟩ := w
  subst hp
  exact K.step fun t q => XT.ior X.here hx rfl (hb hb' d) rfl q
theorem i_ixor (w : Wk p l e R s m args below meth c Z own bytes maxL ret mn n0 h0 ws T h k n) {x y : Int32} (d : decode bytes pc = .ok (.ixor, 1))  (hp : pc + 1 = pc') (K : Goes p e below P T (mkF m pc' Ls (.int (x ^^^ y) :: st))) : Goes p e below P T (mkF m pc Ls (.int y :: .int x :: st)) := by
  obtain ⟨⟨hx, hb', -⟩, locs, cells, slots, X, -⟩ := w
  subst hp
  exact K.step fun t q => XT.ixor X.here hx rfl (hb hb' d) rfl q
theorem i_ishl (w : Wk p l e R s m args below meth c Z own bytes maxL ret mn n0 h0 ws T h k n) {x y : Int32} (d : decode bytes pc = .ok (.ishl, 1))  (hp : pc + 1 = pc') (K : Goes p e below P T (mkF m pc' Ls (.int (x <<< (y &&& 31)) :: st))) : Goes p e below P T (mkF m pc Ls (.int y :: .int x :: st)) := by
  obtain ⟨⟨hx, hb', -⟩, locs, cells, slots, X, -⟩ := w
  subst hp
  exact K.step fun t q => XT.ishl X.here hx rfl (hb hb' d) rfl q
theorem i_ishr (w : Wk p l e R s m args below meth c Z own bytes maxL ret mn n0 h0 ws T h k n) {x y : Int32} (d : decode bytes pc = .ok (.ishr, 1))  (hp : pc + 1 = pc') (K : Goes p e below P T (mkF m pc' Ls (.int (x >>> (y &&& 31)) :: st))) : Goes p e below P T (mkF m pc Ls (.int y :: .int x :: st)) := by
  obtain ⟨⟨hx, hb', -⟩, locs, cells, slots, X, -⟩ := w
  subst hp
  exact K.step fun t q => XT.ishr X.here hx rfl (hb hb' d) rfl q
theorem i_iushr (w : Wk p l e R s m args below meth c Z own bytes maxL ret mn n0 h0 ws T h k n) {x y : Int32} (d : decode bytes pc = .ok (.iushr, 1))  (hp : pc + 1 = pc') (K : Goes p e below P T (mkF m pc' Ls (.int (XT.ushr x y) :: st))) : Goes p e below P T (mkF m pc Ls (.int y :: .int x :: st)) := by
  obtain ⟨⟨hx, hb', -⟩, locs, cells, slots, X, -⟩ := w
  subst hp
  exact K.step fun t q => XT.iushr X.here hx rfl (hb hb' d) rfl q
theorem i_ladd (w : Wk p l e R s m args below meth c Z own bytes maxL ret mn n0 h0 ws T h k n) {x y : Int64} (d : decode bytes pc = .ok (.ladd, 1))  (hp : pc + 1 = pc') (K : Goes p e below P T (mkF m pc' Ls (.long (x + y) :: st))) : Goes p e below P T (mkF m pc Ls (.long y :: .long x :: st)) := by
  obtain ⟨⟨hx, hb', -⟩, locs, cells, slots, X, -⟩ := w
  subst hp
  exact K.step fun t q => XT.ladd X.here hx rfl (hb hb' d) rfl q
theorem i_lsub (w : Wk p l e R s m args below meth c Z own bytes maxL ret mn n0 h0 ws T h k n) {x y : Int64} (d : decode bytes pc = .ok (.lsub, 1))  (hp : pc + 1 = pc') (K : Goes p e below P T (mkF m pc' Ls (.long (x - y) :: st))) : Goes p e below P T (mkF m pc Ls (.long y :: .long x :: st)) := by
  obtain ⟨⟨hx, hb', -⟩, locs, cells, slots, X, -⟩ := w
  subst hp
  exact K.step fun t q => XT.lsub X.here hx rfl (hb hb' d) rfl q
theorem i_lmul (w : Wk p l e R s m args below meth c Z own bytes maxL ret mn n0 h0 ws T h k n) {x y : Int64} (d : decode bytes pc = .ok (.lmul, 1))  (hp : pc + 1 = pc') (K : Goes p e below P T (mkF m pc' Ls (.long (x * y) :: st))) : Goes p e below P T (mkF m pc Ls (.long y :: .long x :: st)) := by
  obtain ⟨⟨hx, hb', -⟩, locs, cells, slots, X, -⟩ := w
  subst hp
  exact K.step fun t q => XT.lmul X.here hx rfl (hb hb' d) rfl q
theorem i_land (w : Wk p l e R s m args below meth c Z own bytes maxL ret mn n0 h0 ws T h k n) {x y : Int64} (d : decode bytes pc = .ok (.land, 1))  (hp : pc + 1 = pc') (K : Goes p e below P T (mkF m pc' Ls (.long (x &&& y) :: st))) : Goes p e below P T (mkF m pc Ls (.long y :: .long x :: st)) := by
  obtain ⟨⟨hx, hb', -⟩, locs, cells, slots, X, -⟩ := w
  subst hp
  exact K.step fun t q => XT.land X.here hx rfl (hb hb' d) rfl q
theorem i_lor (w : Wk p l e R s m args below meth c Z own bytes maxL ret mn n0 h0 ws T h k n) {x y : Int64} (d : decode bytes pc = .ok (.lor, 1))  (hp : pc + 1 = pc') (K : Goes p e below P T (mkF m pc' Ls (.long (x ||| y) :: st))) : Goes p e below P T (mkF m pc Ls (.long y :: .long x :: st)) := by
  obtain ⟨⟨hx, hb', -⟩, locs, cells, slots, X, -⟩ := w
  subst hp
  exact K.step fun t q => XT.lor X.here hx rfl (hb hb' d) rfl q
theorem i_lxor (w : Wk p l e R s m args below meth c Z own bytes maxL ret mn n0 h0 ws T h k n) {x y : Int64} (d : decode bytes pc = .ok (.lxor, 1))  (hp : pc + 1 = pc') (K : Goes p e below P T (mkF m pc' Ls (.long (x ^^^ y) :: st))) : Goes p e below P T (mkF m pc Ls (.long y :: .long x :: st)) := by
  obtain ⟨⟨hx, hb', -⟩, locs, cells, slots, X, -⟩ := w
  subst hp
  exact K.step fun t q => XT.lxor X.here hx rfl (hb hb' d) rfl q
theorem i_lshl (w : Wk p l e R s m args below meth c Z own bytes maxL ret mn n0 h0 ws T h k n) {x : Int64} {y : Int32} (d : decode bytes pc = .ok (.lshl, 1))  (hp : pc + 1 = pc') (K : Goes p e below P T (mkF m pc' Ls (.long (x <<< (y.toInt64 &&& 63)) :: st))) : Goes p e below P T (mkF m pc Ls (.int y :: .long x :: st)) := by
  obtain ⟨⟨hx, hb', -⟩, locs, cells, slots, X, -⟩ := w
  subst hp
  exact K.step fun t q => XT.lshl X.here hx rfl (hb hb' d) rfl q
theorem i_lshr (w : Wk p l e R s m args below meth c Z own bytes maxL ret mn n0 h0 ws T h k n) {x : Int64} {y : Int32} (d : decode bytes pc = .ok (.lshr, 1))  (hp : pc + 1 = pc') (K : Goes p e below P T (mkF m pc' Ls (.long (x >>> (y.toInt64 &&& 63)) :: st))) : Goes p e below P T (mkF m pc Ls (.int y :: .long x :: st)) := by
  obtain ⟨⟨hx, hb', -⟩, locs, cells, slots, X, -⟩ := w
  subst hp
  exact K.step fun t q => XT.lshr X.here hx rfl (hb hb' d) rfl q
theorem i_lushr (w : Wk p l e R s m args below meth c Z own bytes maxL ret mn n0 h0 ws T h k n) {x : Int64} {y : Int32} (d : decode bytes pc = .ok (.lushr, 1))  (hp : pc + 1 = pc') (K : Goes p e below P T (mkF m pc' Ls (.long (XT.ushrL x y) :: st))) : Goes p e below P T (mkF m pc Ls (.int y :: .long x :: st)) := by
  obtain ⟨⟨hx, hb', -⟩, locs, cells, slots, X, -⟩ := w
  subst hp
  exact K.step fun t q => XT.lushr X.here hx rfl (hb hb' d) rfl q
theorem i_idiv (w : Wk p l e R s m args below meth c Z own bytes maxL ret mn n0 h0 ws T h k n) {x y : Int32} (d : decode bytes pc = .ok (.idiv, 1)) (hy : y ≠ 0) (hp : pc + 1 = pc') (K : Goes p e below P T (mkF m pc' Ls (.int (x / y) :: st))) : Goes p e below P T (mkF m pc Ls (.int y :: .int x :: st)) := by
  obtain ⟨⟨hx, hb', -⟩, locs, cells, slots, X, -⟩ := w
  subst hp
  exact K.step fun t q => XS.idiv X.here hx rfl (hb hb' d) rfl hy q
theorem i_irem (w : Wk p l e R s m args below meth c Z own bytes maxL ret mn n0 h0 ws T h k n) {x y : Int32} (d : decode bytes pc = .ok (.irem, 1)) (hy : y ≠ 0) (hp : pc + 1 = pc') (K : Goes p e below P T (mkF m pc' Ls (.int (x % y) :: st))) : Goes p e below P T (mkF m pc Ls (.int y :: .int x :: st)) := by
  obtain ⟨⟨hx, hb', -⟩, locs, cells, slots, X, -⟩ := w
  subst hp
  exact K.step fun t q => iremM X hx rfl (hb hb' d) rfl hy q
theorem i_lrem (w : Wk p l e R s m args below meth c Z own bytes maxL ret mn n0 h0 ws T h k n) {x y : Int64} (d : decode bytes pc = .ok (.lrem, 1)) (hy : y ≠ 0) (hp : pc + 1 = pc') (K : Goes p e below P T (mkF m pc' Ls (.long (x - (x / y) * y) :: st))) : Goes p e below P T (mkF m pc Ls (.long y :: .long x :: st)) := by
  obtain ⟨⟨hx, hb', -⟩, locs, cells, slots, X, -⟩ := w
  subst hp
  exact K.step fun t q => XT.lrem X.here hx rfl (hb hb' d) rfl hy q
theorem i_ineg (w : Wk p l e R s m args below meth c Z own bytes maxL ret mn n0 h0 ws T h k n) {x : Int32} (d : decode bytes pc = .ok (.ineg, 1))  (hp : pc + 1 = pc') (K : Goes p e below P T (mkF m pc' Ls (.int (-x) :: st))) : Goes p e below P T (mkF m pc Ls (.int x :: st)) := by
  obtain ⟨⟨hx, hb', -⟩, locs, cells, slots, X, -⟩ := w
  subst hp
  exact K.step fun t q => XS.ineg X.here hx rfl (hb hb' d) rfl q
theorem i_i2l (w : Wk p l e R s m args below meth c Z own bytes maxL ret mn n0 h0 ws T h k n) {x : Int32} (d : decode bytes pc = .ok (.i2l, 1))  (hp : pc + 1 = pc') (K : Goes p e below P T (mkF m pc' Ls (.long x.toInt64 :: st))) : Goes p e below P T (mkF m pc Ls (.int x :: st)) := by
  obtain ⟨⟨hx, hb', -⟩, locs, cells, slots, X, -⟩ := w
  subst hp
  exact K.step fun t q => XT.i2l X.here hx rfl (hb hb' d) rfl q
theorem i_l2i (w : Wk p l e R s m args below meth c Z own bytes maxL ret mn n0 h0 ws T h k n) {x : Int64} (d : decode bytes pc = .ok (.l2i, 1))  (hp : pc + 1 = pc') (K : Goes p e below P T (mkF m pc' Ls (.int x.toInt32 :: st))) : Goes p e below P T (mkF m pc Ls (.long x :: st)) := by
  obtain ⟨⟨hx, hb', -⟩, locs, cells, slots, X, -⟩ := w
  subst hp
  exact K.step fun t q => XT.l2i X.here hx rfl (hb hb' d) rfl q
theorem i_i2b (w : Wk p l e R s m args below meth c Z own bytes maxL ret mn n0 h0 ws T h k n) {x : Int32} (d : decode bytes pc = .ok (.i2b, 1))  (hp : pc + 1 = pc') (K : Goes p e below P T (mkF m pc' Ls (.int x.toInt8.toInt32 :: st))) : Goes p e below P T (mkF m pc Ls (.int x :: st)) := by
  obtain ⟨⟨hx, hb', -⟩, locs, cells, slots, X, -⟩ := w
  subst hp
  exact K.step fun t q => XT.i2b X.here hx rfl (hb hb' d) rfl q
theorem i_i2c (w : Wk p l e R s m args below meth c Z own bytes maxL ret mn n0 h0 ws T h k n) {x : Int32} (d : decode bytes pc = .ok (.i2c, 1))  (hp : pc + 1 = pc') (K : Goes p e below P T (mkF m pc' Ls (.int (nar .char x) :: st))) : Goes p e below P T (mkF m pc Ls (.int x :: st)) := by
  obtain ⟨⟨hx, hb', -⟩, locs, cells, slots, X, -⟩ := w
  subst hp
  exact K.step fun t q => XT.i2c X.here hx rfl (hb hb' d) rfl q
theorem i_lcmp (w : Wk p l e R s m args below meth c Z own bytes maxL ret mn n0 h0 ws T h k n) {x y : Int64} (d : decode bytes pc = .ok (.lcmp, 1))  (hp : pc + 1 = pc') (K : Goes p e below P T (mkF m pc' Ls (.int (XT.cmpL x y) :: st))) : Goes p e below P T (mkF m pc Ls (.long y :: .long x :: st)) := by
  obtain ⟨⟨hx, hb', -⟩, locs, cells, slots, X, -⟩ := w
  subst hp
  exact K.step fun t q => XT.lcmp X.here hx rfl (hb hb' d) rfl q
theorem i_pop (w : Wk p l e R s m args below meth c Z own bytes maxL ret mn n0 h0 ws T h k n) {x : Value} (d : decode bytes pc = .ok (.pop, 1)) (hc : x.category = 1) (hp : pc + 1 = pc') (K : Goes p e below P T (mkF m pc' Ls (st))) : Goes p e below P T (mkF m pc Ls (x :: st)) := by
  obtain ⟨⟨hx, hb', -⟩, locs, cells, slots, X, -⟩ := w
  subst hp
  exact K.step fun t q => XT.pop X.here hx rfl (hb hb' d) rfl hc q
theorem i_dup (w : Wk p l e R s m args below meth c Z own bytes maxL ret mn n0 h0 ws T h k n) {x : Value} (d : decode bytes pc = .ok (.dup, 1)) (hc : x.category = 1) (hp : pc + 1 = pc') (K : Goes p e below P T (mkF m pc' Ls (x :: x :: st))) : Goes p e below P T (mkF m pc Ls (x :: st)) := by
  obtain ⟨⟨hx, hb', -⟩, locs, cells, slots, X, -⟩ := w
  subst hp
  exact K.step fun t q => XS.dup X.here hx rfl (hb hb' d) rfl hc q
theorem i_dupX1 (w : Wk p l e R s m args below meth c Z own bytes maxL ret mn n0 h0 ws T h k n) {x y : Value} (d : decode bytes pc = .ok (.dup_x1, 1)) (hc : x.category = 1) (hc' : y.category = 1) (hp : pc + 1 = pc') (K : Goes p e below P T (mkF m pc' Ls (x :: y :: x :: st))) : Goes p e below P T (mkF m pc Ls (x :: y :: st)) := by
  obtain ⟨⟨hx, hb', -⟩, locs, cells, slots, X, -⟩ := w
  subst hp
  exact K.step fun t q => XT.dupX1 X.here hx rfl (hb hb' d) rfl hc hc' q
theorem i_dup2 (w : Wk p l e R s m args below meth c Z own bytes maxL ret mn n0 h0 ws T h k n) {x y : Value} (d : decode bytes pc = .ok (.dup2, 1)) (hc : x.category = 1) (hc' : y.category = 1) (hp : pc + 1 = pc') (K : Goes p e below P T (mkF m pc' Ls (x :: y :: x :: y :: st))) : Goes p e below P T (mkF m pc Ls (x :: y :: st)) := by
  obtain ⟨⟨hx, hb', -⟩, locs, cells, slots, X, -⟩ := w
  subst hp
  exact K.step fun t q => XT.dup2 X.here hx rfl (hb hb' d) rfl hc hc' q
theorem i_istore (w : Wk p l e R s m args below meth c Z own bytes maxL ret mn n0 h0 ws T h k n) {i : Nat} {z : Int32} {l' : Array Slot} (d : decode bytes pc = .ok (.istore i, 2)) (hl : storeLocals Ls i (.int z) = some l') (hp : pc + 2 = pc') (K : Goes p e below P T (mkF m pc' l' (st))) : Goes p e below P T (mkF m pc Ls (.int z :: st)) := by
  obtain ⟨⟨hx, hb', -⟩, locs, cells, slots, X, -⟩ := w
  subst hp
  exact K.step fun t q => XS.istore X.here hx rfl (hb hb' d) rfl hl q
theorem i_istoreN (w : Wk p l e R s m args below meth c Z own bytes maxL ret mn n0 h0 ws T h k n) {i : Fin 4} {z : Int32} {l' : Array Slot} (d : decode bytes pc = .ok (.istore_n i, 1)) (hl : storeLocals Ls i.val (.int z) = some l') (hp : pc + 1 = pc') (K : Goes p e below P T (mkF m pc' l' (st))) : Goes p e below P T (mkF m pc Ls (.int z :: st)) := by
  obtain ⟨⟨hx, hb', -⟩, locs, cells, slots, X, -⟩ := w
  subst hp
  exact K.step fun t q => XS.istoreN X.here hx rfl (hb hb' d) rfl hl q
theorem i_lstore (w : Wk p l e R s m args below meth c Z own bytes maxL ret mn n0 h0 ws T h k n) {i : Nat} {z : Int64} {l' : Array Slot} (d : decode bytes pc = .ok (.lstore i, 2)) (hl : storeLocals Ls i (.long z) = some l') (hp : pc + 2 = pc') (K : Goes p e below P T (mkF m pc' l' (st))) : Goes p e below P T (mkF m pc Ls (.long z :: st)) := by
  obtain ⟨⟨hx, hb', -⟩, locs, cells, slots, X, -⟩ := w
  subst hp
  exact K.step fun t q => XT.lstore X.here hx rfl (hb hb' d) rfl hl q
theorem i_lstoreN (w : Wk p l e R s m args below meth c Z own bytes maxL ret mn n0 h0 ws T h k n) {i : Fin 4} {z : Int64} {l' : Array Slot} (d : decode bytes pc = .ok (.lstore_n i, 1)) (hl : storeLocals Ls i.val (.long z) = some l') (hp : pc + 1 = pc') (K : Goes p e below P T (mkF m pc' l' (st))) : Goes p e below P T (mkF m pc Ls (.long z :: st)) := by
  obtain ⟨⟨hx, hb', -⟩, locs, cells, slots, X, -⟩ := w
  subst hp
  exact K.step fun t q => XT.lstoreN X.here hx rfl (hb hb' d) rfl hl q
theorem i_astore (w : Wk p l e R s m args below meth c Z own bytes maxL ret mn n0 h0 ws T h k n) {i : Nat} {v : Value} {l' : Array Slot} (d : decode bytes pc = .ok (.astore i, 2)) (hv : v.isRef = true) (hl : storeLocals Ls i v = some l') (hp : pc + 2 = pc') (K : Goes p e below P T (mkF m pc' l' (st))) : Goes p e below P T (mkF m pc Ls (v :: st)) := by
  obtain ⟨⟨hx, hb', -⟩, locs, cells, slots, X, -⟩ := w
  subst hp
  exact K.step fun t q => XS.astore X.here hx rfl (hb hb' d) rfl hv hl q
theorem i_astoreN (w : Wk p l e R s m args below meth c Z own bytes maxL ret mn n0 h0 ws T h k n) {i : Fin 4} {v : Value} {l' : Array Slot} (d : decode bytes pc = .ok (.astore_n i, 1)) (hv : v.isRef = true) (hl : storeLocals Ls i.val v = some l') (hp : pc + 1 = pc') (K : Goes p e below P T (mkF m pc' l' (st))) : Goes p e below P T (mkF m pc Ls (v :: st)) := by
  obtain ⟨⟨hx, hb', -⟩, locs, cells, slots, X, -⟩ := w
  subst hp
  exact K.step fun t q => XS.astoreN X.here hx rfl (hb hb' d) rfl hv hl q
theorem i_iinc (w : Wk p l e R s m args below meth c Z own bytes maxL ret mn n0 h0 ws T h k n) {i : Nat} {cst : Int} {x z : Int32} {l' : Array Slot} (d : decode bytes pc = .ok (.iinc i cst, 3)) (hl : Ls[i]? = some (.val (.int x))) (hz : x + Int32.ofInt cst = z) (hl' : storeLocals Ls i (.int z) = some l') (hp : pc + 3 = pc') (K : Goes p e below P T (mkF m pc' l' (st))) : Goes p e below P T (mkF m pc Ls (st)) := by
  obtain ⟨⟨hx, hb', -⟩, locs, cells, slots, X, -⟩ := w
  subst hp
  exact K.step fun t q => XS.iinc X.here hx rfl (hb hb' d) hl (by rw [hz]; exact hl') q
theorem i_goto (w : Wk p l e R s m args below meth c Z own bytes maxL ret mn n0 h0 ws T h k n) {o : Int} (d : decode bytes pc = .ok (.goto o, 3)) (hp : (pc : Int) + o = (pc' : Int)) (K : Goes p e below P T (mkF m pc' Ls (st))) : Goes p e below P T (mkF m pc Ls (st)) := by
  obtain ⟨⟨hx, hb', -⟩, locs, cells, slots, X, -⟩ := w
  exact K.step fun t q => XS.goto X.here hx rfl (pc0 := pc) (pc' := pc') rfl (hb hb' d) (by omega) (by omega) q
theorem i_icmp_eq_Y (w : Wk p l e R s m args below meth c Z own bytes maxL ret mn n0 h0 ws T h k n) {x y : Int32} {o : Int} (hc : x = y) (d : decode bytes pc = .ok (.if_icmp .eq o, 3)) (hp : (pc : Int) + o = (pc' : Int)) (K : Goes p e below P T (mkF m pc' Ls (st))) : Goes p e below P T (mkF m pc Ls (.int y :: .int x :: st)) := by
  obtain ⟨⟨hx, hb', -⟩, locs, cells, slots, X, -⟩ := w
  exact K.step fun t q => XS.icmpYes X.here hx rfl (pc0 := pc) (pc' := pc') rfl (hb hb' d) rfl (teq hc).1 (by omega) (by omega) q
theorem i_icmp_eq_N (w : Wk p l e R s m args below meth c Z own bytes maxL ret mn n0 h0 ws T h k n) {x y : Int32} {o : Int} (hc : ¬ x = y) (d : decode bytes pc = .ok (.if_icmp .eq o, 3)) (hp : pc + 3 = pc') (K : Goes p e below P T (mkF m pc' Ls (st))) : Goes p e below P T (mkF m pc Ls (.int y :: .int x :: st)) := by
  obtain ⟨⟨hx, hb', -⟩, locs, cells, slots, X, -⟩ := w
  subst hp
  exact K.step fun t q => XS.icmpNo X.here hx rfl (hb hb' d) rfl (feq hc).1 q
theorem i_icmp_eq (w : Wk p l e R s m args below meth c Z own bytes maxL ret mn n0 h0 ws T h k n) {x y : Int32} {o : Int} {pcY : Nat} (d : decode bytes pc = .ok (.if_icmp .eq o, 3)) (hy : (pc : Int) + o = (pcY : Int)) (hp : pc + 3 = pc') (KY : x = y → Goes p e below P T (mkF m pcY Ls (st))) (KN : ¬ x = y → Goes p e below P T (mkF m pc' Ls (st))) : Goes p e below P T (mkF m pc Ls (.int y :: .int x :: st)) :=
  Decidable.byCases (fun hc : x = y => i_icmp_eq_Y w hc d hy (KY hc)) (fun hc => i_icmp_eq_N w (hc) d hp (KN (hc)))
theorem i_if_eq_Y (w : Wk p l e R s m args below meth c Z own bytes maxL ret mn n0 h0 ws T h k n) {x : Int32} {o : Int} (hc : x = 0) (d : decode bytes pc = .ok (.ifCond .eq o, 3)) (hp : (pc : Int) + o = (pc' : Int)) (K : Goes p e below P T (mkF m pc' Ls (st))) : Goes p e below P T (mkF m pc Ls (.int x :: st)) := by
  obtain ⟨⟨hx, hb', -⟩, locs, cells, slots, X, -⟩ := w
  exact K.step fun t q => XS.ifYes X.here hx rfl (pc0 := pc) (pc' := pc') rfl (hb hb' d) rfl ((if0 _ _).trans (teq hc).1) (by omega) (by omega) q
theorem i_if_eq_N (w : Wk p l e R s m args below meth c Z own bytes maxL ret mn n0 h0 ws T h k n) {x : Int32} {o : Int} (hc : ¬ x = 0) (d : decode bytes pc = .ok (.ifCond .eq o, 3)) (hp : pc + 3 = pc') (K : Goes p e below P T (mkF m pc' Ls (st))) : Goes p e below P T (mkF m pc Ls (.int x :: st)) := by
  obtain ⟨⟨hx, hb', -⟩, locs, cells, slots, X, -⟩ := w
  subst hp
  exact K.step fun t q => XS.ifNo X.here hx rfl (hb hb' d) rfl ((if0 _ _).trans (feq hc).1) q
theorem i_if_eq (w : Wk p l e R s m args below meth c Z own bytes maxL ret mn n0 h0 ws T h k n) {x : Int32} {o : Int} {pcY : Nat} (d : decode bytes pc = .ok (.ifCond .eq o, 3)) (hy : (pc : Int) + o = (pcY : Int)) (hp : pc + 3 = pc') (KY : x = 0 → Goes p e below P T (mkF m pcY Ls (st))) (KN : ¬ x = 0 → Goes p e below P T (mkF m pc' Ls (st))) : Goes p e below P T (mkF m pc Ls (.int x :: st)) :=
  Decidable.byCases (fun hc : x = 0 => i_if_eq_Y w hc d hy (KY hc)) (fun hc => i_if_eq_N w (hc) d hp (KN (hc)))
theorem i_icmp_ne_Y (w : Wk p l e R s m args below meth c Z own bytes maxL ret mn n0 h0 ws T h k n) {x y : Int32} {o : Int} (hc : ¬ x = y) (d : decode bytes pc = .ok (.if_icmp .ne o, 3)) (hp : (pc : Int) + o = (pc' : Int)) (K : Goes p e below P T (mkF m pc' Ls (st))) : Goes p e below P T (mkF m pc Ls (.int y :: .int x :: st)) := by
  obtain ⟨⟨hx, hb', -⟩, locs, cells, slots, X, -⟩ := w
  exact K.step fun t q => XS.icmpYes X.here hx rfl (pc0 := pc) (pc' := pc') rfl (hb hb' d) rfl (feq hc).2 (by omega) (by omega) q
theorem i_icmp_ne_N (w : Wk p l e R s m args below meth c Z own bytes maxL ret mn n0 h0 ws T h k n) {x y : Int32} {o : Int} (hc : x = y) (d : decode bytes pc = .ok (.if_icmp .ne o, 3)) (hp : pc + 3 = pc') (K : Goes p e below P T (mkF m pc' Ls (st))) : Goes p e below P T (mkF m pc Ls (.int y :: .int x :: st)) := by
  obtain ⟨⟨hx, hb', -⟩, locs, cells, slots, X, -⟩ := w
  subst hp
  exact K.step fun t q => XS.icmpNo X.here hx rfl (hb hb' d) rfl (teq hc).2 q
theorem i_icmp_ne (w : Wk p l e R s m args below meth c Z own bytes maxL ret mn n0 h0 ws T h k n) {x y : Int32} {o : Int} {pcY : Nat} (d : decode bytes pc = .ok (.if_icmp .ne o, 3)) (hy : (pc : Int) + o = (pcY : Int)) (hp : pc + 3 = pc') (KY : ¬ x = y → Goes p e below P T (mkF m pcY Ls (st))) (KN : x = y → Goes p e below P T (mkF m pc' Ls (st))) : Goes p e below P T (mkF m pc Ls (.int y :: .int x :: st)) :=
  Decidable.byCases (fun hc : ¬ x = y => i_icmp_ne_Y w hc d hy (KY hc)) (fun hc => i_icmp_ne_N w (Decidable.not_not.mp hc) d hp (KN (Decidable.not_not.mp hc)))
theorem i_if_ne_Y (w : Wk p l e R s m args below meth c Z own bytes maxL ret mn n0 h0 ws T h k n) {x : Int32} {o : Int} (hc : ¬ x = 0) (d : decode bytes pc = .ok (.ifCond .ne o, 3)) (hp : (pc : Int) + o = (pc' : Int)) (K : Goes p e below P T (mkF m pc' Ls (st))) : Goes p e below P T (mkF m pc Ls (.int x :: st)) := by
  obtain ⟨⟨hx, hb', -⟩, locs, cells, slots, X, -⟩ := w
  exact K.step fun t q => XS.ifYes X.here hx rfl (pc0 := pc) (pc' := pc') rfl (hb hb' d) rfl ((if0 _ _).trans (feq hc).2) (by omega) (by omega) q
theorem i_if_ne_N (w : Wk p l e R s m args below meth c Z own bytes maxL ret mn n0 h0 ws T h k n) {x : Int32} {o : Int} (hc : x = 0) (d : decode bytes pc = .ok (.ifCond .ne o, 3)) (hp : pc + 3 = pc') (K : Goes p e below P T (mkF m pc' Ls (st))) : Goes p e below P T (mkF m pc Ls (.int x :: st)) := by
  obtain ⟨⟨hx, hb', -⟩, locs, cells, slots, X, -⟩ := w
  subst hp
  exact K.step fun t q => XS.ifNo X.here hx rfl (hb hb' d) rfl ((if0 _ _).trans (teq hc).2) q
theorem i_if_ne (w : Wk p l e R s m args below meth c Z own bytes maxL ret mn n0 h0 ws T h k n) {x : Int32} {o : Int} {pcY : Nat} (d : decode bytes pc = .ok (.ifCond .ne o, 3)) (hy : (pc : Int) + o = (pcY : Int)) (hp : pc + 3 = pc') (KY : ¬ x = 0 → Goes p e below P T (mkF m pcY Ls (st))) (KN : x = 0 → Goes p e below P T (mkF m pc' Ls (st))) : Goes p e below P T (mkF m pc Ls (.int x :: st)) :=
  Decidable.byCases (fun hc : ¬ x = 0 => i_if_ne_Y w hc d hy (KY hc)) (fun hc => i_if_ne_N w (Decidable.not_not.mp hc) d hp (KN (Decidable.not_not.mp hc)))
theorem i_icmp_lt_Y (w : Wk p l e R s m args below meth c Z own bytes maxL ret mn n0 h0 ws T h k n) {x y : Int32} {o : Int} (hc : x < y) (d : decode bytes pc = .ok (.if_icmp .lt o, 3)) (hp : (pc : Int) + o = (pc' : Int)) (K : Goes p e below P T (mkF m pc' Ls (st))) : Goes p e below P T (mkF m pc Ls (.int y :: .int x :: st)) := by
  obtain ⟨⟨hx, hb', -⟩, locs, cells, slots, X, -⟩ := w
  exact K.step fun t q => XS.icmpYes X.here hx rfl (pc0 := pc) (pc' := pc') rfl (hb hb' d) rfl (tlt hc).1 (by omega) (by omega) q
theorem i_icmp_lt_N (w : Wk p l e R s m args below meth c Z own bytes maxL ret mn n0 h0 ws T h k n) {x y : Int32} {o : Int} (hc : ¬ x < y) (d : decode bytes pc = .ok (.if_icmp .lt o, 3)) (hp : pc + 3 = pc') (K : Goes p e below P T (mkF m pc' Ls (st))) : Goes p e below P T (mkF m pc Ls (.int y :: .int x :: st)) := by
  obtain ⟨⟨hx, hb', -⟩, locs, cells, slots, X, -⟩ := w
  subst hp
  exact K.step fun t q => XS.icmpNo X.here hx rfl (hb hb' d) rfl (flt hc).1 q
theorem i_icmp_lt (w : Wk p l e R s m args below meth c Z own bytes maxL ret mn n0 h0 ws T h k n) {x y : Int32} {o : Int} {pcY : Nat} (d : decode bytes pc = .ok (.if_icmp .lt o, 3)) (hy : (pc : Int) + o = (pcY : Int)) (hp : pc + 3 = pc') (KY : x < y → Goes p e below P T (mkF m pcY Ls (st))) (KN : ¬ x < y → Goes p e below P T (mkF m pc' Ls (st))) : Goes p e below P T (mkF m pc Ls (.int y :: .int x :: st)) :=
  Decidable.byCases (fun hc : x < y => i_icmp_lt_Y w hc d hy (KY hc)) (fun hc => i_icmp_lt_N w (hc) d hp (KN (hc)))
theorem i_if_lt_Y (w : Wk p l e R s m args below meth c Z own bytes maxL ret mn n0 h0 ws T h k n) {x : Int32} {o : Int} (hc : x < 0) (d : decode bytes pc = .ok (.ifCond .lt o, 3)) (hp : (pc : Int) + o = (pc' : Int)) (K : Goes p e below P T (mkF m pc' Ls (st))) : Goes p e below P T (mkF m pc Ls (.int x :: st)) := by
  obtain ⟨⟨hx, hb', -⟩, locs, cells, slots, X, -⟩ := w
  exact K.step fun t q => XS.ifYes X.here hx rfl (pc0 := pc) (pc' := pc') rfl (hb hb' d) rfl ((if0 _ _).trans (tlt hc).1) (by omega) (by omega) q
theorem i_if_lt_N (w : Wk p l e R s m args below meth c Z own bytes maxL ret mn n0 h0 ws T h k n) {x : Int32} {o : Int} (hc : ¬ x < 0) (d : decode bytes pc = .ok (.ifCond .lt o, 3)) (hp : pc + 3 = pc') (K : Goes p e below P T (mkF m pc' Ls (st))) : Goes p e below P T (mkF m pc Ls (.int x :: st)) := by
  obtain ⟨⟨hx, hb', -⟩, locs, cells, slots, X, -⟩ := w
  subst hp
  exact K.step fun t q => XS.ifNo X.here hx rfl (hb hb' d) rfl ((if0 _ _).trans (flt hc).1) q
theorem i_if_lt (w : Wk p l e R s m args below meth c Z own bytes maxL ret mn n0 h0 ws T h k n) {x : Int32} {o : Int} {pcY : Nat} (d : decode bytes pc = .ok (.ifCond .lt o, 3)) (hy : (pc : Int) + o = (pcY : Int)) (hp : pc + 3 = pc') (KY : x < 0 → Goes p e below P T (mkF m pcY Ls (st))) (KN : ¬ x < 0 → Goes p e below P T (mkF m pc' Ls (st))) : Goes p e below P T (mkF m pc Ls (.int x :: st)) :=
  Decidable.byCases (fun hc : x < 0 => i_if_lt_Y w hc d hy (KY hc)) (fun hc => i_if_lt_N w (hc) d hp (KN (hc)))
theorem i_icmp_ge_Y (w : Wk p l e R s m args below meth c Z own bytes maxL ret mn n0 h0 ws T h k n) {x y : Int32} {o : Int} (hc : ¬ x < y) (d : decode bytes pc = .ok (.if_icmp .ge o, 3)) (hp : (pc : Int) + o = (pc' : Int)) (K : Goes p e below P T (mkF m pc' Ls (st))) : Goes p e below P T (mkF m pc Ls (.int y :: .int x :: st)) := by
  obtain ⟨⟨hx, hb', -⟩, locs, cells, slots, X, -⟩ := w
  exact K.step fun t q => XS.icmpYes X.here hx rfl (pc0 := pc) (pc' := pc') rfl (hb hb' d) rfl (flt hc).2.1 (by omega) (by omega) q
theorem i_icmp_ge_N (w : Wk p l e R s m args below meth c Z own bytes maxL ret mn n0 h0 ws T h k n) {x y : Int32} {o : Int} (hc : x < y) (d : decode bytes pc = .ok (.if_icmp .ge o, 3)) (hp : pc + 3 = pc') (K : Goes p e below P T (mkF m pc' Ls (st))) : Goes p e below P T (mkF m pc Ls (.int y :: .int x :: st)) := by
  obtain ⟨⟨hx, hb', -⟩, locs, cells, slots, X, -⟩ := w
  subst hp
  exact K.step fun t q => XS.icmpNo X.here hx rfl (hb hb' d) rfl (tlt hc).2.1 q
theorem i_icmp_ge (w : Wk p l e R s m args below meth c Z own bytes maxL ret mn n0 h0 ws T h k n) {x y : Int32} {o : Int} {pcY : Nat} (d : decode bytes pc = .ok (.if_icmp .ge o, 3)) (hy : (pc : Int) + o = (pcY : Int)) (hp : pc + 3 = pc') (KY : ¬ x < y → Goes p e below P T (mkF m pcY Ls (st))) (KN : x < y → Goes p e below P T (mkF m pc' Ls (st))) : Goes p e below P T (mkF m pc Ls (.int y :: .int x :: st)) :=
  Decidable.byCases (fun hc : ¬ x < y => i_icmp_ge_Y w hc d hy (KY hc)) (fun hc => i_icmp_ge_N w (Decidable.not_not.mp hc) d hp (KN (Decidable.not_not.mp hc)))
theorem i_if_ge_Y (w : Wk p l e R s m args below meth c Z own bytes maxL ret mn n0 h0 ws T h k n) {x : Int32} {o : Int} (hc : ¬ x < 0) (d : decode bytes pc = .ok (.ifCond .ge o, 3)) (hp : (pc : Int) + o = (pc' : Int)) (K : Goes p e below P T (mkF m pc' Ls (st))) : Goes p e below P T (mkF m pc Ls (.int x :: st)) := by
  obtain ⟨⟨hx, hb', -⟩, locs, cells, slots, X, -⟩ := w
  exact K.step fun t q => XS.ifYes X.here hx rfl (pc0 := pc) (pc' := pc') rfl (hb hb' d) rfl ((if0 _ _).trans (flt hc).2.1) (by omega) (by omega) q
theorem i_if_ge_N (w : Wk p l e R s m args below meth c Z own bytes maxL ret mn n0 h0 ws T h k n) {x : Int32} {o : Int} (hc : x < 0) (d : decode bytes pc = .ok (.ifCond .ge o, 3)) (hp : pc + 3 = pc') (K : Goes p e below P T (mkF m pc' Ls (st))) : Goes p e below P T (mkF m pc Ls (.int x :: st)) := by
  obtain ⟨⟨hx, hb', -⟩, locs, cells, slots, X, -⟩ := w
  subst hp
  exact K.step fun t q => XS.ifNo X.here hx rfl (hb hb' d) rfl ((if0 _ _).trans (tlt hc).2.1) q
theorem i_if_ge (w : Wk p l e R s m args below meth c Z own bytes maxL ret mn n0 h0 ws T h k n) {x : Int32} {o : Int} {pcY : Nat} (d : decode bytes pc = .ok (.ifCond .ge o, 3)) (hy : (pc : Int) + o = (pcY : Int)) (hp : pc + 3 = pc') (KY : ¬ x < 0 → Goes p e below P T (mkF m pcY Ls (st))) (KN : x < 0 → Goes p e below P T (mkF m pc' Ls (st))) : Goes p e below P T (mkF m pc Ls (.int x :: st)) :=
  Decidable.byCases (fun hc : ¬ x < 0 => i_if_ge_Y w hc d hy (KY hc)) (fun hc => i_if_ge_N w (Decidable.not_not.mp hc) d hp (KN (Decidable.not_not.mp hc)))
theorem i_icmp_gt_Y (w : Wk p l e R s m args below meth c Z own bytes maxL ret mn n0 h0 ws T h k n) {x y : Int32} {o : Int} (hc : y < x) (d : decode bytes pc = .ok (.if_icmp .gt o, 3)) (hp : (pc : Int) + o = (pc' : Int)) (K : Goes p e below P T (mkF m pc' Ls (st))) : Goes p e below P T (mkF m pc Ls (.int y :: .int x :: st)) := by
  obtain ⟨⟨hx, hb', -⟩, locs, cells, slots, X, -⟩ := w
  exact K.step fun t q => XS.icmpYes X.here hx rfl (pc0 := pc) (pc' := pc') rfl (hb hb' d) rfl (tlt hc).2.2.1 (by omega) (by omega) q
theorem i_icmp_gt_N (w : Wk p l e R s m args below meth c Z own bytes maxL ret mn n0 h0 ws T h k n) {x y : Int32} {o : Int} (hc : ¬ y < x) (d : decode bytes pc = .ok (.if_icmp .gt o, 3)) (hp : pc + 3 = pc') (K : Goes p e below P T (mkF m pc' Ls (st))) : Goes p e below P T (mkF m pc Ls (.int y :: .int x :: st)) := by
  obtain ⟨⟨hx, hb', -⟩, locs, cells, slots, X, -⟩ := w
  subst hp
  exact K.step fun t q => XS.icmpNo X.here hx rfl (hb hb' d) rfl (flt hc).2.2.1 q
theorem i_icmp_gt (w : Wk p l e R s m args below meth c Z own bytes maxL ret mn n0 h0 ws T h k n) {x y : Int32} {o : Int} {pcY : Nat} (d : decode bytes pc = .ok (.if_icmp .gt o, 3)) (hy : (pc : Int) + o = (pcY : Int)) (hp : pc + 3 = pc') (KY : y < x → Goes p e below P T (mkF m pcY Ls (st))) (KN : ¬ y < x → Goes p e below P T (mkF m pc' Ls (st))) : Goes p e below P T (mkF m pc Ls (.int y :: .int x :: st)) :=
  Decidable.byCases (fun hc : y < x => i_icmp_gt_Y w hc d hy (KY hc)) (fun hc => i_icmp_gt_N w (hc) d hp (KN (hc)))
theorem i_if_gt_Y (w : Wk p l e R s m args below meth c Z own bytes maxL ret mn n0 h0 ws T h k n) {x : Int32} {o : Int} (hc : 0 < x) (d : decode bytes pc = .ok (.ifCond .gt o, 3)) (hp : (pc : Int) + o = (pc' : Int)) (K : Goes p e below P T (mkF m pc' Ls (st))) : Goes p e below P T (mkF m pc Ls (.int x :: st)) := by
  obtain ⟨⟨hx, hb', -⟩, locs, cells, slots, X, -⟩ := w
  exact K.step fun t q => XS.ifYes X.here hx rfl (pc0 := pc) (pc' := pc') rfl (hb hb' d) rfl ((if0 _ _).trans (tlt hc).2.2.1) (by omega) (by omega) q
theorem i_if_gt_N (w : Wk p l e R s m args below meth c Z own bytes maxL ret mn n0 h0 ws T h k n) {x : Int32} {o : Int} (hc : ¬ 0 < x) (d : decode bytes pc = .ok (.ifCond .gt o, 3)) (hp : pc + 3 = pc') (K : Goes p e below P T (mkF m pc' Ls (st))) : Goes p e below P T (mkF m pc Ls (.int x :: st)) := by
  obtain ⟨⟨hx, hb', -⟩, locs, cells, slots, X, -⟩ := w
  subst hp
  exact K.step fun t q => XS.ifNo X.here hx rfl (hb hb' d) rfl ((if0 _ _).trans (flt hc).2.2.1) q
theorem i_if_gt (w : Wk p l e R s m args below meth c Z own bytes maxL ret mn n0 h0 ws T h k n) {x : Int32} {o : Int} {pcY : Nat} (d : decode bytes pc = .ok (.ifCond .gt o, 3)) (hy : (pc : Int) + o = (pcY : Int)) (hp : pc + 3 = pc') (KY : 0 < x → Goes p e below P T (mkF m pcY Ls (st))) (KN : ¬ 0 < x → Goes p e below P T (mkF m pc' Ls (st))) : Goes p e below P T (mkF m pc Ls (.int x :: st)) :=
  Decidable.byCases (fun hc : 0 < x => i_if_gt_Y w hc d hy (KY hc)) (fun hc => i_if_gt_N w (hc) d hp (KN (hc)))
theorem i_icmp_le_Y (w : Wk p l e R s m args below meth c Z own bytes maxL ret mn n0 h0 ws T h k n) {x y : Int32} {o : Int} (hc : ¬ y < x) (d : decode bytes pc = .ok (.if_icmp .le o, 3)) (hp : (pc : Int) + o = (pc' : Int)) (K : Goes p e below P T (mkF m pc' Ls (st))) : Goes p e below P T (mkF m pc Ls (.int y :: .int x :: st)) := by
  obtain ⟨⟨hx, hb', -⟩, locs, cells, slots, X, -⟩ := w
  exact K.step fun t q => XS.icmpYes X.here hx rfl (pc0 := pc) (pc' := pc') rfl (hb hb' d) rfl (flt hc).2.2.2 (by omega) (by omega) q
theorem i_icmp_le_N (w : Wk p l e R s m args below meth c Z own bytes maxL ret mn n0 h0 ws T h k n) {x y : Int32} {o : Int} (hc : y < x) (d : decode bytes pc = .ok (.if_icmp .le o, 3)) (hp : pc + 3 = pc') (K : Goes p e below P T (mkF m pc' Ls (st))) : Goes p e below P T (mkF m pc Ls (.int y :: .int x :: st)) := by
  obtain ⟨⟨hx, hb', -⟩, locs, cells, slots, X, -⟩ := w
  subst hp
  exact K.step fun t q => XS.icmpNo X.here hx rfl (hb hb' d) rfl (tlt hc).2.2.2 q
theorem i_icmp_le (w : Wk p l e R s m args below meth c Z own bytes maxL ret mn n0 h0 ws T h k n) {x y : Int32} {o : Int} {pcY : Nat} (d : decode bytes pc = .ok (.if_icmp .le o, 3)) (hy : (pc : Int) + o = (pcY : Int)) (hp : pc + 3 = pc') (KY : ¬ y < x → Goes p e below P T (mkF m pcY Ls (st))) (KN : y < x → Goes p e below P T (mkF m pc' Ls (st))) : Goes p e below P T (mkF m pc Ls (.int y :: .int x :: st)) :=
  Decidable.byCases (fun hc : ¬ y < x => i_icmp_le_Y w hc d hy (KY hc)) (fun hc => i_icmp_le_N w (Decidable.not_not.mp hc) d hp (KN (Decidable.not_not.mp hc)))
theorem i_if_le_Y (w : Wk p l e R s m args below meth c Z own bytes maxL ret mn n0 h0 ws T h k n) {x : Int32} {o : Int} (hc : ¬ 0 < x) (d : decode bytes pc = .ok (.ifCond .le o, 3)) (hp : (pc : Int) + o = (pc' : Int)) (K : Goes p e below P T (mkF m pc' Ls (st))) : Goes p e below P T (mkF m pc Ls (.int x :: st)) := by
  obtain ⟨⟨hx, hb', -⟩, locs, cells, slots, X, -⟩ := w
  exact K.step fun t q => XS.ifYes X.here hx rfl (pc0 := pc) (pc' := pc') rfl (hb hb' d) rfl ((if0 _ _).trans (flt hc).2.2.2) (by omega) (by omega) q
theorem i_if_le_N (w : Wk p l e R s m args below meth c Z own bytes maxL ret mn n0 h0 ws T h k n) {x : Int32} {o : Int} (hc : 0 < x) (d : decode bytes pc = .ok (.ifCond .le o, 3)) (hp : pc + 3 = pc') (K : Goes p e below P T (mkF m pc' Ls (st))) : Goes p e below P T (mkF m pc Ls (.int x :: st)) := by
  obtain ⟨⟨hx, hb', -⟩, locs, cells, slots, X, -⟩ := w
  subst hp
  exact K.step fun t q => XS.ifNo X.here hx rfl (hb hb' d) rfl ((if0 _ _).trans (tlt hc).2.2.2) q
theorem i_if_le (w : Wk p l e R s m args below meth c Z own bytes maxL ret mn n0 h0 ws T h k n) {x : Int32} {o : Int} {pcY : Nat} (d : decode bytes pc = .ok (.ifCond .le o, 3)) (hy : (pc : Int) + o = (pcY : Int)) (hp : pc + 3 = pc') (KY : ¬ 0 < x → Goes p e below P T (mkF m pcY Ls (st))) (KN : 0 < x → Goes p e below P T (mkF m pc' Ls (st))) : Goes p e below P T (mkF m pc Ls (.int x :: st)) :=
  Decidable.byCases (fun hc : ¬ 0 < x => i_if_le_Y w hc d hy (KY hc)) (fun hc => i_if_le_N w (Decidable.not_not.mp hc) d hp (KN (Decidable.not_not.mp hc)))
theorem i_ifnull_Y (w : Wk p l e R s m args below meth c Z own bytes maxL ret mn n0 h0 ws T h k n) {o : Int} {b : Addr} (d : decode bytes pc = .ok (.ifnull o, 3)) (hp : (pc : Int) + o = (pc' : Int)) (K : Goes p e below P T (mkF m pc' Ls (st))) : Goes p e below P T (mkF m pc Ls (.null :: st)) := by
  obtain ⟨⟨hx, hb', -⟩, locs, cells, slots, X, -⟩ := w
  exact K.step fun t q => XS.ifnullYes X.here hx rfl (pc0 := pc) (pc' := pc') rfl (hb hb' d) rfl (by omega) (by omega) q
theorem i_ifnull_N (w : Wk p l e R s m args below meth c Z own bytes maxL ret mn n0 h0 ws T h k n) {o : Int} {b : Addr} (d : decode bytes pc = .ok (.ifnull o, 3)) (hp : pc + 3 = pc') (K : Goes p e below P T (mkF m pc' Ls (st))) : Goes p e below P T (mkF m pc Ls (.ref b :: st)) := by
  obtain ⟨⟨hx, hb', -⟩, locs, cells, slots, X, -⟩ := w
  subst hp
  exact K.step fun t q => XS.ifnullNo X.here hx rfl (hb hb' d) rfl q
theorem i_ifnonnull_Y (w : Wk p l e R s m args below meth c Z own bytes maxL ret mn n0 h0 ws T h k n) {o : Int} {b : Addr} (d : decode bytes pc = .ok (.ifnonnull o, 3)) (hp : (pc : Int) + o = (pc' : Int)) (K : Goes p e below P T (mkF m pc' Ls (st))) : Goes p e below P T (mkF m pc Ls (.ref b :: st)) := by
  obtain ⟨⟨hx, hb', -⟩, locs, cells, slots, X, -⟩ := w
  exact K.step fun t q => XT.ifnonnullYes X.here hx rfl (pc0 := pc) (pc' := pc') rfl (hb hb' d) rfl (by omega) (by omega) q
theorem i_ifnonnull_N (w : Wk p l e R s m args below meth c Z own bytes maxL ret mn n0 h0 ws T h k n) {o : Int} {b : Addr} (d : decode bytes pc = .ok (.ifnonnull o, 3)) (hp : pc + 3 = pc') (K : Goes p e below P T (mkF m pc' Ls (st))) : Goes p e below P T (mkF m pc Ls (.null :: st)) := by
  obtain ⟨⟨hx, hb', -⟩, locs, cells, slots, X, -⟩ := w
  subst hp
  exact K.step fun t q => XT.ifnonnullNo X.here hx rfl (hb hb' d) rfl q
theorem i_acmp_eq_Y (w : Wk p l e R s m args below meth c Z own bytes maxL ret mn n0 h0 ws T h k n) {o : Int} {x y : Value} (hx1 : x.isRef = true) (hy1 : y.isRef = true) (hc : XT.acmp .eq x y = true) (d : decode bytes pc = .ok (.if_acmp .eq o, 3)) (hp : (pc : Int) + o = (pc' : Int)) (K : Goes p e below P T (mkF m pc' Ls (st))) : Goes p e below P T (mkF m pc Ls (y :: x :: st)) := by
  obtain ⟨⟨hx, hb', -⟩, locs, cells, slots, X, -⟩ := w
  exact K.step fun t q => XT.acmpYes X.here hx rfl (pc0 := pc) (pc' := pc') rfl (hb hb' d) rfl hx1 hy1 hc (by omega) (by omega) q
theorem i_acmp_eq_N (w : Wk p l e R s m args below meth c Z own bytes maxL ret mn n0 h0 ws T h k n) {o : Int} {x y : Value} (hx1 : x.isRef = true) (hy1 : y.isRef = true) (hc : XT.acmp .eq x y = false) (d : decode bytes pc = .ok (.if_acmp .eq o, 3)) (hp : pc + 3 = pc') (K : Goes p e below P T (mkF m pc' Ls (st))) : Goes p e below P T (mkF m pc Ls (y :: x :: st)) := by
  obtain ⟨⟨hx, hb', -⟩, locs, cells, slots, X, -⟩ := w
  subst hp
  exact K.step fun t q => XT.acmpNo X.here hx rfl (hb hb' d) rfl hx1 hy1 hc q
theorem i_acmp_ne_Y (w : Wk p l e R s m args below meth c Z own bytes maxL ret mn n0 h0 ws T h k n) {o : Int} {x y : Value} (hx1 : x.isRef = true) (hy1 : y.isRef = true) (hc : XT.acmp .ne x y = true) (d : decode bytes pc = .ok (.if_acmp .ne o, 3)) (hp : (pc : Int) + o = (pc' : Int)) (K : Goes p e below P T (mkF m pc' Ls (st))) : Goes p e below P T (mkF m pc Ls (y :: x :: st)) := by
  obtain ⟨⟨hx, hb', -⟩, locs, cells, slots, X, -⟩ := w
  exact K.step fun t q => XT.acmpYes X.here hx rfl (pc0 := pc) (pc' := pc') rfl (hb hb' d) rfl hx1 hy1 hc (by omega) (by omega) q
theorem i_acmp_ne_N (w : Wk p l e R s m args below meth c Z own bytes maxL ret mn n0 h0 ws T h k n) {o : Int} {x y : Value} (hx1 : x.isRef = true) (hy1 : y.isRef = true) (hc : XT.acmp .ne x y = false) (d : decode bytes pc = .ok (.if_acmp .ne o, 3)) (hp : pc + 3 = pc') (K : Goes p e below P T (mkF m pc' Ls (st))) : Goes p e below P T (mkF m pc Ls (y :: x :: st)) := by
  obtain ⟨⟨hx, hb', -⟩, locs, cells, slots, X, -⟩ := w
  subst hp
  exact K.step fun t q => XT.acmpNo X.here hx rfl (hb hb' d) rfl hx1 hy1 hc q
theorem i_ldcI (w : Wk p l e R s m args below meth c Z own bytes maxL ret mn n0 h0 ws T h k n) {index : Nat} {z : Int32} (w1 : (Cond.constant own index z).before a0 Z = true) (d : decode bytes pc = .ok (.ldc index, 2)) (hp : pc + 2 = pc') (K : Goes p e below P T (mkF m pc' Ls (.int z :: st))) : Goes p e below P T (mkF m pc Ls (st)) := by
  obtain ⟨⟨hx, hb', hml, hZ, hown, -⟩, locs, cells, slots, X, -⟩ := w
  subst hp
  exact K.step fun t q => X.ldcInt hx hown (mvT hZ w1) (g := mkF m pc Ls st) rfl (hb hb' d) t q
theorem i_ldc2 (w : Wk p l e R s m args below meth c Z own bytes maxL ret mn n0 h0 ws T h k n) {index : Nat} {z : Int64} (w1 : (Cond.constantLong own index z).before a0 Z = true) (d : decode bytes pc = .ok (.ldc2_w index, 3)) (hp : pc + 3 = pc') (K : Goes p e below P T (mkF m pc' Ls (.long z :: st))) : Goes p e below P T (mkF m pc Ls (st)) := by
  obtain ⟨⟨hx, hb', hml, hZ, hown, -⟩, locs, cells, slots, X, -⟩ := w
  subst hp
  exact K.step fun t q => X.ldc2Long hx hown (mvT hZ w1) (g := mkF m pc Ls st) rfl (hb hb' d) t q
theorem i_getF (w : Wk p l e R s m args below meth c Z own bytes maxL ret mn n0 h0 ws T h k n) {index : Nat} {O nm ds : String} {a : Addr} {v : Value} (d : decode bytes pc = .ok (.getfield index, 3)) (w1 : (Cond.fieldLink own index O nm ds).before a0 Z = true) (F : Fld Z h a O nm ds v) (hp : pc + 3 = pc') (K : ∀ T', Wk p l e R s m args below meth c Z own bytes maxL ret mn n0 h0 ws T' h k n → Goes p e below P T' (mkF m pc' Ls (v :: st))) : Goes p e below P T (mkF m pc Ls (.ref a :: st)) := by
  obtain ⟨cx, locs, cells, slots, X, e1, r⟩ := w
  obtain ⟨hx, hb', hml, hZ, hown, cr⟩ := id cx
  subst hp
  obtain ⟨T', X', e', stp⟩ := getF X hx hZ hown (host := "") (Or.inl w1) Via.refl e1 F (g := mkF m pc Ls (.ref a :: st)) rfl rfl (hb hb' d)
  exact (K T' ⟨cx, locs, cells, slots, X', e', r⟩).step stp
theorem i_getS (w : Wk p l e R s m args below meth c Z own bytes maxL ret mn n0 h0 ws T h k n) {index : Nat} {O nm ds : String} {v : Value} (d : decode bytes pc = .ok (.getstatic index, 3)) (w1 : (Cond.fieldLink own index O nm ds).before a0 Z = true) (S : Sta Z Z.heap O nm ds v) (hp : pc + 3 = pc') (K : ∀ T', Wk p l e R s m args below meth c Z own bytes maxL ret mn n0 h0 ws T' h k n → Goes p e below P T' (mkF m pc' Ls (v :: st))) : Goes p e below P T (mkF m pc Ls (st)) := by
  have S' := w.sta S
  obtain ⟨cx, locs, cells, slots, X, e1, r⟩ := w
  obtain ⟨hx, hb', hml, hZ, hown, cr⟩ := id cx
  subst hp
  obtain ⟨T', X', e', stp⟩ := getS X hx hZ hown (host := "") w1 Via.refl e1 S' (g := mkF m pc Ls st) rfl (hb hb' d)
  exact (K T' ⟨cx, locs, cells, slots, X', e', r⟩).step stp
theorem i_putF (w : Wk p l e R s m args below meth c Z own bytes maxL ret mn n0 h0 ws T h k n) {index kk : Nat} {O nm ds C : String} {ty : FieldType} {a : Addr} {v old : Value} (d : decode bytes pc = .ok (.putfield index, 3)) (w1 : (Cond.fieldLink own index O nm ds).before a0 Z = true) (F : Fld Z h a O nm ds old) (E : Exa Z h a C)
    (L : (Cond.lays C O nm ds).before a0 Z = true ∨ ((Cond.laysFinal C O nm ds).before a0 Z = true ∧ own = O ∧ mn = "<init>")) (wi : (Cond.instantiable C kk).before a0 Z = true) (hty : parseFieldDescriptor ds = some ty) (hn : narrow ty v = v) (hf : fits ty v = true) (ha : a ∈ ws ∨ h0.size ≤ a) (hp : pc + 3 = pc')
    (K : ∀ T' h', Wk p l e R s m args below meth c Z own bytes maxL ret mn n0 h0 ws T' h' k n → Wr h h' a (Jvm.RoadKit.slotOf Z O nm ds) v → Goes p e below P T' (mkF m pc' Ls (st))) : Goes p e below P T (mkF m pc Ls (v :: .ref a :: st)) := by
  have hna := w.wsn ha
  obtain ⟨cx, locs, cells, slots, X, e1, N, b1, b2, O1, K1⟩ := w
  obtain ⟨hx, hb', hml, hZ, hown, hret, hlk, hmn, cr⟩ := id cx
  subst hp
  obtain ⟨T', h', X', e', W, stp⟩ := putF X hx hZ hown (host := "") (Or.inl w1) Via.refl e1 F E (L.imp id fun q => ⟨q.1, q.2.1, hmn.trans q.2.2⟩) wi hty hn hf (g := mkF m pc Ls (v :: .ref a :: st)) rfl rfl (hb hb' d)
  exact (K T' h' ⟨cx, _, cells, slots, X', e', Fr.snoc X' N hna, b1, b2, O1.wr W hna, K1.wr W ha⟩ W).step stp
theorem i_new (w : Wk p l e R s m args below meth c Z own bytes maxL ret mn n0 h0 ws T h k n) {index sz : Nat} {C : String} (d : decode bytes pc = .ok (.new index, 3)) (w1 : (Cond.classLink own index C).before a0 Z = true) (w2 : (Cond.instantiable C sz).before a0 Z = true) (w3 : (Cond.initialized C).before a0 Z = true) (hc : k + 1 ≤ R.cells) (hs : n + sz ≤ R.slots) (hp : pc + 3 = pc')
    (K : ∀ a T' h', a = h.size → Wk p l e R s m args below meth c Z own bytes maxL ret mn n0 h0 ws T' h' (k + 1) (n + sz) → h0.size ≤ a → Ext h h' → Exa Z h' a C → (∀ {O nm ds : String} {ty : FieldType}, Laid Z a0 C O nm ds → parseFieldDescriptor ds = some ty → Fld Z h' a O nm ds (defaultValue ty)) → Goes p e below P T' (mkF m pc' Ls (.ref a :: st))) : Goes p e below P T (mkF m pc Ls (st)) := by
  obtain ⟨cx, locs, cells, slots, X, e1, N, b1, b2, O1, K1⟩ := w
  obtain ⟨hx, hb', hml, hZ, hown, cr⟩ := id cx
  subst hp
  obtain ⟨T', h', X', e', E, A, D, -, stp⟩ := newO X hx hZ hown w1 w2 w3 e1 (g := mkF m pc Ls st) rfl (hb hb' d) (by omega) (by omega)
  exact (K h.size T' h' rfl ⟨cx, locs, _, _, X', e', N, by omega, by omega, O1.ext E, K1.ext E⟩ K1.1 E A D).step stp
/-- the array at a holds just vs -/
def Ary (Z : State) (h : Heap) (a : Addr) (ca : ClassId) (ty : FieldType) (vs : List Value) : Prop := vs.length < 2147483648 ∧ Arv Z h a ca ty (Int32.ofNat vs.length) vs (defaultValue ty)
theorem Ary.lt {Z : State} {h : Heap} {a : Addr} {ca : ClassId} {ty : FieldType} {vs : List Value} (F : Ary Z h a ca ty vs) : a < h.size := F.2.lt
theorem Ary.ext {Z : State} {h h' : Heap} {a : Addr} {ca : ClassId} {ty : FieldType} {vs : List Value} (E : Ext h h') (F : Ary Z h a ca ty vs) : Ary Z h' a ca ty vs := ⟨F.1, F.2.ext E⟩
theorem Ary.keep {Z : State} {h h' : Heap} {a : Addr} {ca : ClassId} {ty : FieldType} {vs : List Value} {ws : List Addr} (F : Ary Z h a ca ty vs) (K : Keep h h' ws) (q : a ∉ ws) : Ary Z h' a ca ty vs := ⟨F.1, F.2.keep K q⟩
theorem Ary.other {Z : State} {h h' : Heap} {a b : Addr} {ca : ClassId} {ty : FieldType} {vs : List Value} {sl : Nat} {v : Value} (F : Ary Z h b ca ty vs) (W : Wr h h' a sl v) (q : b ≠ a) : Ary Z h' b ca ty vs := ⟨F.1, F.2.other W q⟩
theorem clamp_ofNat {i : Nat} (h : i < 2147483648) : (Int32.ofNat i).toNatClampNeg = i := by
  have e : (Int32.ofNat i).toInt = i := Int32.toInt_ofNat_small h
  show (Int32.ofNat i).toInt.toNat = i
  rw [e]; rfl
theorem nonneg_ofNat {i : Nat} (h : i < 2147483648) : ¬ Int32.ofNat i < 0 := by
  rw [Int32.lt_iff_toInt_lt, Int32.toInt_ofNat_small h]; show ¬ (i : Int) < 0; omega
theorem Ary.in {Z : State} {h : Heap} {a : Addr} {ca : ClassId} {ty : FieldType} {vs : List Value} {i : Nat} {cl : Cell} (hv : vs.length < 2147483648) (S : cl.slots.size = (Int32.ofNat vs.length).toNatClampNeg) (hi : i < vs.length) : ¬ (Int32.ofNat i < 0 ∨ cl.slots.size ≤ (Int32.ofNat i).toNatClampNeg) := by
  rw [S, clamp_ofNat hv, clamp_ofNat (by omega)]
  exact fun q => q.elim (nonneg_ofNat (by omega)) (by omega)
theorem i_newP (w : Wk p l e R s m args below meth c Z own bytes maxL ret mn n0 h0 ws T h k n) {aty : ArrayType} {N : Nat} {z : Int32} (d : decode bytes pc = .ok (.newarray aty, 2)) (w1 : (Cond.arrayClass (newarray.typeOf aty)).before a0 Z = true) (hz : z = Int32.ofNat N) (hN : N ≤ 65536) {cap : Nat} (hcap : N ≤ cap) (hcap' : cap ≤ 65536) (hc : k + 1 ≤ R.cells) (hs : n + cap ≤ R.slots) (hp : pc + 2 = pc')
    (K : ∀ a T' h' ca, a = h.size → Wk p l e R s m args below meth c Z own bytes maxL ret mn n0 h0 ws T' h' (k + 1) (n + cap) → h0.size ≤ a → Ext h h' → Ary Z h' a ca (newarray.typeOf aty) (List.replicate N (defaultValue (newarray.typeOf aty))) → Goes p e below P T' (mkF m pc' Ls (.ref a :: st))) : Goes p e below P T (mkF m pc Ls (.int z :: st)) := by
  obtain ⟨cx, locs, cells, slots, X, e1, N1, b1, b2, O1, K1⟩ := w
  obtain ⟨hx, hb', hml, hZ, hown, cr⟩ := id cx
  subst hp hz
  have cl := clamp_ofNat (i := N) (by omega)
  obtain ⟨T', h', cA, X', e', E, A, stp⟩ := newP X hx hZ w1 e1 (g := mkF m pc Ls (.int (Int32.ofNat N) :: st)) rfl (hb hb' d) rfl (nonneg_ofNat (by omega)) (cap := cap) (by rw [cl]; exact hcap) (by omega) (by omega) (by omega)
  refine (K h.size T' h' cA rfl ⟨cx, locs, _, _, X', e', N1, by omega, by omega, O1.ext E, K1.ext E⟩ K1.1 E ⟨by simp; omega, ?_⟩).step stp
  rw [List.length_replicate]
  exact (Arv.new A (nonneg_ofNat (by omega))).pad (by simpa using pad_rep [] (defaultValue (newarray.typeOf aty)) N)
theorem i_iaload (w : Wk p l e R s m args below meth c Z own bytes maxL ret mn n0 h0 ws T h k n) {a : Addr} {ca : ClassId} {vs : List Value} {i : Nat} {j z : Int32} (d : decode bytes pc = .ok (.iaload, 1)) (A : Ary Z h a ca .int vs) (hj : j = Int32.ofNat i) (hv : vs[i]? = some (.int z)) (hp : pc + 1 = pc') (K : Goes p e below P T (mkF m pc' Ls (.int z :: st))) : Goes p e below P T (mkF m pc Ls (.int j :: .ref a :: st)) := by
  obtain ⟨⟨hx, hb', hml, hZ, cr⟩, locs, cells, slots, X, e1, r⟩ := w
  subst hp hj
  obtain ⟨hl, cl, Ar, q, S, M, H, U⟩ := A
  obtain ⟨hi, hv'⟩ := List.getElem?_eq_some_iff.mp hv
  have hin := Ary.in (Z := Z) (h := h) (a := a) (ca := ca) (ty := .int) hl S hi
  exact K.step fun t q' => X.iaload hx (j := Int32.ofNat i) (v := .int z) (by rw [e1]; exact Ar.1) (State.isArrayOf_alike hZ.alike Ar.2.1) Ar.2.2 hin (Has.at H hin (by rw [clamp_ofNat (by omega), List.getD_eq_getElem?_getD, hv]; rfl)) (g := mkF m pc Ls (.int (Int32.ofNat i) :: .ref a :: st)) rfl rfl (hb hb' d) t q'
theorem i_caload (w : Wk p l e R s m args below meth c Z own bytes maxL ret mn n0 h0 ws T h k n) {a : Addr} {ca : ClassId} {vs : List Value} {i : Nat} {j z : Int32} (d : decode bytes pc = .ok (.caload, 1)) (A : Ary Z h a ca .char vs) (hj : j = Int32.ofNat i) (hv : vs[i]? = some (.int z)) (hp : pc + 1 = pc') (K : Goes p e below P T (mkF m pc' Ls (.int z :: st))) : Goes p e below P T (mkF m pc Ls (.int j :: .ref a :: st)) := by
  obtain ⟨⟨hx, hb', hml, hZ, cr⟩, locs, cells, slots, X, e1, r⟩ := w
  subst hp hj
  obtain ⟨hl, cl, Ar, q, S, M, H, U⟩ := A
  obtain ⟨hi, hv'⟩ := List.getElem?_eq_some_iff.mp hv
  have hin := Ary.in (Z := Z) (h := h) (a := a) (ca := ca) (ty := .char) hl S hi
  exact K.step fun t q' => X.caload hx (j := Int32.ofNat i) (v := .int z) (by rw [e1]; exact Ar.1) (State.isArrayOf_alike hZ.alike Ar.2.1) Ar.2.2 hin (Has.at H hin (by rw [clamp_ofNat (by omega), List.getD_eq_getElem?_getD, hv]; rfl)) (g := mkF m pc Ls (.int (Int32.ofNat i) :: .ref a :: st)) rfl rfl (hb hb' d) t q'
theorem i_baload (w : Wk p l e R s m args below meth c Z own bytes maxL ret mn n0 h0 ws T h k n) {a : Addr} {ca : ClassId} {vs : List Value} {i : Nat} {j z : Int32} (d : decode bytes pc = .ok (.baload, 1)) (A : Ary Z h a ca .byte vs) (hj : j = Int32.ofNat i) (hv : vs[i]? = some (.int z)) (hp : pc + 1 = pc') (K : Goes p e below P T (mkF m pc' Ls (.int z :: st))) : Goes p e below P T (mkF m pc Ls (.int j :: .ref a :: st)) := by
  obtain ⟨⟨hx, hb', hml, hZ, cr⟩, locs, cells, slots, X, e1, r⟩ := w
  subst hp hj
  obtain ⟨hl, cl, Ar, q, S, M, H, U⟩ := A
  obtain ⟨hi, hv'⟩ := List.getElem?_eq_some_iff.mp hv
  have hin := Ary.in (Z := Z) (h := h) (a := a) (ca := ca) (ty := .byte) hl S hi
  exact K.step fun t q' => X.baloadBytes hx (j := Int32.ofNat i) (v := .int z) (by rw [e1]; exact Ar.1) (State.isArrayOf_alike hZ.alike Ar.2.1) Ar.2.2 hin (Has.at H hin (by rw [clamp_ofNat (by omega), List.getD_eq_getElem?_getD, hv]; rfl)) (g := mkF m pc Ls (.int (Int32.ofNat i) :: .ref a :: st)) rfl rfl (hb hb' d) t q'
theorem i_aaload (w : Wk p l e R s m args below meth c Z own bytes maxL ret mn n0 h0 ws T h k n) {a : Addr} {ca : ClassId} {vs : List Value} {i : Nat} {j : Int32} {v : Value} {ty : FieldType} (d : decode bytes pc = .ok (.aaload, 1)) (A : Ary Z h a ca ty vs) (hty : ty.isReference = true) (hj : j = Int32.ofNat i) (hv : vs[i]? = some v) (hp : pc + 1 = pc') (K : Goes p e below P T (mkF m pc' Ls (v :: st))) : Goes p e below P T (mkF m pc Ls (.int j :: .ref a :: st)) := by
  obtain ⟨⟨hx, hb', hml, hZ, cr⟩, locs, cells, slots, X, e1, r⟩ := w
  subst hp hj
  obtain ⟨hl, cl, Ar, q, S, M, H, U⟩ := A
  obtain ⟨hi, hv'⟩ := List.getElem?_eq_some_iff.mp hv
  have hin := Ary.in (Z := Z) (h := h) (a := a) (ca := ca) (ty := ty) hl S hi
  exact K.step fun t q' => X.aaload hx (j := Int32.ofNat i) (v := v) (by rw [e1]; exact Ar.1) (State.isArrayOf_alike hZ.alike Ar.2.1) hty Ar.2.2 hin (Has.at H hin (by rw [clamp_ofNat (by omega), List.getD_eq_getElem?_getD, hv]; rfl)) (g := mkF m pc Ls (.int (Int32.ofNat i) :: .ref a :: st)) rfl rfl (hb hb' d) t q'
theorem i_iastore (w : Wk p l e R s m args below meth c Z own bytes maxL ret mn n0 h0 ws T h k n) {a : Addr} {ca : ClassId} {vs : List Value} {i : Nat} {j x : Int32} (d : decode bytes pc = .ok (.iastore, 1)) (A : Ary Z h a ca .int vs) (hj : j = Int32.ofNat i) (hi : i < vs.length) (ha : a ∈ ws ∨ h0.size ≤ a) (hp : pc + 1 = pc')
    (K : ∀ T' h', Wk p l e R s m args below meth c Z own bytes maxL ret mn n0 h0 ws T' h' k n → Keep h h' [a] → Ary Z h' a ca .int (vs.set i (.int x)) → Goes p e below P T' (mkF m pc' Ls (st))) : Goes p e below P T (mkF m pc Ls (.int x :: .int j :: .ref a :: st)) := by
  have hna := w.wsn ha
  obtain ⟨cx, locs, cells, slots, X, e1, N, b1, b2, O1, K1⟩ := w
  obtain ⟨hx, hb', hml, hZ, cr⟩ := id cx
  subst hp hj
  obtain ⟨hl, cl, Ar, q, S, M, H, U⟩ := A
  have hin := Ary.in (Z := Z) (h := h) (a := a) (ca := ca) (ty := .int) hl S hi
  obtain ⟨T', h', X', e', W, stp⟩ := stI X hx hZ e1 Ar (j := Int32.ofNat i) hin (g := mkF m pc Ls (.int x :: .int (Int32.ofNat i) :: .ref a :: st)) rfl rfl (hb hb' d)
  refine (K T' h' ⟨cx, _, cells, slots, X', e', Fr.snoc X' N hna, b1, b2, O1.wr W hna, K1.wr W ha⟩ (Keep.of_wr W) ⟨by simpa using hl, ?_⟩).step stp
  rw [List.length_set]
  exact Arv.set Ar q S M H U rfl W i (clamp_ofNat (by omega)) hi
theorem i_castore (w : Wk p l e R s m args below meth c Z own bytes maxL ret mn n0 h0 ws T h k n) {a : Addr} {ca : ClassId} {vs : List Value} {i : Nat} {j x : Int32} (d : decode bytes pc = .ok (.castore, 1)) (A : Ary Z h a ca .char vs) (hj : j = Int32.ofNat i) (hi : i < vs.length) (ha : a ∈ ws ∨ h0.size ≤ a) (hp : pc + 1 = pc')
    (K : ∀ T' h', Wk p l e R s m args below meth c Z own bytes maxL ret mn n0 h0 ws T' h' k n → Keep h h' [a] → Ary Z h' a ca .char (vs.set i (.int (nar .char x))) → Goes p e below P T' (mkF m pc' Ls (st))) : Goes p e below P T (mkF m pc Ls (.int x :: .int j :: .ref a :: st)) := by
  have hna := w.wsn ha
  obtain ⟨cx, locs, cells, slots, X, e1, N, b1, b2, O1, K1⟩ := w
  obtain ⟨hx, hb', hml, hZ, cr⟩ := id cx
  subst hp hj
  obtain ⟨hl, cl, Ar, q, S, M, H, U⟩ := A
  have hin := Ary.in (Z := Z) (h := h) (a := a) (ca := ca) (ty := .char) hl S hi
  obtain ⟨T', h', X', e', W, stp⟩ := stC X hx hZ e1 Ar (j := Int32.ofNat i) hin (g := mkF m pc Ls (.int x :: .int (Int32.ofNat i) :: .ref a :: st)) rfl rfl (hb hb' d)
  refine (K T' h' ⟨cx, _, cells, slots, X', e', Fr.snoc X' N hna, b1, b2, O1.wr W hna, K1.wr W ha⟩ (Keep.of_wr W) ⟨by simpa using hl, ?_⟩).step stp
  rw [List.length_set]
  exact Arv.set Ar q S M H U (fits_nar_char x) W i (clamp_ofNat (by omega)) hi
theorem i_bastore (w : Wk p l e R s m args below meth c Z own bytes maxL ret mn n0 h0 ws T h k n) {a : Addr} {ca : ClassId} {vs : List Value} {i : Nat} {j x : Int32} (d : decode bytes pc = .ok (.bastore, 1)) (A : Ary Z h a ca .byte vs) (hj : j = Int32.ofNat i) (hi : i < vs.length) (ha : a ∈ ws ∨ h0.size ≤ a) (hp : pc + 1 = pc')
    (K : ∀ T' h', Wk p l e R s m args below meth c Z own bytes maxL ret mn n0 h0 ws T' h' k n → Keep h h' [a] → Ary Z h' a ca .byte (vs.set i (.int (nar .byte x))) → Goes p e below P T' (mkF m pc' Ls (st))) : Goes p e below P T (mkF m pc Ls (.int x :: .int j :: .ref a :: st)) := by
  have hna := w.wsn ha
  obtain ⟨cx, locs, cells, slots, X, e1, N, b1, b2, O1, K1⟩ := w
  obtain ⟨hx, hb', hml, hZ, cr⟩ := id cx
  subst hp hj
  obtain ⟨hl, cl, Ar, q, S, M, H, U⟩ := A
  have hin := Ary.in (Z := Z) (h := h) (a := a) (ca := ca) (ty := .byte) hl S hi
  obtain ⟨T', h', X', e', W, stp⟩ := stB X hx hZ e1 Ar (j := Int32.ofNat i) hin (g := mkF m pc Ls (.int x :: .int (Int32.ofNat i) :: .ref a :: st)) rfl rfl (hb hb' d)
  refine (K T' h' ⟨cx, _, cells, slots, X', e', Fr.snoc X' N hna, b1, b2, O1.wr W hna, K1.wr W ha⟩ (Keep.of_wr W) ⟨by simpa using hl, ?_⟩).step stp
  rw [List.length_set]
  exact Arv.set Ar q S M H U (fits_nar_byte x) W i (clamp_ofNat (by omega)) hi
theorem i_len (w : Wk p l e R s m args below meth c Z own bytes maxL ret mn n0 h0 ws T h k n) {a : Addr} {ca : ClassId} {vs : List Value} {ty : FieldType} {z : Int32} (d : decode bytes pc = .ok (.arraylength, 1)) (A : Ary Z h a ca ty vs) (hz : Int32.ofNat vs.length = z) (hp : pc + 1 = pc') (K : Goes p e below P T (mkF m pc' Ls (.int z :: st))) : Goes p e below P T (mkF m pc Ls (.ref a :: st)) := by
  obtain ⟨⟨hx, hb', hml, hZ, cr⟩, locs, cells, slots, X, e1, r⟩ := w
  subst hp hz
  obtain ⟨hl, cl, Ar, q, S, M, H, U⟩ := A
  exact K.step fun t q' => X.arraylength hx (by rw [e1]; exact Ar.1) (State.isArrayOf_alike hZ.alike Ar.2.1) (g := mkF m pc Ls (.ref a :: st)) rfl rfl (hb hb' d) t (by rw [len_of S M]; exact q')
theorem i_initO (w : Wk p l e R s m args below meth c Z own bytes maxL ret mn n0 h0 ws T h k n) {index : Nat} {a : Addr} (d : decode bytes pc = .ok (.invokespecial index, 3)) (w1 : (Cond.methodLink own index Lib.objectInit).before a0 Z = true) (w2 : (Cond.instanceMethod Lib.objectInit).before a0 Z = true) (w3 : (Cond.code Lib.objectInit ⟨#[0xb1]⟩ 1 none).before a0 Z = true) (hsz : Ls.size = maxL) (hf : 1 ≤ R.frames) {W : Nat} (hW : (st.map fun v => v.category).sum ≤ W) (hl : W + 12 ≤ R.locals) (hp : pc + 3 = pc')
    (K : ∀ T', Wk p l e R s m args below meth c Z own bytes maxL ret mn n0 h0 ws T' h k n → Goes p e below P T' (mkF m pc' Ls (st))) : Goes p e below P T (mkF m pc Ls (.ref a :: st)) := by
  obtain ⟨cx, locs, cells, slots, X, e1, r⟩ := w
  obtain ⟨hx, hb', hml, hZ, hown, cr⟩ := id cx
  subst hp
  obtain ⟨T', X', e', stp⟩ := initO X hx hZ hown w1 w2 w3 e1 (g := mkF m pc Ls (.ref a :: st)) rfl (hsz.trans hml.symm) rfl (hb hb' d) hf (W := W) (by show 2 * 0 + _ ≤ _; omega) hl
  exact (K T' ⟨cx, locs, cells, slots, X', e', r⟩).step stp
end Steps
/-- the end: narrow -/
def PN (s : State) (n0 : Nat) (h0 : Heap) (ws : List Addr) (Q : Option Value → Heap → Prop) (kc ns : Nat) (o : Outcome) (t : State) : Prop := ∃ v L, o = .returned v ∧ (Q v t.heap ∧ Fr n0 L ∧ Keep h0 t.heap ws) ∧ FrameEnd s o t L kc ns
/-- the end: wide (the walk may have interned) -/
def PW (s : State) (n0 : Nat) (h0 : Heap) (ws : List Addr) (Q : Option Value → Heap → Prop) (kc ns : Nat) (o : Outcome) (t : State) : Prop := ∃ v L, o = .returned v ∧ (Q v t.heap ∧ Fr n0 L ∧ Keep h0 t.heap ws) ∧ ReturnedEndW s o t L kc ns
/-- **A CONTRACT**, narrow -/
def Ctr (l : Launch) (Z : State) (n0 : Nat) (y : MethodName) (bytes : ByteArray) (maxL : Nat) (ret : Option FieldType) (cs : List Jvm.Cond) (rm : Room) (as' : Array Value) (h0 : Heap) (ws : List Addr) (Q : Option Value → Heap → Prop) : Prop :=
  MetFree l y (head1 (Cond.code y bytes maxL ret :: cs) rm) (fun a U => a = as' ∧ Z.Warmed39 U.vm ∧ U.heap = h0) (fun _ _ _ _ _ => True) (fun _ U o U' => PN U n0 h0 ws Q rm.cells rm.slots o U')
def CtrW (l : Launch) (Z : State) (n0 : Nat) (y : MethodName) (bytes : ByteArray) (maxL : Nat) (ret : Option FieldType) (cs : List Jvm.Cond) (rm : Room) (as' : Array Value) (h0 : Heap) (ws : List Addr) (Q : Option Value → Heap → Prop) : Prop :=
  MetFree l y (head1 (Cond.code y bytes maxL ret :: cs) rm) (fun a U => a = as' ∧ Z.Warmed39 U.vm ∧ U.heap = h0) (fun _ _ _ _ _ => True) (fun _ U o U' => PW U n0 h0 ws Q rm.cells rm.slots o U')
section Ends
variable {p : Program} {l : Launch} {e : Env} {R : Room} {s : State} {m : MethodId} {args : Array Value} {below : List Frame} {meth : Method} {c : Code} {Z : State} {own : String} {bytes : ByteArray} {maxL : Nat} {ret : Option FieldType} {mn : String} {n0 : Nat} {h0 : Heap} {ws : List Addr} {T : State} {h : Heap} {k n : Nat} {P : Outcome → State → Prop} {Ls : Array Slot} {st : List Value} {pc pc' : Nat} {a0 : Array Value} {Q : Option Value → Heap → Prop} {kc ns : Nat}
theorem i_retI (w : Wk p l e R s m args below meth c Z own bytes maxL ret mn n0 h0 ws T h k n) {z : Int32} (d : decode bytes pc = .ok (.ireturn, 1)) (hr : ret = some .int) (q : Q (some (.int z)) h) (hk : k ≤ kc) (hn : n ≤ ns) : Goes p e below (PN s n0 h0 ws Q kc ns) T (mkF m pc Ls (.int z :: st)) := by
  obtain ⟨⟨hx, hb', hml, hZ, hown, hret, hlk, cr⟩, locs, cells, slots, X, e1, N, b1, b2, O1, K1⟩ := w
  obtain ⟨fs, hl, hrun, hended, hW, hsame⟩ := X.leave (v := some (.int z)) (fun h => by first | rfl | (rw [hret, hr] at h; cases h)) hlk
  exact ⟨_, _, retOut X hx (t := .int) (i := .ireturn) (hret.trans hr) rfl (Or.inl ⟨rfl, by simp, z, rfl⟩) (hb hb' d) hl, hrun, hended, _, _, rfl, ⟨by show Q _ T.heap; rw [e1]; exact q, N, by show Keep h0 T.heap ws; rw [e1]; exact K1⟩, ⟨_, rfl⟩, hW, hsame.mono (by omega) (by omega)⟩
theorem i_retIW {s0 : State} {vm0 : Vm} (w : Wk p l e R (s0.setVm vm0) m args below meth c Z own bytes maxL ret mn n0 h0 ws T h k n) {k0 : Nat} (hS : s0.Since vm0 k0) (hk0 : k0 ≤ h.size) {z : Int32} (d : decode bytes pc = .ok (.ireturn, 1)) (hr : ret = some .int) (q : Q (some (.int z)) h) (hk : k ≤ kc) (hn : n ≤ ns) : Goes p e below (PW s0 n0 h0 ws Q kc ns) T (mkF m pc Ls (.int z :: st)) := by
  obtain ⟨⟨hx, hb', hml, hZ, hown, hret, hlk, cr⟩, locs, cells, slots, X, e1, N, b1, b2, O1, K1⟩ := w
  obtain ⟨fs, hl, hrun, hended, hE1, hE2, hE3, hE4⟩ := X.leaveW hS (by rw [e1]; exact hk0) (v := some (.int z)) (fun h => by first | rfl | (rw [hret, hr] at h; cases h)) hlk
  exact ⟨_, _, retOut X hx (t := .int) (i := .ireturn) (hret.trans hr) rfl (Or.inl ⟨rfl, by simp, z, rfl⟩) (hb hb' d) hl, hrun, hended, _, _, rfl, ⟨by show Q _ T.heap; rw [e1]; exact q, N, by show Keep h0 T.heap ws; rw [e1]; exact K1⟩, hE1, hE2, hE3, hE4.mono (by omega) (by omega)⟩
theorem i_retN (w : Wk p l e R s m args below meth c Z own bytes maxL ret mn n0 h0 ws T h k n) {z : Int32} {t : FieldType} (d : decode bytes pc = .ok (.ireturn, 1)) (hr : ret = some t) (ht : t = .boolean ∨ t = .byte ∨ t = .char ∨ t = .short) (q : Q (some (.int (nar t z))) h) (hk : k ≤ kc) (hn : n ≤ ns) : Goes p e below (PN s n0 h0 ws Q kc ns) T (mkF m pc Ls (.int z :: st)) := by
  obtain ⟨⟨hx, hb', hml, hZ, hown, hret, hlk, cr⟩, locs, cells, slots, X, e1, N, b1, b2, O1, K1⟩ := w
  obtain ⟨fs, hl, hrun, hended, hW, hsame⟩ := X.leave (v := some (.int (nar t z))) (fun h => by first | rfl | (rw [hret, hr] at h; cases h)) hlk
  exact ⟨_, _, retN X hx (hret.trans hr) ht (hb hb' d) hl, hrun, hended, _, _, rfl, ⟨by show Q _ T.heap; rw [e1]; exact q, N, by show Keep h0 T.heap ws; rw [e1]; exact K1⟩, ⟨_, rfl⟩, hW, hsame.mono (by omega) (by omega)⟩
theorem i_retNW {s0 : State} {vm0 : Vm} (w : Wk p l e R (s0.setVm vm0) m args below meth c Z own bytes maxL ret mn n0 h0 ws T h k n) {k0 : Nat} (hS : s0.Since vm0 k0) (hk0 : k0 ≤ h.size) {z : Int32} {t : FieldType} (d : decode bytes pc = .ok (.ireturn, 1)) (hr : ret = some t) (ht : t = .boolean ∨ t = .byte ∨ t = .char ∨ t = .short) (q : Q (some (.int (nar t z))) h) (hk : k ≤ kc) (hn : n ≤ ns) : Goes p e below (PW s0 n0 h0 ws Q kc ns) T (mkF m pc Ls (.int z :: st)) := by
  obtain ⟨⟨hx, hb', hml, hZ, hown, hret, hlk, cr⟩, locs, cells, slots, X, e1, N, b1, b2, O1, K1⟩ := w
  obtain ⟨fs, hl, hrun, hended, hE1, hE2, hE3, hE4⟩ := X.leaveW hS (by rw [e1]; exact hk0) (v := some (.int (nar t z))) (fun h => by first | rfl | (rw [hret, hr] at h; cases h)) hlk
  exact ⟨_, _, retN X hx (hret.trans hr) ht (hb hb' d) hl, hrun, hended, _, _, rfl, ⟨by show Q _ T.heap; rw [e1]; exact q, N, by show Keep h0 T.heap ws; rw [e1]; exact K1⟩, hE1, hE2, hE3, hE4.mono (by omega) (by omega)⟩
theorem i_retA (w : Wk p l e R s m args below meth c Z own bytes maxL ret mn n0 h0 ws T h k n) {v : Value} {t : FieldType} (d : decode bytes pc = .ok (.areturn, 1)) (hr : ret = some t) (ht : t.isReference = true) (hv : v.isRef = true) (q : Q (some v) h) (hk : k ≤ kc) (hn : n ≤ ns) : Goes p e below (PN s n0 h0 ws Q kc ns) T (mkF m pc Ls (v :: st)) := by
  obtain ⟨⟨hx, hb', hml, hZ, hown, hret, hlk, cr⟩, locs, cells, slots, X, e1, N, b1, b2, O1, K1⟩ := w
  obtain ⟨fs, hl, hrun, hended, hW, hsame⟩ := X.leave (v := some v) (fun h => by first | rfl | (rw [hret, hr] at h; cases h)) hlk
  exact ⟨_, _, retOut X hx (hret.trans hr) (by cases t <;> cases v <;> simp_all [narrow, Value.isRef]) (Or.inr (Or.inr (Or.inr (Or.inr ⟨rfl, ht, hv⟩)))) (hb hb' d) hl, hrun, hended, _, _, rfl, ⟨by show Q _ T.heap; rw [e1]; exact q, N, by show Keep h0 T.heap ws; rw [e1]; exact K1⟩, ⟨_, rfl⟩, hW, hsame.mono (by omega) (by omega)⟩
theorem i_retAW {s0 : State} {vm0 : Vm} (w : Wk p l e R (s0.setVm vm0) m args below meth c Z own bytes maxL ret mn n0 h0 ws T h k n) {k0 : Nat} (hS : s0.Since vm0 k0) (hk0 : k0 ≤ h.size) {v : Value} {t : FieldType} (d : decode bytes pc = .ok (.areturn, 1)) (hr : ret = some t) (ht : t.isReference = true) (hv : v.isRef = true) (q : Q (some v) h) (hk : k ≤ kc) (hn : n ≤ ns) : Goes p e below (PW s0 n0 h0 ws Q kc ns) T (mkF m pc Ls (v :: st)) := by
  obtain ⟨⟨hx, hb', hml, hZ, hown, hret, hlk, cr⟩, locs, cells, slots, X, e1, N, b1, b2, O1, K1⟩ := w
  obtain ⟨fs, hl, hrun, hended, hE1, hE2, hE3, hE4⟩ := X.leaveW hS (by rw [e1]; exact hk0) (v := some v) (fun h => by first | rfl | (rw [hret, hr] at h; cases h)) hlk
  exact ⟨_, _, retOut X hx (hret.trans hr) (by cases t <;> cases v <;> simp_all [narrow, Value.isRef]) (Or.inr (Or.inr (Or.inr (Or.inr ⟨rfl, ht, hv⟩)))) (hb hb' d) hl, hrun, hended, _, _, rfl, ⟨by show Q _ T.heap; rw [e1]; exact q, N, by show Keep h0 T.heap ws; rw [e1]; exact K1⟩, hE1, hE2, hE3, hE4.mono (by omega) (by omega)⟩
theorem i_ret0 (w : Wk p l e R s m args below meth c Z own bytes maxL ret mn n0 h0 ws T h k n) (d : decode bytes pc = .ok (.return_, 1)) (hr : ret = none) (q : Q (none) h) (hk : k ≤ kc) (hn : n ≤ ns) : Goes p e below (PN s n0 h0 ws Q kc ns) T (mkF m pc Ls ([])) := by
  obtain ⟨⟨hx, hb', hml, hZ, hown, hret, hlk, cr⟩, locs, cells, slots, X, e1, N, b1, b2, O1, K1⟩ := w
  obtain ⟨fs, hl, hrun, hended, hW, hsame⟩ := X.leave (v := none) (fun h => by first | rfl | (rw [hret, hr] at h; cases h)) hlk
  exact ⟨_, _, X.returnOut hx (hret.trans hr) (hb hb' d) hl, hrun, hended, _, _, rfl, ⟨by show Q _ T.heap; rw [e1]; exact q, N, by show Keep h0 T.heap ws; rw [e1]; exact K1⟩, ⟨_, rfl⟩, hW, hsame.mono (by omega) (by omega)⟩
theorem i_ret0W {s0 : State} {vm0 : Vm} (w : Wk p l e R (s0.setVm vm0) m args below meth c Z own bytes maxL ret mn n0 h0 ws T h k n) {k0 : Nat} (hS : s0.Since vm0 k0) (hk0 : k0 ≤ h.size) (d : decode bytes pc = .ok (.return_, 1)) (hr : ret = none) (q : Q (none) h) (hk : k ≤ kc) (hn : n ≤ ns) : Goes p e below (PW s0 n0 h0 ws Q kc ns) T (mkF m pc Ls ([])) := by
  obtain ⟨⟨hx, hb', hml, hZ, hown, hret, hlk, cr⟩, locs, cells, slots, X, e1, N, b1, b2, O1, K1⟩ := w
  obtain ⟨fs, hl, hrun, hended, hE1, hE2, hE3, hE4⟩ := X.leaveW hS (by rw [e1]; exact hk0) (v := none) (fun h => by first | rfl | (rw [hret, hr] at h; cases h)) hlk
  exact ⟨_, _, X.returnOut hx (hret.trans hr) (hb hb' d) hl, hrun, hended, _, _, rfl, ⟨by show Q _ T.heap; rw [e1]; exact q, N, by show Keep h0 T.heap ws; rw [e1]; exact K1⟩, hE1, hE2, hE3, hE4.mono (by omega) (by omega)⟩
end Ends
theorem enter {l : Launch} {Z : State} {n0 : Nat} {y : MethodName} {bytes : ByteArray} {maxL : Nat} {ret : Option FieldType} {cs : List Jvm.Cond} {rm : Room} {as' : Array Value} {h0 : Heap} {ws : List Addr} {Q : Option Value → Heap → Prop} {Ls : Array Slot}
    (pn : plainFor y = true) (ef : ∀ m, entryFrame m as' maxL = mkF m 0 Ls []) (O : Old Z n0 h0) (hws : ∀ x ∈ ws, n0 ≤ x)
    (body : ∀ p e s m below meth c T, Wk p l e rm s m as' below meth c Z y.cls bytes maxL ret y.name n0 h0 ws T h0 0 0 → Goes p e below (PN s n0 h0 ws Q rm.cells rm.slots) T (mkF m 0 Ls [])) :
    Ctr l Z n0 y bytes maxL ret cs rm as' h0 ws Q := by
  refine MetFree.of_bodySF pn hisR ?_
  intro p e s m args below meth c s₁ Bd hml0 hP hK
  obtain ⟨rfl, hZ, hh⟩ := hP
  rw [ef m]
  exact body p e s m below meth c s₁ ⟨⟨Bd.exec, Bd.bytes, hml0, hZ, findClass_of_methodNamed Bd.named, Bd.returns, Bd.notSynchronized, (name_of_methodNamed Bd.named Bd.method).1, hws, Nat.le_trans (Nat.le_of_eq O.1.symm) O.2.1⟩,
    [], 0, 0, Stand.of_body Bd, by rw [← hh, Bd.state]; rfl, Fr.nil n0, Nat.le_refl _, Nat.le_refl _, O, Keep.refl _ _⟩
theorem enterW {l : Launch} {Z : State} {n0 : Nat} {y : MethodName} {bytes : ByteArray} {maxL : Nat} {ret : Option FieldType} {cs : List Jvm.Cond} {rm : Room} {as' : Array Value} {h0 : Heap} {ws : List Addr} {Q : Option Value → Heap → Prop} {Ls : Array Slot}
    (pn : plainFor y = true) (ef : ∀ m, entryFrame m as' maxL = mkF m 0 Ls []) (O : Old Z n0 h0) (hws : ∀ x ∈ ws, n0 ≤ x)
    (body : ∀ p e s m below meth c T, Wk p l e rm (s.setVm s.vm) m as' below meth c Z y.cls bytes maxL ret y.name n0 h0 ws T h0 0 0 → s.Since s.vm h0.size → Goes p e below (PW s n0 h0 ws Q rm.cells rm.slots) T (mkF m 0 Ls [])) :
    CtrW l Z n0 y bytes maxL ret cs rm as' h0 ws Q := by
  refine MetFree.of_bodySF pn hisR ?_
  intro p e s m args below meth c s₁ Bd hml0 hP hK
  obtain ⟨rfl, hZ, hh⟩ := hP
  rw [ef m]
  exact body p e s m below meth c s₁ ⟨⟨Bd.exec, Bd.bytes, hml0, hZ, findClass_of_methodNamed Bd.named, Bd.returns, Bd.notSynchronized, (name_of_methodNamed Bd.named Bd.method).1, hws, Nat.le_trans (Nat.le_of_eq O.1.symm) O.2.1⟩,
    [], 0, 0, Stand.of_body Bd, by rw [← hh, Bd.state]; rfl, Fr.nil n0, Nat.le_refl _, Nat.le_refl _, O, Keep.refl _ _⟩ ⟨State.Warmed39.refl s, fun j p hj hp => absurd (Array.getElem?_eq_some_iff.mp hp).1 (Nat.not_lt.mpr hj)⟩
section Calls
variable {p : Program} {l : Launch} {e : Env} {R : Room} {s : State} {m : MethodId} {args : Array Value} {below : List Frame} {meth : Method} {c : Code} {Z : State} {own : String} {bytes : ByteArray} {maxL : Nat} {ret : Option FieldType} {mn : String} {n0 : Nat} {h0 : Heap} {ws : List Addr} {T : State} {h : Heap} {k n : Nat} {P : Outcome → State → Prop} {Ls : Array Slot} {st : List Value} {pc pc' : Nat} {a0 : Array Value}
theorem c_static (w : Wk p l e R s m args below meth c Z own bytes maxL ret mn n0 h0 ws T h k n) {index : Nat} {y : MethodName} {bytes' : ByteArray} {maxL' : Nat} {ret' : Option FieldType} {rm : Room} {ws' : List Addr} {Q : Option Value → Heap → Prop} {argsL : List Value} {sg : MethodDescriptor} (d : decode bytes pc = .ok (.invokestatic index, 3)) (w1 : (Cond.methodLink own index y).before a0 Z = true) (w2 : (Cond.static y).before a0 Z = true) (w3 : (Cond.initialized y.cls).before a0 Z = true) (w4 : (Cond.code y bytes' maxL' ret').before a0 Z = true) (hy : y.cls ≠ "java/lang/invoke/MethodHandle" ∧ y.cls ≠ "java/lang/invoke/VarHandle") (pd : parseMethodDescriptor y.desc = some sg) (ha : argsL.length = sg.parameters.length)
    (C : Ctr l Z n0 y bytes' maxL' ret' [] rm argsL.toArray h ws' Q) (hsz : Ls.size = maxL) (hf : rm.frames + 1 ≤ R.frames) {W : Nat} (hW : (st.map fun v => v.category).sum ≤ W) (hl : W + (maxL' + 11) + rm.locals ≤ R.locals) (hc : k + rm.cells ≤ R.cells) (hs : n + rm.slots ≤ R.slots) (hws : ∀ x ∈ ws', x ∈ ws ∨ h0.size ≤ x) (hp : pc + 3 = pc') (K : ∀ v T' h', Wk p l e R s m args below meth c Z own bytes maxL ret mn n0 h0 ws T' h' (k + rm.cells) (n + rm.slots) → Keep h h' ws' → Q v h' → Goes p e below P T' (mkF m pc' Ls (v.toList ++ st))) : Goes p e below P T (mkF m pc Ls (argsL.reverse ++ st)) := by
  obtain ⟨cx, locs, cells, slots, X, e1, N, b1, b2, O1, K1⟩ := w
  obtain ⟨hx, hb', hml, hZ, hown, hret, hlk, hmn, hw0, hn0⟩ := id cx
  subst hp
  obtain ⟨_, _, ⟨T', L', k', n'⟩, -, X', ⟨Lc, ⟨q1, N', K'⟩, l1, y1, z1⟩, stp⟩ := Jvm.LawKit.callS X hx (y := y) hown (mvT hZ w1) (mvT hZ w2) (mvT hZ w3) (mvT hZ w4) hy (backOf (W := W) (Q := fun v t L => Q v t ∧ Fr n0 L ∧ Keep h t ws') C hZ w4 w3 hf hl) (g := mkF m pc Ls (argsL.reverse ++ st)) rfl (hsz.trans hml.symm) (argsL := argsL) (rest := st) (fun sig h => by rw [pd] at h; cases h; exact ha) rfl (by show 2 * 0 + _ ≤ _; omega) (hb hb' d) (fun _ _ => ⟨rfl, e1, by show cells + _ ≤ _; omega, by show slots + _ ≤ _; omega⟩)
  dsimp only [Pt.U, Pt.locs, Pt.cells, Pt.slots] at X' l1 y1 z1 stp q1 K'
  subst l1 y1 z1
  refine (K _ T' T'.heap ⟨cx, _, _, _, X', rfl, Fr.app N N', by omega, by omega, O1.keep K' (fun x hx => (hws x hx).elim (hw0 x) (Nat.le_trans hn0)), K1.trans K' hws⟩ K' q1).step stp
theorem c_special (w : Wk p l e R s m args below meth c Z own bytes maxL ret mn n0 h0 ws T h k n) {index : Nat} {y : MethodName} {bytes' : ByteArray} {maxL' : Nat} {rm : Room} {ws' : List Addr} {Q : Option Value → Heap → Prop} {argsL : List Value} {a : Addr} {sg : MethodDescriptor} (d : decode bytes pc = .ok (.invokespecial index, 3)) (hi : y.name = "<init>") (w1 : (Cond.methodLink own index y).before a0 Z = true) (w2 : (Cond.instanceMethod y).before a0 Z = true) (w3 : (Cond.initialized y.cls).before a0 Z = true) (w4 : (Cond.code y bytes' maxL' none).before a0 Z = true) (hy : y.cls ≠ "java/lang/invoke/MethodHandle" ∧ y.cls ≠ "java/lang/invoke/VarHandle") (pd : parseMethodDescriptor y.desc = some sg) (ha : argsL.length = sg.parameters.length)
    (C : Ctr l Z n0 y bytes' maxL' none [] rm (.ref a :: argsL).toArray h ws' Q) (hsz : Ls.size = maxL) (hf : rm.frames + 1 ≤ R.frames) {W : Nat} (hW : (st.map fun v => v.category).sum ≤ W) (hl : W + (maxL' + 11) + rm.locals ≤ R.locals) (hc : k + rm.cells ≤ R.cells) (hs : n + rm.slots ≤ R.slots) (hws : ∀ x ∈ ws', x ∈ ws ∨ h0.size ≤ x) (hp : pc + 3 = pc') (K : ∀ v T' h', Wk p l e R s m args below meth c Z own bytes maxL ret mn n0 h0 ws T' h' (k + rm.cells) (n + rm.slots) → Keep h h' ws' → Q v h' → Goes p e below P T' (mkF m pc' Ls (v.toList ++ st))) : Goes p e below P T (mkF m pc Ls (argsL.reverse ++ .ref a :: st)) := by
  obtain ⟨cx, locs, cells, slots, X, e1, N, b1, b2, O1, K1⟩ := w
  obtain ⟨hx, hb', hml, hZ, hown, hret, hlk, hmn, hw0, hn0⟩ := id cx
  subst hp
  obtain ⟨_, _, ⟨T', L', k', n'⟩, -, X', ⟨Lc, ⟨q1, N', K'⟩, l1, y1, z1⟩, stp⟩ := X.specialBack hx (y := y) hi hown (mvT hZ w1) (mvT hZ w2) (mvT hZ w4) hy (backOf (W := W) (Q := fun v t L => Q v t ∧ Fr n0 L ∧ Keep h t ws') C hZ w4 w3 hf hl) (g := mkF m pc Ls (argsL.reverse ++ .ref a :: st)) rfl (hsz.trans hml.symm) (Steps.refl _) (a := a) (argsL := argsL) (rest := st) (fun sig h => by rw [pd] at h; cases h; exact ha) rfl (by show 2 * 0 + _ ≤ _; omega) (hb hb' d) (fun _ _ => ⟨rfl, e1, by show cells + _ ≤ _; omega, by show slots + _ ≤ _; omega⟩)
  dsimp only [Pt.U, Pt.locs, Pt.cells, Pt.slots] at X' l1 y1 z1 stp q1 K'
  subst l1 y1 z1
  refine (K _ T' T'.heap ⟨cx, _, _, _, X', rfl, Fr.app N N', by omega, by omega, O1.keep K' (fun x hx => (hws x hx).elim (hw0 x) (Nat.le_trans hn0)), K1.trans K' hws⟩ K' q1).step (fun t q => stp.trans q)
theorem c_virtual (w : Wk p l e R s m args below meth c Z own bytes maxL ret mn n0 h0 ws T h k n) {index : Nat} {C : String} {y : MethodName} {bytes' : ByteArray} {maxL' : Nat} {ret' : Option FieldType} {rm : Room} {ws' : List Addr} {Q : Option Value → Heap → Prop} {argsL : List Value} {a : Addr} {sg : MethodDescriptor} (d : decode bytes pc = .ok (.invokevirtual index, 3)) (w1 : (Cond.methodLink own index y).before a0 Z = true) (w2 : (Cond.declares y).before a0 Z = true) (w3 : (Cond.selects C y y).before a0 Z = true) (w4 : (Cond.instanceMethod y).before a0 Z = true) (w5 : (Cond.code y bytes' maxL' ret').before a0 Z = true) (w6 : (Cond.initialized y.cls).before a0 Z = true) (hy : y.cls ≠ "java/lang/invoke/MethodHandle" ∧ y.cls ≠ "java/lang/invoke/VarHandle") (pd : parseMethodDescriptor y.desc = some sg) (ha : argsL.length = sg.parameters.length) (E : Exa Z h a C)
    (C' : Ctr l Z n0 y bytes' maxL' ret' [] rm (.ref a :: argsL).toArray h ws' Q) (hsz : Ls.size = maxL) (hf : rm.frames + 1 ≤ R.frames) {W : Nat} (hW : (st.map fun v => v.category).sum ≤ W) (hl : W + (maxL' + 11) + rm.locals ≤ R.locals) (hc : k + rm.cells ≤ R.cells) (hs : n + rm.slots ≤ R.slots) (hws : ∀ x ∈ ws', x ∈ ws ∨ h0.size ≤ x) (hp : pc + 3 = pc') (K : ∀ v T' h', Wk p l e R s m args below meth c Z own bytes maxL ret mn n0 h0 ws T' h' (k + rm.cells) (n + rm.slots) → Keep h h' ws' → Q v h' → Goes p e below P T' (mkF m pc' Ls (v.toList ++ st))) : Goes p e below P T (mkF m pc Ls (argsL.reverse ++ .ref a :: st)) := by
  obtain ⟨cx, locs, cells, slots, X, e1, N, b1, b2, O1, K1⟩ := w
  obtain ⟨hx, hb', hml, hZ, hown, hret, hlk, hmn, hw0, hn0⟩ := id cx
  subst hp
  obtain ⟨cq, kq, qa, qb, qc⟩ := isOf (T := T) hZ e1 E
  obtain ⟨_, _, ⟨T', L', k', n'⟩, -, X', ⟨Lc, ⟨q1, N', K'⟩, l1, y1, z1⟩, stp⟩ := X.virtualBack hx (y := y) (z := y) hown (mvT hZ w1) (mvT hZ w2) (notFace_of_selects (args := #[]) (mvT hZ w3)) (mvT hZ w3) (mvT hZ w4) hy (backOf (W := W) (Q := fun v t L => Q v t ∧ Fr n0 L ∧ Keep h t ws') C' hZ w5 w6 hf hl) qa qc (g := mkF m pc Ls (argsL.reverse ++ .ref a :: st)) rfl (hsz.trans hml.symm) (Steps.refl _) (argsL := argsL) (rest := st) (fun sig h => by rw [pd] at h; cases h; exact ha) rfl (by show 2 * 0 + _ ≤ _; omega) (hb hb' d) (fun _ _ => ⟨rfl, e1, by show cells + _ ≤ _; omega, by show slots + _ ≤ _; omega⟩)
  dsimp only [Pt.U, Pt.locs, Pt.cells, Pt.slots] at X' l1 y1 z1 stp q1 K'
  subst l1 y1 z1
  refine (K _ T' T'.heap ⟨cx, _, _, _, X', rfl, Fr.app N N', by omega, by omega, O1.keep K' (fun x hx => (hws x hx).elim (hw0 x) (Nat.le_trans hn0)), K1.trans K' hws⟩ K' q1).step (fun t q => stp.trans q)
/-- a payer in this kit's shape -/
def Pays (l : Launch) (R : Room) (p : Program) (e : Env) (below : List Frame) (s : State) (args : Array Value) (y : MethodName) (W : Nat) (as' : Array Value) (n0 : Nat) (h : Heap) (kc ns : Nat) (ws' : List Addr) (Q : Option Value → Heap → Prop) : Prop :=
  Back l R p e below s args y 3 W (fun A a => a = as' ∧ A.U.heap = h ∧ A.cells + kc ≤ R.cells ∧ A.slots + ns ≤ R.slots) (fun A _ v B => ∃ L, (Q v B.U.heap ∧ Fr n0 L ∧ Keep h B.U.heap ws') ∧ B.locs = A.locs ++ L ∧ B.cells = A.cells + kc ∧ B.slots = A.slots + ns)
theorem b_special (w : Wk p l e R s m args below meth c Z own bytes maxL ret mn n0 h0 ws T h k n) {index : Nat} {y : MethodName} {W : Nat} {kc ns : Nat} {ws' : List Addr} {Q : Option Value → Heap → Prop} {bytes' : ByteArray} {maxL' : Nat} {argsL : List Value} {a : Addr} {sg : MethodDescriptor} (d : decode bytes pc = .ok (.invokespecial index, 3)) (hi : y.name = "<init>") (w1 : (Cond.methodLink own index y).before a0 Z = true) (w2 : (Cond.instanceMethod y).before a0 Z = true) (w4 : (Cond.code y bytes' maxL' none).before a0 Z = true) (hy : y.cls ≠ "java/lang/invoke/MethodHandle" ∧ y.cls ≠ "java/lang/invoke/VarHandle") (pd : parseMethodDescriptor y.desc = some sg) (ha : argsL.length = sg.parameters.length)
    (C : Pays l R p e below s args y W (.ref a :: argsL).toArray n0 h kc ns ws' Q) (hsz : Ls.size = maxL) (hW : (st.map fun v => v.category).sum ≤ W) (hc : k + kc ≤ R.cells) (hs : n + ns ≤ R.slots) (hws : ∀ x ∈ ws', x ∈ ws ∨ h0.size ≤ x) (hp : pc + 3 = pc') (K : ∀ v T' h', Wk p l e R s m args below meth c Z own bytes maxL ret mn n0 h0 ws T' h' (k + kc) (n + ns) → Keep h h' ws' → Q v h' → Goes p e below P T' (mkF m pc' Ls (v.toList ++ st))) : Goes p e below P T (mkF m pc Ls (argsL.reverse ++ .ref a :: st)) := by
  obtain ⟨cx, locs, cells, slots, X, e1, N, b1, b2, O1, K1⟩ := w
  obtain ⟨hx, hb', hml, hZ, hown, hret, hlk, hmn, hw0, hn0⟩ := id cx
  subst hp
  obtain ⟨_, _, ⟨T', L', k', n'⟩, -, X', ⟨Lc, ⟨q1, N', K'⟩, l1, y1, z1⟩, stp⟩ := X.specialBack hx (y := y) hi hown (mvT hZ w1) (mvT hZ w2) (mvT hZ w4) hy C (g := mkF m pc Ls (argsL.reverse ++ .ref a :: st)) rfl (hsz.trans hml.symm) (Steps.refl _) (a := a) (argsL := argsL) (rest := st) (fun sig h => by rw [pd] at h; cases h; exact ha) rfl (by show 2 * 0 + _ ≤ _; omega) (hb hb' d) (fun _ _ => ⟨rfl, e1, by show cells + _ ≤ _; omega, by show slots + _ ≤ _; omega⟩)
  dsimp only [Pt.U, Pt.locs, Pt.cells, Pt.slots] at X' l1 y1 z1 stp q1 K'
  subst l1 y1 z1
  refine (K _ T' T'.heap ⟨cx, _, _, _, X', rfl, Fr.app N N', by omega, by omega, O1.keep K' (fun x hx => (hws x hx).elim (hw0 x) (Nat.le_trans hn0)), K1.trans K' hws⟩ K' q1).step (fun t q => stp.trans q)
theorem b_virtual (w : Wk p l e R s m args below meth c Z own bytes maxL ret mn n0 h0 ws T h k n) {index : Nat} {C : String} {y : MethodName} {W : Nat} {kc ns : Nat} {ws' : List Addr} {Q : Option Value → Heap → Prop} {argsL : List Value} {a : Addr} {sg : MethodDescriptor} (d : decode bytes pc = .ok (.invokevirtual index, 3)) (w1 : (Cond.methodLink own index y).before a0 Z = true) (w2 : (Cond.declares y).before a0 Z = true) (w3 : (Cond.selects C y y).before a0 Z = true) (w4 : (Cond.instanceMethod y).before a0 Z = true) (hy : y.cls ≠ "java/lang/invoke/MethodHandle" ∧ y.cls ≠ "java/lang/invoke/VarHandle") (pd : parseMethodDescriptor y.desc = some sg) (ha : argsL.length = sg.parameters.length) (E : Exa Z h a C)
    (C' : Pays l R p e below s args y W (.ref a :: argsL).toArray n0 h kc ns ws' Q) (hsz : Ls.size = maxL) (hW : (st.map fun v => v.category).sum ≤ W) (hc : k + kc ≤ R.cells) (hs : n + ns ≤ R.slots) (hws : ∀ x ∈ ws', x ∈ ws ∨ h0.size ≤ x) (hp : pc + 3 = pc') (K : ∀ v T' h', Wk p l e R s m args below meth c Z own bytes maxL ret mn n0 h0 ws T' h' (k + kc) (n + ns) → Keep h h' ws' → Q v h' → Goes p e below P T' (mkF m pc' Ls (v.toList ++ st))) : Goes p e below P T (mkF m pc Ls (argsL.reverse ++ .ref a :: st)) := by
  obtain ⟨cx, locs, cells, slots, X, e1, N, b1, b2, O1, K1⟩ := w
  obtain ⟨hx, hb', hml, hZ, hown, hret, hlk, hmn, hw0, hn0⟩ := id cx
  subst hp
  obtain ⟨cq, kq, qa, qb, qc⟩ := isOf (T := T) hZ e1 E
  obtain ⟨_, _, ⟨T', L', k', n'⟩, -, X', ⟨Lc, ⟨q1, N', K'⟩, l1, y1, z1⟩, stp⟩ := X.virtualBack hx (y := y) (z := y) hown (mvT hZ w1) (mvT hZ w2) (notFace_of_selects (args := #[]) (mvT hZ w3)) (mvT hZ w3) (mvT hZ w4) hy C' qa qc (g := mkF m pc Ls (argsL.reverse ++ .ref a :: st)) rfl (hsz.trans hml.symm) (Steps.refl _) (argsL := argsL) (rest := st) (fun sig h => by rw [pd] at h; cases h; exact ha) rfl (by show 2 * 0 + _ ≤ _; omega) (hb hb' d) (fun _ _ => ⟨rfl, e1, by show cells + _ ≤ _; omega, by show slots + _ ≤ _; omega⟩)
  dsimp only [Pt.U, Pt.locs, Pt.cells, Pt.slots] at X' l1 y1 z1 stp q1 K'
  subst l1 y1 z1
  refine (K _ T' T'.heap ⟨cx, _, _, _, X', rfl, Fr.app N N', by omega, by omega, O1.keep K' (fun x hx => (hws x hx).elim (hw0 x) (Nat.le_trans hn0)), K1.trans K' hws⟩ K' q1).step (fun t q => stp.trans q)
theorem b_static (w : Wk p l e R s m args below meth c Z own bytes maxL ret mn n0 h0 ws T h k n) {index : Nat} {y : MethodName} {W : Nat} {kc ns : Nat} {ws' : List Addr} {Q : Option Value → Heap → Prop} {bytes' : ByteArray} {maxL' : Nat} {ret' : Option FieldType} {argsL : List Value} {sg : MethodDescriptor} (d : decode bytes pc = .ok (.invokestatic index, 3)) (w1 : (Cond.methodLink own index y).before a0 Z = true) (w2 : (Cond.static y).before a0 Z = true) (w3 : (Cond.initialized y.cls).before a0 Z = true) (w4 : (Cond.code y bytes' maxL' ret').before a0 Z = true) (hy : y.cls ≠ "java/lang/invoke/MethodHandle" ∧ y.cls ≠ "java/lang/invoke/VarHandle") (pd : parseMethodDescriptor y.desc = some sg) (ha : argsL.length = sg.parameters.length)
    (C : Pays l R p e below s args y W argsL.toArray n0 h kc ns ws' Q) (hsz : Ls.size = maxL) (hW : (st.map fun v => v.category).sum ≤ W) (hc : k + kc ≤ R.cells) (hs : n + ns ≤ R.slots) (hws : ∀ x ∈ ws', x ∈ ws ∨ h0.size ≤ x) (hp : pc + 3 = pc') (K : ∀ v T' h', Wk p l e R s m args below meth c Z own bytes maxL ret mn n0 h0 ws T' h' (k + kc) (n + ns) → Keep h h' ws' → Q v h' → Goes p e below P T' (mkF m pc' Ls (v.toList ++ st))) : Goes p e below P T (mkF m pc Ls (argsL.reverse ++ st)) := by
  obtain ⟨cx, locs, cells, slots, X, e1, N, b1, b2, O1, K1⟩ := w
  obtain ⟨hx, hb', hml, hZ, hown, hret, hlk, hmn, hw0, hn0⟩ := id cx
  subst hp
  obtain ⟨_, _, ⟨T', L', k', n'⟩, -, X', ⟨Lc, ⟨q1, N', K'⟩, l1, y1, z1⟩, stp⟩ := Jvm.LawKit.callS X hx (y := y) hown (mvT hZ w1) (mvT hZ w2) (mvT hZ w3) (mvT hZ w4) hy C (g := mkF m pc Ls (argsL.reverse ++ st)) rfl (hsz.trans hml.symm) (argsL := argsL) (rest := st) (fun sig h => by rw [pd] at h; cases h; exact ha) rfl (by show 2 * 0 + _ ≤ _; omega) (hb hb' d) (fun _ _ => ⟨rfl, e1, by show cells + _ ≤ _; omega, by show slots + _ ≤ _; omega⟩)
  dsimp only [Pt.U, Pt.locs, Pt.cells, Pt.slots] at X' l1 y1 z1 stp q1 K'
  subst l1 y1 z1
  refine (K _ T' T'.heap ⟨cx, _, _, _, X', rfl, Fr.app N N', by omega, by omega, O1.keep K' (fun x hx => (hws x hx).elim (hw0 x) (Nat.le_trans hn0)), K1.trans K' hws⟩ K' q1).step stp
theorem c_staticW {s0 : State} {vm0 : Vm} (w : Wk p l e R (s0.setVm vm0) m args below meth c Z own bytes maxL ret mn n0 h0 ws T h k n) {k0 : Nat} (hS : s0.Since vm0 k0) (hk0 : k0 ≤ h.size) {index : Nat} {y : MethodName} {bytes' : ByteArray} {maxL' : Nat} {ret' : Option FieldType} {rm : Room} {ws' : List Addr} {Q : Option Value → Heap → Prop} {argsL : List Value} {sg : MethodDescriptor} (d : decode bytes pc = .ok (.invokestatic index, 3)) (w1 : (Cond.methodLink own index y).before a0 Z = true) (w2 : (Cond.static y).before a0 Z = true) (w3 : (Cond.initialized y.cls).before a0 Z = true) (w4 : (Cond.code y bytes' maxL' ret').before a0 Z = true) (hy : y.cls ≠ "java/lang/invoke/MethodHandle" ∧ y.cls ≠ "java/lang/invoke/VarHandle") (pd : parseMethodDescriptor y.desc = some sg) (ha : argsL.length = sg.parameters.length)
    (C : CtrW l Z n0 y bytes' maxL' ret' [] rm argsL.toArray h ws' Q) (hsz : Ls.size = maxL) (hf : rm.frames + 1 ≤ R.frames) {W : Nat} (hW : (st.map fun v => v.category).sum ≤ W) (hl : W + (maxL' + 11) + rm.locals ≤ R.locals) (hc : k + rm.cells ≤ R.cells) (hs : n + rm.slots ≤ R.slots) (hws : ∀ x ∈ ws', x ∈ ws ∨ h0.size ≤ x) (hp : pc + 3 = pc') (K : ∀ v T' h' vm1, Wk p l e R (s0.setVm vm1) m args below meth c Z own bytes maxL ret mn n0 h0 ws T' h' (k + rm.cells) (n + rm.slots) → s0.Since vm1 h'.size → Keep h h' ws' → Q v h' → Goes p e below P T' (mkF m pc' Ls (v.toList ++ st))) : Goes p e below P T (mkF m pc Ls (argsL.reverse ++ st)) := by
  obtain ⟨cx, locs, cells, slots, X, e1, N, b1, b2, O1, K1⟩ := w
  obtain ⟨hx, hb', hml, hZ, hown, hret, hlk, hmn, hw0, hn0⟩ := id cx
  subst hp
  obtain ⟨_, _, ⟨T', L', k', n'⟩, -, X', hS', hgr, ⟨Lc, ⟨q1, N', K'⟩, l1, y1, z1⟩, stp⟩ := callSS X hx (y := y) hown (mvT hZ w1) (mvT hZ w2) (mvT hZ w3) (mvT hZ w4) hy (backOfS (W := W) (Q := fun v t L => Q v t ∧ Fr n0 L ∧ Keep h t ws') C hZ w4 w3 hf hl) (g := mkF m pc Ls (argsL.reverse ++ st)) rfl (hsz.trans hml.symm) (argsL := argsL) (rest := st) (fun sig h => by rw [pd] at h; cases h; exact ha) rfl (by show 2 * 0 + _ ≤ _; omega) (hb hb' d) (fun _ _ => ⟨rfl, e1, by show cells + _ ≤ _; omega, by show slots + _ ≤ _; omega⟩)
  dsimp only [Pt.U, Pt.locs, Pt.cells, Pt.slots] at X' hS' hgr l1 y1 z1 stp q1 K'
  subst l1 y1 z1
  have hS2 : s0.Since T'.vm T'.heap.size := hS.trans hS' (Nat.le_trans hk0 (by rw [← e1]; exact hgr))
  refine (K _ T' T'.heap T'.vm ⟨⟨hx, hb', hml, State.Warmed39.trans (t := s0.setVm vm0) hZ hS'.1, by rw [show (s0.setVm T'.vm).vm = T'.vm from rfl, hS'.1.alike.findClass]; exact hown, hret, hlk, hmn, hw0, hn0⟩, _, _, _, X', rfl, Fr.app N N', by omega, by omega, O1.keep K' (fun x hx => (hws x hx).elim (hw0 x) (Nat.le_trans hn0)), K1.trans K' hws⟩ hS2 K' q1).step (fun t q => stp.trans q)
theorem c_virtualW {s0 : State} {vm0 : Vm} (w : Wk p l e R (s0.setVm vm0) m args below meth c Z own bytes maxL ret mn n0 h0 ws T h k n) {k0 : Nat} (hS : s0.Since vm0 k0) (hk0 : k0 ≤ h.size) {index : Nat} {C : String} {y : MethodName} {bytes' : ByteArray} {maxL' : Nat} {ret' : Option FieldType} {rm : Room} {ws' : List Addr} {Q : Option Value → Heap → Prop} {argsL : List Value} {a : Addr} {sg : MethodDescriptor} (d : decode bytes pc = .ok (.invokevirtual index, 3)) (w1 : (Cond.methodLink own index y).before a0 Z = true) (w2 : (Cond.declares y).before a0 Z = true) (w3 : (Cond.selects C y y).before a0 Z = true) (w4 : (Cond.instanceMethod y).before a0 Z = true) (w5 : (Cond.code y bytes' maxL' ret').before a0 Z = true) (w6 : (Cond.initialized y.cls).before a0 Z = true) (hy : y.cls ≠ "java/lang/invoke/MethodHandle" ∧ y.cls ≠ "java/lang/invoke/VarHandle") (pd : parseMethodDescriptor y.desc = some sg) (ha : argsL.length = sg.parameters.length) (E : Exa Z h a C)
    (C' : CtrW l Z n0 y bytes' maxL' ret' [] rm (.ref a :: argsL).toArray h ws' Q) (hsz : Ls.size = maxL) (hf : rm.frames + 1 ≤ R.frames) {W : Nat} (hW : (st.map fun v => v.category).sum ≤ W) (hl : W + (maxL' + 11) + rm.locals ≤ R.locals) (hc : k + rm.cells ≤ R.cells) (hs : n + rm.slots ≤ R.slots) (hws : ∀ x ∈ ws', x ∈ ws ∨ h0.size ≤ x) (hp : pc + 3 = pc') (K : ∀ v T' h' vm1, Wk p l e R (s0.setVm vm1) m args below meth c Z own bytes maxL ret mn n0 h0 ws T' h' (k + rm.cells) (n + rm.slots) → s0.Since vm1 h'.size → Keep h h' ws' → Q v h' → Goes p e below P T' (mkF m pc' Ls (v.toList ++ st))) : Goes p e below P T (mkF m pc Ls (argsL.reverse ++ .ref a :: st)) := by
  obtain ⟨cx, locs, cells, slots, X, e1, N, b1, b2, O1, K1⟩ := w
  obtain ⟨hx, hb', hml, hZ, hown, hret, hlk, hmn, hw0, hn0⟩ := id cx
  subst hp
  obtain ⟨cq, kq, qa, qb, qc⟩ := isOf (T := T) hZ e1 E
  obtain ⟨_, _, ⟨T', L', k', n'⟩, -, X', hS', hgr, ⟨Lc, ⟨q1, N', K'⟩, l1, y1, z1⟩, stp⟩ := X.virtualBackS hx (y := y) (z := y) hown (mvT hZ w1) (mvT hZ w2) (notFace_of_selects (args := #[]) (mvT hZ w3)) (mvT hZ w3) (mvT hZ w4) hy (backOfS (W := W) (Q := fun v t L => Q v t ∧ Fr n0 L ∧ Keep h t ws') C' hZ w5 w6 hf hl) qa qc (g := mkF m pc Ls (argsL.reverse ++ .ref a :: st)) rfl (hsz.trans hml.symm) (Steps.refl _) (argsL := argsL) (rest := st) (fun sig h => by rw [pd] at h; cases h; exact ha) rfl (by show 2 * 0 + _ ≤ _; omega) (hb hb' d) (fun _ _ => ⟨rfl, e1, by show cells + _ ≤ _; omega, by show slots + _ ≤ _; omega⟩)
  dsimp only [Pt.U, Pt.locs, Pt.cells, Pt.slots] at X' hS' hgr l1 y1 z1 stp q1 K'
  subst l1 y1 z1
  have hS2 : s0.Since T'.vm T'.heap.size := hS.trans hS' (Nat.le_trans hk0 (by rw [← e1]; exact hgr))
  refine (K _ T' T'.heap T'.vm ⟨⟨hx, hb', hml, State.Warmed39.trans (t := s0.setVm vm0) hZ hS'.1, by rw [show (s0.setVm T'.vm).vm = T'.vm from rfl, hS'.1.alike.findClass]; exact hown, hret, hlk, hmn, hw0, hn0⟩, _, _, _, X', rfl, Fr.app N N', by omega, by omega, O1.keep K' (fun x hx => (hws x hx).elim (hw0 x) (Nat.le_trans hn0)), K1.trans K' hws⟩ hS2 K' q1).step (fun t q => stp.trans q)
theorem c_specialW {s0 : State} {vm0 : Vm} (w : Wk p l e R (s0.setVm vm0) m args below meth c Z own bytes maxL ret mn n0 h0 ws T h k n) {k0 : Nat} (hS : s0.Since vm0 k0) (hk0 : k0 ≤ h.size) {index : Nat} {y : MethodName} {bytes' : ByteArray} {maxL' : Nat} {rm : Room} {ws' : List Addr} {Q : Option Value → Heap → Prop} {argsL : List Value} {a : Addr} {sg : MethodDescriptor} (d : decode bytes pc = .ok (.invokespecial index, 3)) (hi : y.name = "<init>") (w1 : (Cond.methodLink own index y).before a0 Z = true) (w2 : (Cond.instanceMethod y).before a0 Z = true) (w3 : (Cond.initialized y.cls).before a0 Z = true) (w4 : (Cond.code y bytes' maxL' none).before a0 Z = true) (hy : y.cls ≠ "java/lang/invoke/MethodHandle" ∧ y.cls ≠ "java/lang/invoke/VarHandle") (pd : parseMethodDescriptor y.desc = some sg) (ha : argsL.length = sg.parameters.length)
    (C : CtrW l Z n0 y bytes' maxL' none [] rm (.ref a :: argsL).toArray h ws' Q) (hsz : Ls.size = maxL) (hf : rm.frames + 1 ≤ R.frames) {W : Nat} (hW : (st.map fun v => v.category).sum ≤ W) (hl : W + (maxL' + 11) + rm.locals ≤ R.locals) (hc : k + rm.cells ≤ R.cells) (hs : n + rm.slots ≤ R.slots) (hws : ∀ x ∈ ws', x ∈ ws ∨ h0.size ≤ x) (hp : pc + 3 = pc') (K : ∀ v T' h' vm1, Wk p l e R (s0.setVm vm1) m args below meth c Z own bytes maxL ret mn n0 h0 ws T' h' (k + rm.cells) (n + rm.slots) → s0.Since vm1 h'.size → Keep h h' ws' → Q v h' → Goes p e below P T' (mkF m pc' Ls (v.toList ++ st))) : Goes p e below P T (mkF m pc Ls (argsL.reverse ++ .ref a :: st)) := by
  obtain ⟨cx, locs, cells, slots, X, e1, N, b1, b2, O1, K1⟩ := w
  obtain ⟨hx, hb', hml, hZ, hown, hret, hlk, hmn, hw0, hn0⟩ := id cx
  subst hp
  obtain ⟨_, _, ⟨T', L', k', n'⟩, -, X', hS', hgr, ⟨Lc, ⟨q1, N', K'⟩, l1, y1, z1⟩, stp⟩ := X.specialBackS hx (y := y) hi hown (mvT hZ w1) (mvT hZ w2) (mvT hZ w4) hy (backOfS (W := W) (Q := fun v t L => Q v t ∧ Fr n0 L ∧ Keep h t ws') C hZ w4 w3 hf hl) (g := mkF m pc Ls (argsL.reverse ++ .ref a :: st)) rfl (hsz.trans hml.symm) (Steps.refl _) (a := a) (argsL := argsL) (rest := st) (fun sig h => by rw [pd] at h; cases h; exact ha) rfl (by show 2 * 0 + _ ≤ _; omega) (hb hb' d) (fun _ _ => ⟨rfl, e1, by show cells + _ ≤ _; omega, by show slots + _ ≤ _; omega⟩)
  dsimp only [Pt.U, Pt.locs, Pt.cells, Pt.slots] at X' hS' hgr l1 y1 z1 stp q1 K'
  subst l1 y1 z1
  have hS2 : s0.Since T'.vm T'.heap.size := hS.trans hS' (Nat.le_trans hk0 (by rw [← e1]; exact hgr))
  refine (K _ T' T'.heap T'.vm ⟨⟨hx, hb', hml, State.Warmed39.trans (t := s0.setVm vm0) hZ hS'.1, by rw [show (s0.setVm T'.vm).vm = T'.vm from rfl, hS'.1.alike.findClass]; exact hown, hret, hlk, hmn, hw0, hn0⟩, _, _, _, X', rfl, Fr.app N N', by omega, by omega, O1.keep K' (fun x hx => (hws x hx).elim (hw0 x) (Nat.le_trans hn0)), K1.trans K' hws⟩ hS2 K' q1).step (fun t q => stp.trans q)
theorem i_ldcS {s0 : State} {vm0 : Vm} (w : Wk p l e R (s0.setVm vm0) m args below meth c Z own bytes maxL ret mn n0 h0 ws T h k n) {k0 : Nat} (hS : s0.Since vm0 k0) (hk0 : k0 ≤ h.size) {index N : Nat} {text : String} (d : decode bytes pc = .ok (.ldc index, 2)) (w1 : (Cond.stringLink own index text).before a0 Z = true) (wS : ∀ a ∈ Bundle.stringAtoms, a.before a0 Z = true) (hN : 4 * text.toList.length ≤ N) (hbig : N ≤ 536870912) (hc : k + 2 ≤ R.cells) (hs : n + (N + 4) ≤ R.slots) (hp : pc + 2 = pc')
    (K : ∀ a T' h' vm1, Wk p l e R (s0.setVm vm1) m args below meth c Z own bytes maxL ret mn n0 h0 ws T' h' (k + 2) (n + (N + 4)) → s0.Since vm1 h'.size → Ext h h' → Goes p e below P T' (mkF m pc' Ls (.ref a :: st))) : Goes p e below P T (mkF m pc Ls (st)) := by
  obtain ⟨cx, locs, cells, slots, X, e1, N1, b1, b2, O1, K1⟩ := w
  obtain ⟨hx, hb', hml, hZ, hown, cr⟩ := id cx
  subst hp
  obtain ⟨a, T', h', k1, X', e', E, hS', hk1, hZ', hown', stp⟩ := ldcS X hx hZ hown w1 wS e1 hS hk0 (g := mkF m pc Ls st) rfl (hb hb' d) hN hbig (by omega) (by omega)
  exact (K a T' h' T'.vm ⟨⟨hx, hb', hml, hZ', hown', cr⟩, locs, _, _, X', e', N1, by omega, by omega, O1.ext E, K1.ext E⟩ ⟨hS'.1, hS'.2.mono hk1⟩ E).step stp
theorem i_acopy (w : Wk p l e R s m args below meth c Z own bytes maxL ret mn n0 h0 ws T h k n) {index : Nat} {a b : Addr} {ca cb : ClassId} {ty : FieldType} {vs vd : List Value} {sp dp nn : Nat} (d : decode bytes pc = .ok (.invokestatic index, 3)) (w1 : (Cond.methodLink own index Jvm.Stand.acN).before a0 Z = true) (w2 : (Cond.native Jvm.Stand.acN).before a0 Z = true) (w3 : (Cond.static Jvm.Stand.acN).before a0 Z = true) (w4 : (Cond.initialized "java/lang/System").before a0 Z = true)
    (A : Ary Z h a ca ty vs) (B : Ary Z h b cb ty vd) (hty : refKind ty = false) (h4 : sp + nn ≤ vs.length) (h5 : dp + nn ≤ vd.length) (hb : b ∈ ws ∨ h0.size ≤ b) (hsz : Ls.size = maxL) (hf : 1 ≤ R.frames) {W : Nat} (hW : (st.map fun v => v.category).sum ≤ W) (hl : W + 18 ≤ R.locals) (hp : pc + 3 = pc')
    (K : ∀ T' h', Wk p l e R s m args below meth c Z own bytes maxL ret mn n0 h0 ws T' h' k n → Keep h h' [b] → Ary Z h' b cb ty (vd.take dp ++ (vs.drop sp).take nn ++ vd.drop (dp + nn)) → Goes p e below P T' (mkF m pc' Ls (st))) : Goes p e below P T (mkF m pc Ls (.int (Int32.ofNat nn) :: .int (Int32.ofNat dp) :: .ref b :: .int (Int32.ofNat sp) :: .ref a :: st)) := by
  have hna := w.wsn hb
  obtain ⟨cx, locs, cells, slots, X, e1, N, b1, b2, O1, K1⟩ := w
  obtain ⟨hx, hb', hml, hZ, hown, cr⟩ := id cx
  subst hp
  have lA := A.1
  have lB := B.1
  have us : (List.range nn).map (fun i => vs.getD (sp + i) (defaultValue ty)) = (vs.drop sp).take nn := by
    apply List.ext_getElem?
    intro i
    rw [List.getElem?_map, List.getElem?_take]
    by_cases hi : i < nn
    · rw [if_pos hi, List.getElem?_range hi, List.getElem?_drop, List.getElem?_eq_getElem (by omega)]
      simp [List.getD_eq_getElem?_getD, List.getElem?_eq_getElem (show sp + i < vs.length by omega)]
    · rw [if_neg hi, List.getElem?_eq_none (by simp; omega)]; rfl
  obtain ⟨T', h', L, X', e', N', K', B', stp⟩ := cpA X hx hZ hown w1 w2 w3 w4 e1 A.2 B.2 (sp := Int32.ofNat sp) (dp := Int32.ofNat dp) (nn := Int32.ofNat nn) (us := (vs.drop sp).take nn) (Or.inl ⟨rfl, hty⟩) (nonneg_ofNat (by omega)) (nonneg_ofNat (by omega)) (nonneg_ofNat (by omega))
    (by rw [clamp_ofNat (by omega), clamp_ofNat (by omega), clamp_ofNat (by omega)]; exact h4) (by rw [clamp_ofNat (by omega), clamp_ofNat (by omega), clamp_ofNat (by omega)]; exact h5) (by rw [clamp_ofNat (by omega), clamp_ofNat (by omega)]; exact us.symm) (by rw [clamp_ofNat (by omega), clamp_ofNat (by omega)]; exact h5) N hna
    (g := mkF m pc Ls (.int (Int32.ofNat nn) :: .int (Int32.ofNat dp) :: .ref b :: .int (Int32.ofNat sp) :: .ref a :: st)) rfl (hsz.trans hml.symm) rfl (Jvm.hb hb' d) hf (W := W) (by show 2 * 0 + _ ≤ _; omega) (by show W + (nativeFrameWords "java/lang/System" "arraycopy" 5 + 11) ≤ _; exact hl)
  rw [clamp_ofNat (show dp < 2147483648 by omega), clamp_ofNat (show nn < 2147483648 by omega)] at B'
  have ll : (vd.take dp ++ (vs.drop sp).take nn ++ vd.drop (dp + nn)).length = vd.length := by simp; omega
  exact (K T' h' ⟨cx, _, cells, slots, X', e', N', b1, b2, O1.keep K' (allS hna all0), K1.trans K' (allS hb all0)⟩ K' ⟨by rw [ll]; exact lB, by rw [ll]; exact B'⟩).step stp
end Calls
end Jvm.OwnKit
namespace Jvm.OwnKit
open Jvm Jvm.ClassFile Sem Op Lib Jvm.Free Jvm.Stand Jvm.LawKit Jvm.RoadKit
theorem cat1 {v : Value} (h : v.isRef = true) : v.category = 1 := by cases v <;> simp [Value.isRef, Value.category] at h ⊢
theorem toInt_small {k : Nat} (h : k < 2147483648) : (Int32.ofNat k).toInt = k := Int32.toInt_ofNat_small h
theorem nat_of_nonneg {x : Int32} (h : ¬ x < 0) : ∃ k, k < 2147483648 ∧ x = Int32.ofNat k ∧ x.toInt = k := by
  rw [Int32.lt_iff_toInt_lt] at h
  have e0 : (0 : Int32).toInt = 0 := rfl
  have b := x.toInt_lt
  refine ⟨x.toInt.toNat, by omega, ?_, by omega⟩
  apply Int32.toInt_inj.mp
  rw [toInt_small (by omega)]; omega
theorem lt_nat {a b : Nat} (ha : a < 2147483648) (hb : b < 2147483648) : Int32.ofNat a < Int32.ofNat b ↔ a < b := by
  rw [Int32.lt_iff_toInt_lt, toInt_small ha, toInt_small hb]; omega
theorem eq_nat {a b : Nat} (ha : a < 2147483648) (hb : b < 2147483648) : Int32.ofNat a = Int32.ofNat b ↔ a = b := by
  rw [← Int32.toInt_inj, toInt_small ha, toInt_small hb]; omega
theorem tbv (k : Nat) : (Int32.ofNat k).toBitVec = BitVec.ofNat 32 k := rfl
theorem tnat {k : Nat} (h : k < 4294967296) : (Int32.ofNat k).toBitVec.toNat = k := by rw [tbv, BitVec.toNat_ofNat]; omega
theorem i32_ext {x y : Int32} (h : x.toBitVec.toNat = y.toBitVec.toNat) : x = y := Int32.toBitVec_inj.mp (BitVec.eq_of_toNat_eq h)
theorem add_nat (a b : Nat) : Int32.ofNat a + Int32.ofNat b = Int32.ofNat (a + b) := by
  apply i32_ext; rw [Int32.toBitVec_add, BitVec.toNat_add, tbv, tbv, tbv]; simp
theorem sub_nat {a b : Nat} (h : b ≤ a) : Int32.ofNat a - Int32.ofNat b = Int32.ofNat (a - b) := by
  have e : Int32.ofNat a = Int32.ofNat (a - b) + Int32.ofNat b := by rw [add_nat]; congr 1; omega
  rw [e]
  apply Int32.toBitVec_inj.mp
  rw [Int32.toBitVec_sub, Int32.toBitVec_add, BitVec.add_sub_cancel]
theorem and_nat (a b : Nat) : Int32.ofNat a &&& Int32.ofNat b = Int32.ofNat (a &&& b) := by
  apply i32_ext
  rw [Int32.toBitVec_and, BitVec.toNat_and, tbv, tbv, tbv]
  simp [Nat.and_mod_two_pow]
theorem or_nat (a b : Nat) : Int32.ofNat a ||| Int32.ofNat b = Int32.ofNat (a ||| b) := by
  apply i32_ext
  rw [Int32.toBitVec_or, BitVec.toNat_or, tbv, tbv, tbv]
  simp [Nat.or_mod_two_pow]
theorem shl_nat {a j : Nat} (hj : j < 32) : Int32.ofNat a <<< (Int32.ofNat j &&& 31) = Int32.ofNat (a * 2 ^ j) := by
  have e : (Int32.ofNat j &&& 31) = Int32.ofNat j := by
    have q : (31 : Int32) = Int32.ofNat 31 := rfl
    rw [q, and_nat]; congr 1
    have := Nat.and_two_pow_sub_one_eq_mod j 5
    simp at this; rw [this]; omega
  rw [e]
  apply i32_ext
  rw [Int32.toBitVec_shiftLeft]
  have s : ((Int32.ofNat j).toBitVec.smod 32) = BitVec.ofNat 32 j := by
    rw [tbv]
    have t : ∀ k : Fin 32, (BitVec.ofNat 32 k.val).smod 32 = BitVec.ofNat 32 k.val := by decide
    exact t ⟨j, hj⟩
  rw [s, tbv, tbv, BitVec.shiftLeft_eq', BitVec.toNat_shiftLeft, BitVec.toNat_ofNat, BitVec.toNat_ofNat, BitVec.toNat_ofNat, Nat.mod_eq_of_lt (show j < 2 ^ 32 by omega), Nat.shiftLeft_eq, Nat.mod_mul_mod]
theorem shr_nat {a j : Nat} (ha : a < 2147483648) (hj : j < 32) : Int32.ofNat a >>> (Int32.ofNat j &&& 31) = Int32.ofNat (a / 2 ^ j) := by
  have e : (Int32.ofNat j &&& 31) = Int32.ofNat j := by
    have q : (31 : Int32) = Int32.ofNat 31 := rfl
    rw [q, and_nat]; congr 1
    have := Nat.and_two_pow_sub_one_eq_mod j 5
    simp at this; rw [this]; omega
  rw [e]
  apply i32_ext
  rw [Int32.toBitVec_shiftRight]
  have s : ((Int32.ofNat j).toBitVec.smod 32) = BitVec.ofNat 32 j := by
    rw [tbv]
    have t : ∀ k : Fin 32, (BitVec.ofNat 32 k.val).smod 32 = BitVec.ofNat 32 k.val := by decide
    exact t ⟨j, hj⟩
  have hm : (BitVec.ofNat 32 a).toNat = a := by rw [BitVec.toNat_ofNat]; omega
  rw [s, tbv, tbv, BitVec.sshiftRight_eq', BitVec.toNat_ofNat, Nat.mod_eq_of_lt (show j < 2 ^ 32 by omega), BitVec.toNat_sshiftRight_of_msb_false (by rw [BitVec.msb_eq_false_iff_two_mul_lt, hm]; omega), hm, Nat.shiftRight_eq_div_pow, BitVec.toNat_ofNat]
  have : a / 2 ^ j ≤ a := Nat.div_le_self _ _
  exact (Nat.mod_eq_of_lt (by generalize a / 2 ^ j = q at *; omega)).symm
theorem shr_zero (x : Int32) : x >>> ((0 : Int32) &&& 31) = x := by
  have e : ((0 : Int32) &&& 31) = 0 := by decide
  rw [e]
  apply Int32.toBitVec_inj.mp
  rw [Int32.toBitVec_shiftRight]
  have e1 : ((0 : Int32).toBitVec.smod 32) = 0#32 := by decide
  rw [e1, BitVec.sshiftRight_eq']
  exact BitVec.sshiftRight_zero
theorem char_nat (x : Int32) : ∃ k, k < 65536 ∧ nar .char x = Int32.ofNat k := by
  have f := fits_nar_char x
  simp only [fits, Bool.and_eq_true, decide_eq_true_eq] at f
  obtain ⟨f1, f2⟩ := f
  obtain ⟨k, h1, h2, h3⟩ := nat_of_nonneg (Int32.not_lt.mpr f1)
  refine ⟨k, ?_, h2⟩
  rw [Int32.le_iff_toInt_le, h3] at f2
  have e : (65535 : Int32).toInt = 65535 := rfl
  omega
theorem char_of_nat {k : Nat} (h : k < 65536) : nar .char (Int32.ofNat k) = Int32.ofNat k := by
  apply i32_ext
  show BitVec.toNat (((Int32.ofNat k).toBitVec.setWidth 16).setWidth 32) = _
  rw [BitVec.toNat_setWidth, BitVec.toNat_setWidth, tnat (by omega)]; omega
theorem char_idem (x : Int32) : nar .char (nar .char x) = nar .char x := by obtain ⟨k, h, e⟩ := char_nat x; rw [e, char_of_nat h]
theorem and_lt {x : Int32} {j : Nat} (hj : j < 31) : ∃ k, k < 2 ^ j ∧ x &&& Int32.ofNat (2 ^ j - 1) = Int32.ofNat k := by
  refine ⟨x.toBitVec.toNat % 2 ^ j, Nat.mod_lt _ (Nat.two_pow_pos _), ?_⟩
  have hp : 2 ^ j ≤ 2 ^ 31 := Nat.pow_le_pow_right (by omega) (by omega)
  have hm := Nat.mod_lt x.toBitVec.toNat (Nat.two_pow_pos j)
  apply i32_ext
  rw [Int32.toBitVec_and, BitVec.toNat_and, tnat (by omega), tnat (by omega), Nat.and_two_pow_sub_one_eq_mod]
theorem and31 (x : Int32) : ∃ k, k < 2147483648 ∧ x &&& 2147483647 = Int32.ofNat k := by
  refine ⟨x.toBitVec.toNat % 2 ^ 31, Nat.mod_lt _ (Nat.two_pow_pos _), ?_⟩
  have hm := Nat.mod_lt x.toBitVec.toNat (Nat.two_pow_pos 31)
  apply i32_ext
  rw [show (2147483647 : Int32) = Int32.ofNat (2 ^ 31 - 1) from rfl, Int32.toBitVec_and, BitVec.toNat_and, tnat (by omega), tnat (by omega), Nat.and_two_pow_sub_one_eq_mod]
theorem rem_nat {a b : Nat} (ha : a < 2147483648) (hb : b < 2147483648) (h : 0 < b) : Int32.ofNat a % Int32.ofNat b = Int32.ofNat (a % b) := by
  have hm := Nat.mod_lt a h
  apply Int32.toInt_inj.mp
  rw [Int32.toInt_mod, toInt_small ha, toInt_small hb, toInt_small (by omega)]
  rfl
theorem own_sta {s : State} {a0 : Array Value} {C nm d : String} {z : Int32} (w : (Cond.eq (Term.static C nm d) (Term.int z)).before a0 s = true) (wi : (Cond.initializedFor C nm d).before a0 s = true) : Sta s s.heap C nm d (.int z) := by
  have w' := Cond.before_iff.mp w
  obtain ⟨x, y, e1, e2, k1, k2⟩ := cmp_v (Or.inl w')
  cases (Term.int_eval z).symm.trans e2
  obtain ⟨z', rfl⟩ := k2
  have := gotT (Cond.eq_ints e1 (Term.int_eval z)) w'
  subst this
  exact Sta.start e1 (Or.inl wi)
/-- the byte of a char's code, as the array holds it -/
def bv (k : Nat) : Int32 := (Int32.ofNat k).toInt8.toInt32
theorem byte_idem (x : Int32) : nar .byte x.toInt8.toInt32 = x.toInt8.toInt32 := by
  show (x.toInt8.toInt32).toInt8.toInt32 = _
  rw [Int8.toInt8_toInt32]
theorem bv_mask (k : Nat) : bv k &&& 255 = Int32.ofNat (k % 256) := by
  apply i32_ext
  have h : (bv k).toBitVec = ((BitVec.ofNat 32 k).signExtend 8).signExtend 32 := by rw [bv, Int8.toBitVec_toInt32, Int32.toBitVec_toInt8, tbv]
  rw [Int32.toBitVec_and, BitVec.toNat_and, h, tnat (by omega)]
  have e : (((BitVec.ofNat 32 k).signExtend 8).signExtend 32).toNat % 256 = k % 256 := by
    rw [BitVec.toNat_signExtend]
    have hlt := (BitVec.ofNat 32 k).isLt
    simp only [BitVec.toNat_setWidth, BitVec.toNat_signExtend, BitVec.toNat_ofNat] at hlt ⊢
    split <;> split <;> omega
  rw [← e]
  exact Nat.and_two_pow_sub_one_eq_mod _ 8
theorem bv_char {k : Nat} (h : k < 256) : nar .char (bv k &&& 255) = Int32.ofNat k := by
  rw [bv_mask, Nat.mod_eq_of_lt h, char_of_nat (by omega)]
/-- StringUTF16.getChar's two bytes -/
theorem pair_char {k : Nat} (h : k < 65536) : nar .char (((bv k &&& 255) <<< ((0 : Int32) &&& 31)) ||| ((bv (k / 256) &&& 255) <<< ((8 : Int32) &&& 31))) = Int32.ofNat k := by
  rw [bv_mask, bv_mask]
  have e0 : (0 : Int32) = Int32.ofNat 0 := rfl
  have e8 : (8 : Int32) = Int32.ofNat 8 := rfl
  rw [e0, e8, shl_nat (by omega), shl_nat (by omega), or_nat, Nat.mod_eq_of_lt (show k / 256 < 256 by omega)]
  have : k % 256 * 2 ^ 0 ||| k / 256 * 2 ^ 8 = k := by
    rw [Nat.or_comm, Nat.pow_zero, Nat.mul_one, ← Nat.shiftLeft_eq, ← Nat.shiftLeft_add_eq_or_of_lt (by omega), Nat.shiftLeft_eq]; omega
  rw [this, char_of_nat h]
theorem bv_hi {k : Nat} (h : k < 65536) : (Int32.ofNat k >>> ((8 : Int32) &&& 31)).toInt8.toInt32 = bv (k / 256) := by
  have e8 : (8 : Int32) = Int32.ofNat 8 := rfl
  rw [e8, shr_nat (by omega) (by omega)]; rfl
theorem fits_bv (k : Nat) : fits .byte (.int (bv k)) = true := fits_nar_byte _
end Jvm.OwnKit
namespace Jvm.OwnKit
open Jvm Jvm.ClassFile Sem Op Lib Jvm.Free Jvm.Stand Jvm.LawKit Jvm.RoadKit
abbrev ST : String := "java/lang/String"
/-- chars as a char[] holds them -/
def chs (cs : List Nat) : List Value := cs.map fun c => .int (Int32.ofNat c)
/-- .. as a Latin-1 byte[] does -/
def lat (cs : List Nat) : List Value := cs.map fun c => .int (bv c)
/-- .. as a UTF-16 byte[] does, low before high -/
def wid : List Nat → List Value
  | [] => []
  | c :: cs => .int (bv c) :: .int (bv (c / 256)) :: wid cs
theorem chs_len (cs : List Nat) : (chs cs).length = cs.length := by simp [chs]
theorem lat_len (cs : List Nat) : (lat cs).length = cs.length := by simp [lat]
theorem wid_len : ∀ cs : List Nat, (wid cs).length = 2 * cs.length
  | [] => rfl
  | c :: cs => by simp [wid, wid_len cs]; omega
theorem chs_at {cs : List Nat} {i c : Nat} (h : cs[i]? = some c) : (chs cs)[i]? = some (.int (Int32.ofNat c)) := by simp [chs, h]
theorem lat_at {cs : List Nat} {i c : Nat} (h : cs[i]? = some c) : (lat cs)[i]? = some (.int (bv c)) := by simp [lat, h]
theorem wid_lo : ∀ {cs : List Nat} {i c : Nat}, cs[i]? = some c → (wid cs)[2 * i]? = some (.int (bv c))
  | x :: cs, 0, c, h => by simp at h; subst h; rfl
  | x :: cs, i + 1, c, h => by rw [show 2 * (i + 1) = 2 * i + 1 + 1 by omega]; simp [wid]; exact wid_lo (by simpa using h)
theorem wid_hi : ∀ {cs : List Nat} {i c : Nat}, cs[i]? = some c → (wid cs)[2 * i + 1]? = some (.int (bv (c / 256)))
  | x :: cs, 0, c, h => by simp at h; subst h; rfl
  | x :: cs, i + 1, c, h => by rw [show 2 * (i + 1) + 1 = 2 * i + 1 + 1 + 1 by omega]; simp [wid]; exact wid_hi (by simpa using h)
theorem inc_nat (i : Nat) : Int32.ofNat i + Int32.ofInt 1 = Int32.ofNat (i + 1) := add_nat i 1
theorem take_succ_some {α : Type} {cs : List α} {i : Nat} {c : α} (h : cs[i]? = some c) : cs.take (i + 1) = cs.take i ++ [c] := by rw [List.take_add_one, h]; rfl
theorem lat_step {cs : List Nat} {bs : List Value} {i ci : Nat} (hl : bs.length = cs.length) (hci : cs[i]? = some ci) (ht : bs.take i = lat (cs.take i)) : (bs.set i (.int (nar .byte (Int32.ofNat ci).toInt8.toInt32))).take (i + 1) = lat (cs.take (i + 1)) := by
  obtain ⟨hi, -⟩ := List.getElem?_eq_some_iff.mp hci
  rw [take_succ_some hci, take_succ_some (c := .int (nar .byte (Int32.ofNat ci).toInt8.toInt32)) (by rw [List.getElem?_set_self (by omega)]), List.take_set_of_le (Nat.le_refl _), ht, byte_idem]
  simp [lat, bv]
theorem all_step {cs : List Nat} {i ci : Nat} (hci : cs[i]? = some ci) (hs : ∀ c ∈ cs.take i, c < 256) (h : ci < 256) : ∀ c ∈ cs.take (i + 1), c < 256 := by
  rw [take_succ_some hci]; intro c hc; rcases List.mem_append.mp hc with q | q
  · exact hs c q
  · simp at q; omega
theorem le255 {c : Nat} (h : c < 65536) : ¬ (255 : Int32) < Int32.ofNat c ↔ c < 256 := by
  rw [show (255 : Int32) = Int32.ofNat 255 from rfl, lt_nat (by omega) (by omega)]; omega
theorem gt255 {c : Nat} (h : c < 65536) : (255 : Int32) < Int32.ofNat c ↔ 256 ≤ c := by
  rw [show (255 : Int32) = Int32.ofNat 255 from rfl, lt_nat (by omega) (by omega)]; omega
theorem ofNat_ne0 {n : Nat} (h : 0 < n) (h' : n < 2147483648) : ¬ Int32.ofNat n = 0 := by
  rw [show (0 : Int32) = Int32.ofNat 0 from rfl, eq_nat h' (by omega)]; omega
theorem shl1 (i : Nat) : Int32.ofNat i <<< ((1 : Int32) &&& 31) = Int32.ofNat (2 * i) := by
  rw [show (1 : Int32) = Int32.ofNat 1 from rfl, shl_nat (by omega), Nat.mul_comm]
theorem shr1 {i : Nat} (h : i < 2147483648) : Int32.ofNat i >>> ((1 : Int32) &&& 31) = Int32.ofNat (i / 2) := by
  rw [show (1 : Int32) = Int32.ofNat 1 from rfl, shr_nat h (by omega)]
theorem ushr31 {x : Int32} (h : x < 0) : XT.ushr x 31 = 1 := by
  rw [Int32.lt_iff_toInt_lt] at h
  have e0 : (0 : Int32).toInt = 0 := rfl
  rw [e0] at h
  apply i32_ext
  have hb : 2147483648 ≤ x.toBitVec.toNat := by
    have e : x.toInt = x.toBitVec.toInt := rfl
    rw [e, BitVec.toInt_eq_toNat_cond] at h
    split at h <;> omega
  have hl := x.toBitVec.isLt
  show BitVec.toNat (x.toBitVec >>> (BitVec.ofNat 32 31 % 32)) = 1
  rw [show (BitVec.ofNat 32 31 % 32) = 31#32 by decide, BitVec.ushiftRight_eq', BitVec.toNat_ushiftRight, show (31#32).toNat = 31 by decide, Nat.shiftRight_eq_div_pow]
  omega
theorem cod1 {n : Nat} (h : 0 < n) (h' : n < 1000000) : (XT.ushr (Int32.ofNat n - Int32.ofNat (2 * n)) 31).toInt8.toInt32 = 1 := by
  rw [ushr31 (by
    rw [Int32.lt_iff_toInt_lt, Int32.toInt_sub, toInt_small (by omega), toInt_small (by omega)]
    show Int.bmod _ _ < 0
    rw [Int.bmod_eq_of_le (by omega) (by omega)]; omega)]
  decide
theorem cod0 (x : Int32) : (XT.ushr (x - x) 31).toInt8.toInt32 = 0 := by
  have e : x - x = 0 := by apply Int32.toBitVec_inj.mp; rw [Int32.toBitVec_sub, BitVec.sub_self]; rfl
  rw [e]; decide
theorem wid_step {cs : List Nat} {bs : List Value} {i ci : Nat} (hl : bs.length = 2 * cs.length) (hci : cs[i]? = some ci) (ht : bs.take (2 * i) = wid (cs.take i)) : ((bs.set (2 * i) (.int (bv ci))).set (2 * i + 1) (.int (bv (ci / 256)))).take (2 * (i + 1)) = wid (cs.take (i + 1)) := by
  obtain ⟨hi, -⟩ := List.getElem?_eq_some_iff.mp hci
  have w2 : ∀ (xs : List Nat) (x : Nat), wid (xs ++ [x]) = wid xs ++ [.int (bv x), .int (bv (x / 256))] := by
    intro xs x; induction xs with
    | nil => rfl
    | cons y ys ih => simp [wid, ih]
  rw [show 2 * (i + 1) = 2 * i + 1 + 1 by omega, take_succ_some (c := .int (bv (ci / 256))) (by rw [List.getElem?_set_self (by simp; omega)]), List.take_set_of_le (Nat.le_refl _), take_succ_some (c := .int (bv ci)) (by rw [List.getElem?_set_self (by omega)]), List.take_set_of_le (Nat.le_refl _), ht, take_succ_some hci, w2]
  simp
/-- the first place of c in cs, from i on -/
def ixN (c : Nat) : List Nat → Nat → Option Nat
  | [], _ => none
  | x :: xs, i => if x = c then some i else ixN c xs (i + 1)
def ixv (c : Nat) (cs : List Nat) (i : Nat) : Int32 := match ixN c (cs.drop i) i with | some j => Int32.ofNat j | none => -1
theorem ixv_end {c : Nat} {cs : List Nat} {i : Nat} (h : cs.length ≤ i) : ixv c cs i = -1 := by rw [ixv, List.drop_of_length_le h]; rfl
theorem ixv_hit {c : Nat} {cs : List Nat} {i : Nat} (h : cs[i]? = some c) : ixv c cs i = Int32.ofNat i := by
  obtain ⟨hi, e⟩ := List.getElem?_eq_some_iff.mp h
  rw [ixv, List.drop_eq_getElem_cons hi, e]; simp [ixN]
theorem ixv_miss {c x : Nat} {cs : List Nat} {i : Nat} (h : cs[i]? = some x) (hx : ¬ x = c) : ixv c cs i = ixv c cs (i + 1) := by
  obtain ⟨hi, e⟩ := List.getElem?_eq_some_iff.mp h
  rw [ixv, List.drop_eq_getElem_cons hi, e]; simp [ixN, hx, ixv]
theorem bv_inj {x y : Nat} (hx : x < 256) (hy : y < 256) (h : bv x = bv y) : x = y := by
  have := bv_char hx; rw [h, bv_char hy] at this
  exact ((eq_nat (by omega) (by omega)).mp this).symm
theorem lat_take_drop (cs : List Nat) (b n : Nat) : ((lat cs).drop b).take n = lat ((cs.drop b).take n) := by simp [lat, List.map_drop, List.map_take]
/-- the String at a, Latin-1, its array at t -/
def StrL (Z : State) (h : Heap) (a t : Addr) (ca : ClassId) (cs : List Nat) : Prop := Exa Z h a ST ∧ Fld Z h a ST "value" "[B" (.ref t) ∧ Fld Z h a ST "coder" "B" (.int 0) ∧ Ary Z h t ca .byte (lat cs) ∧ ∀ c ∈ cs, c < 256
/-- .. UTF-16 -/
def StrW (Z : State) (h : Heap) (a t : Addr) (ca : ClassId) (cs : List Nat) : Prop := Exa Z h a ST ∧ Fld Z h a ST "value" "[B" (.ref t) ∧ Fld Z h a ST "coder" "B" (.int 1) ∧ Ary Z h t ca .byte (wid cs) ∧ (∀ c ∈ cs, c < 65536) ∧ ∃ c ∈ cs, 256 ≤ c
def Str (Z : State) (h : Heap) (a t : Addr) (ca : ClassId) (cs : List Nat) : Prop := StrL Z h a t ca cs ∨ StrW Z h a t ca cs
section
variable {Z : State} {h h' : Heap} {a t : Addr} {ca : ClassId} {cs : List Nat} {ws : List Addr}
theorem StrL.ext (E : Ext h h') (S : StrL Z h a t ca cs) : StrL Z h' a t ca cs := ⟨S.1.ext E, S.2.1.ext E, S.2.2.1.ext E, S.2.2.2.1.ext E, S.2.2.2.2⟩
theorem StrL.keep (S : StrL Z h a t ca cs) (K : Keep h h' ws) (q : a ∉ ws) (r : t ∉ ws) : StrL Z h' a t ca cs := ⟨S.1.keep K, S.2.1.keep K q, S.2.2.1.keep K q, S.2.2.2.1.keep K r, S.2.2.2.2⟩
theorem StrW.ext (E : Ext h h') (S : StrW Z h a t ca cs) : StrW Z h' a t ca cs := ⟨S.1.ext E, S.2.1.ext E, S.2.2.1.ext E, S.2.2.2.1.ext E, S.2.2.2.2⟩
theorem StrW.keep (S : StrW Z h a t ca cs) (K : Keep h h' ws) (q : a ∉ ws) (r : t ∉ ws) : StrW Z h' a t ca cs := ⟨S.1.keep K, S.2.1.keep K q, S.2.2.1.keep K q, S.2.2.2.1.keep K r, S.2.2.2.2⟩
theorem StrL.lt (S : StrL Z h a t ca cs) : a < h.size := S.1.lt
theorem StrL.ltT (S : StrL Z h a t ca cs) : t < h.size := S.2.2.2.1.lt
theorem StrW.lt (S : StrW Z h a t ca cs) : a < h.size := S.1.lt
theorem StrW.ltT (S : StrW Z h a t ca cs) : t < h.size := S.2.2.2.1.lt
theorem Str.lt (S : Str Z h a t ca cs) : a < h.size := S.elim (·.lt) (·.lt)
theorem Str.ltT (S : Str Z h a t ca cs) : t < h.size := S.elim (·.ltT) (·.ltT)
theorem Str.ext (E : Ext h h') (S : Str Z h a t ca cs) : Str Z h' a t ca cs := S.imp (·.ext E) (·.ext E)
theorem Str.keep (S : Str Z h a t ca cs) (K : Keep h h' ws) (q : a ∉ ws) (r : t ∉ ws) : Str Z h' a t ca cs := S.imp (·.keep K q r) (·.keep K q r)
theorem Str.exa (S : Str Z h a t ca cs) : Exa Z h a ST := S.elim (·.1) (·.1)
theorem Str.val (S : Str Z h a t ca cs) : Fld Z h a ST "value" "[B" (.ref t) := S.elim (·.2.1) (·.2.1)
theorem Str.raw (S : Str Z h a t ca cs) : ∃ vs cd, Fld Z h a ST "coder" "B" (.int cd) ∧ Ary Z h t ca .byte vs ∧ (cd = 0 ∨ cd = 1) ∧ Int32.ofNat vs.length >>> (cd &&& 31) = Int32.ofNat cs.length ∧ (vs.length = 0 ↔ cs.length = 0) ∧ ((cd = 0 ∧ vs = lat cs ∧ ∀ c ∈ cs, c < 256) ∨ (cd = 1 ∧ vs = wid cs)) := by
  rcases S with ⟨h1, h2, h3, h4, h5⟩ | ⟨h1, h2, h3, h4, h5, h6⟩
  · exact ⟨_, 0, h3, h4, Or.inl rfl, by rw [shr_zero, lat_len], by rw [lat_len], Or.inl ⟨rfl, rfl, h5⟩⟩
  · exact ⟨_, 1, h3, h4, Or.inr rfl, by have := h4.1; rw [wid_len] at this ⊢; rw [shr1 this]; congr 1; omega, by rw [wid_len]; omega, Or.inr ⟨rfl, rfl⟩⟩
theorem Str.c16 (S : Str Z h a t ca cs) : ∀ c ∈ cs, c < 65536 := S.elim (fun q c hc => Nat.lt_trans (q.2.2.2.2 c hc) (by omega)) (·.2.2.2.2.1)
end
end Jvm.OwnKit
namespace Jvm.OwnKit
open Jvm Jvm.ClassFile Sem Op Lib Jvm.Free Jvm.Stand Jvm.LawKit Jvm.RoadKit
section Objs
variable {p : Program} {l : Launch} {e : Env} {R : Room} {s : State} {m : MethodId} {args : Array Value} {below : List Frame} {meth : Method} {c : Code} {Z : State} {own : String} {bytes : ByteArray} {maxL : Nat} {ret : Option FieldType} {mn : String} {n0 : Nat} {h0 : Heap} {ws : List Addr} {T : State} {h : Heap} {k n : Nat} {P : Outcome → State → Prop} {Ls : Array Slot} {st : List Value} {pc pc' : Nat} {a0 : Array Value}
theorem i_newPE (w : Wk p l e R s m args below meth c Z own bytes maxL ret mn n0 h0 ws T h k n) {aty : ArrayType} {N : Nat} {z : Int32} {ad : String} (d : decode bytes pc = .ok (.newarray aty, 2)) (w1 : (Cond.arrayClass (newarray.typeOf aty)).before a0 Z = true) (had : "[" ++ (newarray.typeOf aty).toString = ad) (hz : z = Int32.ofNat N) (hN : N ≤ 65536) {cap : Nat} (hcap : N ≤ cap) (hcap' : cap ≤ 65536) (hc : k + 1 ≤ R.cells) (hs : n + cap ≤ R.slots) (hp : pc + 2 = pc')
    (K : ∀ a T' h' ca, a = h.size → Wk p l e R s m args below meth c Z own bytes maxL ret mn n0 h0 ws T' h' (k + 1) (n + cap) → h0.size ≤ a → Ext h h' → Ary Z h' a ca (newarray.typeOf aty) (List.replicate N (defaultValue (newarray.typeOf aty))) → Exa Z h' a ad → Goes p e below P T' (mkF m pc' Ls (.ref a :: st))) : Goes p e below P T (mkF m pc Ls (.int z :: st)) := by
  obtain ⟨cx, locs, cells, slots, X, e1, N1, b1, b2, O1, K1⟩ := w
  obtain ⟨hx, hb', hml, hZ, hown, cr⟩ := id cx
  subst hp hz
  have cl := clamp_ofNat (i := N) (by omega)
  obtain ⟨T', h', cA, X', e', E, A, EX, stp⟩ := newPE X hx hZ w1 e1 (g := mkF m pc Ls (.int (Int32.ofNat N) :: st)) rfl (hb hb' d) rfl (nonneg_ofNat (by omega)) (cap := cap) (by rw [cl]; exact hcap) (by omega) (by omega) (by omega) had
  refine (K h.size T' h' cA rfl ⟨cx, locs, _, _, X', e', N1, by omega, by omega, O1.ext E, K1.ext E⟩ K1.1 E ⟨by simp; omega, ?_⟩ EX).step stp
  rw [List.length_replicate]
  exact (Arv.new A (nonneg_ofNat (by omega))).pad (by simpa using pad_rep [] (defaultValue (newarray.typeOf aty)) N)
theorem i_newR (w : Wk p l e R s m args below meth c Z own bytes maxL ret mn n0 h0 ws T h k n) {index N : Nat} {z : Int32} {C ad : String} (d : decode bytes pc = .ok (.anewarray index, 3)) (w1 : (Cond.classLink own index C).before a0 Z = true) (w2 : (Cond.arrayOver (.object C)).before a0 Z = true) (had : "[" ++ (FieldType.object C).toString = ad) (hz : z = Int32.ofNat N) (hN : N ≤ 65536) {cap : Nat} (hcap : N ≤ cap) (hcap' : cap ≤ 65536) (hc : k + 1 ≤ R.cells) (hs : n + cap ≤ R.slots) (hp : pc + 3 = pc')
    (K : ∀ a T' h' ca, a = h.size → Wk p l e R s m args below meth c Z own bytes maxL ret mn n0 h0 ws T' h' (k + 1) (n + cap) → h0.size ≤ a → Ext h h' → Ary Z h' a ca (.object C) (List.replicate N .null) → Exa Z h' a ad → Ovr Z ca C → Goes p e below P T' (mkF m pc' Ls (.ref a :: st))) : Goes p e below P T (mkF m pc Ls (.int z :: st)) := by
  obtain ⟨cx, locs, cells, slots, X, e1, N1, b1, b2, O1, K1⟩ := w
  obtain ⟨hx, hb', hml, hZ, hown, cr⟩ := id cx
  subst hp hz
  have cl := clamp_ofNat (i := N) (by omega)
  obtain ⟨T', h', cA, X', e', E, A, EX, OV, stp⟩ := newRE X hx hZ hown w1 w2 e1 (g := mkF m pc Ls (.int (Int32.ofNat N) :: st)) rfl (hb hb' d) rfl (nonneg_ofNat (by omega)) (cap := cap) (by rw [cl]; exact hcap) (by omega) (by omega) (by omega) had
  refine (K h.size T' h' cA rfl ⟨cx, locs, _, _, X', e', N1, by omega, by omega, O1.ext E, K1.ext E⟩ K1.1 E ⟨by simp; omega, ?_⟩ EX OV).step stp
  rw [List.length_replicate]
  exact (Arv.new A (nonneg_ofNat (by omega))).pad (pad_rep [] .null N)
theorem i_clone (w : Wk p l e R s m args below meth c Z own bytes maxL ret mn n0 h0 ws T h k n) {index : Nat} {ad : String} {a : Addr} {ca : ClassId} {ty : FieldType} {vs : List Value} (d : decode bytes pc = .ok (.invokevirtual index, 3)) (w1 : (Cond.methodLink own index ⟨ad, "clone", "()Ljava/lang/Object;"⟩).before a0 Z = true) (w2 : (Cond.sameMethod ad "java/lang/Object" "clone" "()Ljava/lang/Object;").before a0 Z = true) (w3 : (Cond.native ⟨"java/lang/Object", "clone", "()Ljava/lang/Object;"⟩).before a0 Z = true)
    (w4 : (Cond.instanceMethod ⟨"java/lang/Object", "clone", "()Ljava/lang/Object;"⟩).before a0 Z = true) (w5 : (Cond.selects ad ⟨ad, "clone", "()Ljava/lang/Object;"⟩ ⟨"java/lang/Object", "clone", "()Ljava/lang/Object;"⟩).before a0 Z = true) (w6 : (Cond.castable ad "java/lang/Cloneable").before a0 Z = true)
    (A : Ary Z h a ca ty vs) (E : Exa Z h a ad) (hsz : Ls.size = maxL) (hf : 1 ≤ R.frames) {W : Nat} (hW : (st.map fun v => v.category).sum ≤ W) (hl : W + 14 ≤ R.locals) {cap : Nat} (hcap : vs.length ≤ cap) (hc : k + 1 ≤ R.cells) (hs : n + cap ≤ R.slots) (hp : pc + 3 = pc')
    (K : ∀ b T' h', b = h.size → Wk p l e R s m args below meth c Z own bytes maxL ret mn n0 h0 ws T' h' (k + 1) (n + cap) → h0.size ≤ b → Ext h h' → Ary Z h' b ca ty vs → Exa Z h' b ad → Goes p e below P T' (mkF m pc' Ls (.ref b :: st))) : Goes p e below P T (mkF m pc Ls (.ref a :: st)) := by
  obtain ⟨cx, locs, cells, slots, X, e1, N1, b1, b2, O1, K1⟩ := w
  obtain ⟨hx, hb', hml, hZ, hown, cr⟩ := id cx
  subst hp
  obtain ⟨T', h', X', e', E', A', EX, stp⟩ := cloneH X hx hZ hown w1 w2 w3 w4 w5 w6 e1 (Arv.arh A.2) E (g := mkF m pc Ls (.ref a :: st)) rfl (hsz.trans hml.symm) rfl (hb hb' d) hf (W := W) (cap := cap) (by show 2 * 0 + _ ≤ _; omega) hl (by rw [clamp_ofNat A.1]; exact hcap) (by omega) (by omega)
  exact (K h.size T' h' rfl ⟨cx, locs, _, _, X', e', N1, by omega, by omega, O1.ext E', K1.ext E'⟩ K1.1 E' ⟨A.1, A'⟩ EX).step stp
theorem i_cast (w : Wk p l e R s m args below meth c Z own bytes maxL ret mn n0 h0 ws T h k n) {index : Nat} {C : String} {a : Addr} (d : decode bytes pc = .ok (.checkcast index, 3)) (w1 : (Cond.classLink own index C).before a0 Z = true) (I : Ins Z h a C true) (hp : pc + 3 = pc') (K : ∀ T', Wk p l e R s m args below meth c Z own bytes maxL ret mn n0 h0 ws T' h k n → Goes p e below P T' (mkF m pc' Ls (.ref a :: st))) : Goes p e below P T (mkF m pc Ls (.ref a :: st)) := by
  obtain ⟨cx, locs, cells, slots, X, e1, r⟩ := w
  obtain ⟨hx, hb', hml, hZ, hown, cr⟩ := id cx
  subst hp
  obtain ⟨T', X', e', stp⟩ := castY X hx hZ hown w1 e1 I (g := mkF m pc Ls (.ref a :: st)) rfl rfl (hb hb' d)
  exact (K T' ⟨cx, locs, cells, slots, X', e', r⟩).step stp
theorem i_instY (w : Wk p l e R s m args below meth c Z own bytes maxL ret mn n0 h0 ws T h k n) {index : Nat} {C : String} {a : Addr} (d : decode bytes pc = .ok (.instanceof index, 3)) (w1 : (Cond.classLink own index C).before a0 Z = true) (I : Ins Z h a C true) (hp : pc + 3 = pc') (K : ∀ T', Wk p l e R s m args below meth c Z own bytes maxL ret mn n0 h0 ws T' h k n → Goes p e below P T' (mkF m pc' Ls (.int 1 :: st))) : Goes p e below P T (mkF m pc Ls (.ref a :: st)) := by
  obtain ⟨cx, locs, cells, slots, X, e1, r⟩ := w
  obtain ⟨hx, hb', hml, hZ, hown, cr⟩ := id cx
  subst hp
  obtain ⟨T', X', e', stp⟩ := instY X hx hZ hown w1 e1 I (g := mkF m pc Ls (.ref a :: st)) rfl rfl (hb hb' d)
  exact (K T' ⟨cx, locs, cells, slots, X', e', r⟩).step stp
theorem i_gcls (w : Wk p l e R s m args below meth c Z own bytes maxL ret mn n0 h0 ws T h k n) {index : Nat} {C : String} {a mr : Addr} (d : decode bytes pc = .ok (.invokevirtual index, 3)) (w1 : (Cond.methodLink own index ⟨"java/lang/Object", "getClass", "()Ljava/lang/Class;"⟩).before a0 Z = true) (w2 : (Cond.declares ⟨"java/lang/Object", "getClass", "()Ljava/lang/Class;"⟩).before a0 Z = true) (w4 : (Cond.selects C ⟨"java/lang/Object", "getClass", "()Ljava/lang/Class;"⟩ ⟨"java/lang/Object", "getClass", "()Ljava/lang/Class;"⟩).before a0 Z = true)
    (w5 : (Cond.instanceMethod ⟨"java/lang/Object", "getClass", "()Ljava/lang/Class;"⟩).before a0 Z = true) (w6 : (Cond.native ⟨"java/lang/Object", "getClass", "()Ljava/lang/Class;"⟩).before a0 Z = true) (E : Exa Z h a C) (M : Mir Z C mr) (hsz : Ls.size = maxL) (hf : 1 ≤ R.frames) {W : Nat} (hW : (st.map fun v => v.category).sum ≤ W) (hl : W + 14 ≤ R.locals) (hp : pc + 3 = pc')
    (K : ∀ T', Wk p l e R s m args below meth c Z own bytes maxL ret mn n0 h0 ws T' h k n → Goes p e below P T' (mkF m pc' Ls (.ref mr :: st))) : Goes p e below P T (mkF m pc Ls (.ref a :: st)) := by
  obtain ⟨cx, locs, cells, slots, X, e1, r⟩ := w
  obtain ⟨hx, hb', hml, hZ, hown, cr⟩ := id cx
  subst hp
  obtain ⟨cB, kB, i1, i2, i3⟩ := isOf (T := T) hZ e1 E
  obtain ⟨cc, kc, m1, m2, m3, -⟩ := M
  rw [hZ.alike.findClass] at i1
  cases i1.symm.trans m1
  obtain ⟨k', q, ek⟩ := hZ.alike.2.2 _ _ m2
  have q14 : nativeFrameWords "java/lang/Object" "getClass" 1 + 11 = 14 := by decide
  have own_lo : 2 * 0 + (st.map fun v => v.category).sum + (nativeFrameWords "java/lang/Object" "getClass" 1 + 11) ≤ R.locals := by rw [q14]; omega
  obtain ⟨vm', X', stp⟩ := X.getClassOf hx hown (mvT hZ w1) (mvT hZ w2) (notFace_of_selects (args := #[]) (mvT hZ w4)) (mvT hZ w4) (mvT hZ w5) (mvT hZ w6) (by rw [hZ.alike.findClass]; exact m1) i3 q (by rw [ek]; exact m3) (g := mkF m pc Ls (.ref a :: st)) rfl (hsz.trans hml.symm) rfl (hb hb' d) hf own_lo
  exact (K _ ⟨cx, locs, cells, slots, X', e1, r⟩).step stp
theorem i_ldcM (w : Wk p l e R s m args below meth c Z own bytes maxL ret mn n0 h0 ws T h k n) {index : Nat} {C : String} {mr : Addr} (d : decode bytes pc = .ok (.ldc index, 2)) (w1 : (Cond.classLink own index C).before a0 Z = true) (M : Mir Z C mr) (hp : pc + 2 = pc') (K : ∀ T', Wk p l e R s m args below meth c Z own bytes maxL ret mn n0 h0 ws T' h k n → Goes p e below P T' (mkF m pc' Ls (.ref mr :: st))) : Goes p e below P T (mkF m pc Ls (st)) := by
  obtain ⟨cx, locs, cells, slots, X, e1, r⟩ := w
  obtain ⟨hx, hb', hml, hZ, hown, cr⟩ := id cx
  subst hp
  obtain ⟨cc, kc, m1, m2, m3, -⟩ := M
  obtain ⟨k', q, ek⟩ := hZ.alike.2.2 _ _ m2
  have f1 : s.vm.findClass C = some cc := by rw [hZ.alike.findClass]; exact m1
  have f2 : k'.mirror = some mr := by rw [ek]; exact m3
  obtain ⟨vm', X', stp⟩ := X.ldcMirror hx (a := mr) hown (mvT hZ w1) (by simp [Term.eval, f1, q, f2]) (g := mkF m pc Ls st) rfl (hb hb' d)
  exact (K _ ⟨cx, locs, cells, slots, X', e1, r⟩).step stp
theorem i_acopyR (w : Wk p l e R s m args below meth c Z own bytes maxL ret mn n0 h0 ws T h k n) {index : Nat} {a b : Addr} {ca cb : ClassId} {ty ty' : FieldType} {vs vd : List Value} {sp dp nn : Nat} (d : decode bytes pc = .ok (.invokestatic index, 3)) (w1 : (Cond.methodLink own index Jvm.Stand.acN).before a0 Z = true) (w2 : (Cond.native Jvm.Stand.acN).before a0 Z = true) (w3 : (Cond.static Jvm.Stand.acN).before a0 Z = true) (w4 : (Cond.initialized "java/lang/System").before a0 Z = true)
    (A : Ary Z h a ca ty vs) (B : Ary Z h b cb ty' vd) (hty : refKind ty = true ∧ refKind ty' = true ∧ StoL Z h b ((vs.drop sp).take nn)) (h4 : sp + nn ≤ vs.length) (h5 : dp + nn ≤ vd.length) (hb : b ∈ ws ∨ h0.size ≤ b) (hsz : Ls.size = maxL) (hf : 1 ≤ R.frames) {W : Nat} (hW : (st.map fun v => v.category).sum ≤ W) (hl : W + 18 ≤ R.locals) (hp : pc + 3 = pc')
    (K : ∀ T' h', Wk p l e R s m args below meth c Z own bytes maxL ret mn n0 h0 ws T' h' k n → Keep h h' [b] → Ary Z h' b cb ty' (vd.take dp ++ (vs.drop sp).take nn ++ vd.drop (dp + nn)) → Goes p e below P T' (mkF m pc' Ls (st))) : Goes p e below P T (mkF m pc Ls (.int (Int32.ofNat nn) :: .int (Int32.ofNat dp) :: .ref b :: .int (Int32.ofNat sp) :: .ref a :: st)) := by
  have hna := w.wsn hb
  obtain ⟨cx, locs, cells, slots, X, e1, N, b1, b2, O1, K1⟩ := w
  obtain ⟨hx, hb', hml, hZ, hown, cr⟩ := id cx
  subst hp
  have lA := A.1
  have lB := B.1
  have us : (List.range nn).map (fun i => vs.getD (sp + i) (defaultValue ty)) = (vs.drop sp).take nn := by
    apply List.ext_getElem?
    intro i
    rw [List.getElem?_map, List.getElem?_take]
    by_cases hi : i < nn
    · rw [if_pos hi, List.getElem?_range hi, List.getElem?_drop, List.getElem?_eq_getElem (by omega)]
      simp [List.getD_eq_getElem?_getD, List.getElem?_eq_getElem (show sp + i < vs.length by omega)]
    · rw [if_neg hi, List.getElem?_eq_none (by simp; omega)]; rfl
  obtain ⟨T', h', L, X', e', N', K', B', stp⟩ := cpA X hx hZ hown w1 w2 w3 w4 e1 A.2 B.2 (sp := Int32.ofNat sp) (dp := Int32.ofNat dp) (nn := Int32.ofNat nn) (us := (vs.drop sp).take nn) (Or.inr hty) (nonneg_ofNat (by omega)) (nonneg_ofNat (by omega)) (nonneg_ofNat (by omega))
    (by rw [clamp_ofNat (by omega), clamp_ofNat (by omega), clamp_ofNat (by omega)]; exact h4) (by rw [clamp_ofNat (by omega), clamp_ofNat (by omega), clamp_ofNat (by omega)]; exact h5) (by rw [clamp_ofNat (by omega), clamp_ofNat (by omega)]; exact us.symm) (by rw [clamp_ofNat (by omega), clamp_ofNat (by omega)]; exact h5) N hna
    (g := mkF m pc Ls (.int (Int32.ofNat nn) :: .int (Int32.ofNat dp) :: .ref b :: .int (Int32.ofNat sp) :: .ref a :: st)) rfl (hsz.trans hml.symm) rfl (Jvm.hb hb' d) hf (W := W) (by show 2 * 0 + _ ≤ _; omega) (by show W + (nativeFrameWords "java/lang/System" "arraycopy" 5 + 11) ≤ _; exact hl)
  rw [clamp_ofNat (show dp < 2147483648 by omega), clamp_ofNat (show nn < 2147483648 by omega)] at B'
  have ll : (vd.take dp ++ (vs.drop sp).take nn ++ vd.drop (dp + nn)).length = vd.length := by simp; omega
  exact (K T' h' ⟨cx, _, cells, slots, X', e', N', b1, b2, O1.keep K' (allS hna all0), K1.trans K' (allS hb all0)⟩ K' ⟨by rw [ll]; exact lB, by rw [ll]; exact B'⟩).step stp
end Objs
end Jvm.OwnKit
namespace Jvm.OwnKit
open Jvm Jvm.ClassFile Sem Op Lib Jvm.Free Jvm.Stand Jvm.LawKit Jvm.RoadKit Jvm.Free.SB Jvm.Free.SBG
section Words
variable {Z : State} {a0 : Array Value}
theorem decl_of {y : MethodName} {bytes : ByteArray} {maxL : Nat} {ret : Option FieldType} (w : (Cond.instanceMethod y).before a0 Z = true) (wc : (Cond.code y bytes maxL ret).before a0 Z = true) : (Cond.declares y).before a0 Z = true := by
  obtain ⟨mk, methM, hnamed, hmethM, hst, -⟩ := Cond.instanceMethod_spec w
  obtain ⟨m2, cM, q1, -, -, -, -, -, -, hsig⟩ := Cond.code_spec hnamed wc
  cases hmethM.symm.trans q1
  simp [Cond.before, Cond.holds, Cond.value, hnamed, hmethM, hst, hsig]
theorem face_of {C : String} {x z y : MethodName} (w : (Cond.selects C x z).before a0 Z = true) (e : y.cls = z.cls) : NotFace Z y := fun r0 h0 => by
  obtain ⟨c2, r2, m2, q1, q2, q3, q4, kP, hkP, hkPi⟩ := Cond.selects_spec w
  have a := findClass_of_methodNamed h0
  have b := findClass_of_methodNamed q3
  rw [e, b] at a
  have e2 : r0.cls = m2.cls := (Option.some.inj a).symm
  rw [e2]
  exact ⟨kP, hkP, hkPi⟩
theorem same_of {y : MethodName} (w : (Cond.instanceMethod y).before a0 Z = true) (f : NotFace Z y) (hy : y.cls ≠ "java/lang/invoke/MethodHandle" ∧ y.cls ≠ "java/lang/invoke/VarHandle") : (Cond.sameMethod y.cls y.cls y.name y.desc).before a0 Z = true := by
  obtain ⟨mk, methM, hnamed, hmethM, hst, -⟩ := Cond.instanceMethod_spec w
  obtain ⟨kr, hk, hi⟩ := f mk hnamed
  have hf := State.methodFound?_of_named hnamed hy
  have hc := findClass_of_methodNamed hnamed
  have hn' : Z.methodNamed? ⟨y.cls, y.name, y.desc⟩ = some mk := hnamed
  simp [Cond.before, Cond.holds, Cond.value, hc, hf, hn', hk, hi]
end Words
section Calls2
variable {p : Program} {l : Launch} {e : Env} {R : Room} {s : State} {m : MethodId} {args : Array Value} {below : List Frame} {meth : Method} {c : Code} {Z : State} {own : String} {bytes : ByteArray} {maxL : Nat} {ret : Option FieldType} {mn : String} {n0 : Nat} {h0 : Heap} {ws : List Addr} {T : State} {h : Heap} {k n : Nat} {P : Outcome → State → Prop} {Ls : Array Slot} {st : List Value} {pc pc' : Nat} {a0 : Array Value}
theorem c_super (w : Wk p l e R s m args below meth c Z own bytes maxL ret mn n0 h0 ws T h k n) {index : Nat} {C : String} {y : MethodName} {bytes' : ByteArray} {maxL' : Nat} {ret' : Option FieldType} {rm : Room} {ws' : List Addr} {Q : Option Value → Heap → Prop} {argsL : List Value} {a : Addr} {sg : MethodDescriptor} (d : decode bytes pc = .ok (.invokespecial index, 3)) (hi : y.name ≠ "<init>") (w1 : (Cond.methodLink own index y).before a0 Z = true) (w2 : (Cond.instanceMethod y).before a0 Z = true) (w3 : (Cond.initialized y.cls).before a0 Z = true) (w4 : (Cond.code y bytes' maxL' ret').before a0 Z = true) (w5 : (Cond.superclass own y.cls).before a0 Z = true) (nf : NotFace Z y) (hy : y.cls ≠ "java/lang/invoke/MethodHandle" ∧ y.cls ≠ "java/lang/invoke/VarHandle") (pd : parseMethodDescriptor y.desc = some sg) (ha : argsL.length = sg.parameters.length) (E : Exa Z h a C)
    (C' : Ctr l Z n0 y bytes' maxL' ret' [] rm (.ref a :: argsL).toArray h ws' Q) (hsz : Ls.size = maxL) (hf : rm.frames + 1 ≤ R.frames) {W : Nat} (hW : (st.map fun v => v.category).sum ≤ W) (hl : W + (maxL' + 11) + rm.locals ≤ R.locals) (hc : k + rm.cells ≤ R.cells) (hs : n + rm.slots ≤ R.slots) (hws : ∀ x ∈ ws', x ∈ ws ∨ h0.size ≤ x) (hp : pc + 3 = pc') (K : ∀ v T' h', Wk p l e R s m args below meth c Z own bytes maxL ret mn n0 h0 ws T' h' (k + rm.cells) (n + rm.slots) → Keep h h' ws' → Q v h' → Goes p e below P T' (mkF m pc' Ls (v.toList ++ st))) : Goes p e below P T (mkF m pc Ls (argsL.reverse ++ .ref a :: st)) := by
  obtain ⟨cx, locs, cells, slots, X, e1, N, b1, b2, O1, K1⟩ := w
  obtain ⟨hx, hb', hml, hZ, hown, hret, hlk, hmn, hw0, hn0⟩ := id cx
  subst hp
  obtain ⟨_, _, ⟨T', L', k', n'⟩, -, X', ⟨Lc, ⟨q1, N', K'⟩, l1, y1, z1⟩, stp⟩ := superBack X hx hZ (y := y) hown w1 (same_of w2 nf hy) w2 w5 hi (backOf (W := W) (Q := fun v t L => Q v t ∧ Fr n0 L ∧ Keep h t ws') C' hZ w4 w3 hf hl) e1 (Ins.self E) (g := mkF m pc Ls (argsL.reverse ++ .ref a :: st)) rfl (hsz.trans hml.symm) w4 (argsL := argsL) (rest := st) (fun sig h => by rw [pd] at h; cases h; exact ha) rfl (by show 2 * 0 + _ ≤ _; omega) (hb hb' d) (fun _ _ => ⟨rfl, e1, by show cells + _ ≤ _; omega, by show slots + _ ≤ _; omega⟩)
  dsimp only [Pt.U, Pt.locs, Pt.cells, Pt.slots] at X' l1 y1 z1 stp q1 K'
  subst l1 y1 z1
  refine (K _ T' T'.heap ⟨cx, _, _, _, X', rfl, Fr.app N N', by omega, by omega, O1.keep K' (fun x hx => (hws x hx).elim (hw0 x) (Nat.le_trans hn0)), K1.trans K' hws⟩ K' q1).step (fun t q => stp.trans q)
theorem c_virtualZ (w : Wk p l e R s m args below meth c Z own bytes maxL ret mn n0 h0 ws T h k n) {index : Nat} {C : String} {x : MethodName} {y : MethodName} {bytes' : ByteArray} {maxL' : Nat} {ret' : Option FieldType} {rm : Room} {ws' : List Addr} {Q : Option Value → Heap → Prop} {argsL : List Value} {a : Addr} {sg : MethodDescriptor} (d : decode bytes pc = .ok (.invokevirtual index, 3)) (w1 : (Cond.methodLink own index x).before a0 Z = true) (w2 : (Cond.declares x).before a0 Z = true) (nf : NotFace Z x) (hd : x.desc = y.desc) (hy' : x.cls ≠ "java/lang/invoke/MethodHandle" ∧ x.cls ≠ "java/lang/invoke/VarHandle") (w3 : (Cond.selects C x y).before a0 Z = true) (w4 : (Cond.instanceMethod y).before a0 Z = true) (w5 : (Cond.code y bytes' maxL' ret').before a0 Z = true) (w6 : (Cond.initialized y.cls).before a0 Z = true) (hy : y.cls ≠ "java/lang/invoke/MethodHandle" ∧ y.cls ≠ "java/lang/invoke/VarHandle") (pd : parseMethodDescriptor y.desc = some sg) (ha : argsL.length = sg.parameters.length) (E : Exa Z h a C)
    (C' : Ctr l Z n0 y bytes' maxL' ret' [] rm (.ref a :: argsL).toArray h ws' Q) (hsz : Ls.size = maxL) (hf : rm.frames + 1 ≤ R.frames) {W : Nat} (hW : (st.map fun v => v.category).sum ≤ W) (hl : W + (maxL' + 11) + rm.locals ≤ R.locals) (hc : k + rm.cells ≤ R.cells) (hs : n + rm.slots ≤ R.slots) (hws : ∀ x ∈ ws', x ∈ ws ∨ h0.size ≤ x) (hp : pc + 3 = pc') (K : ∀ v T' h', Wk p l e R s m args below meth c Z own bytes maxL ret mn n0 h0 ws T' h' (k + rm.cells) (n + rm.slots) → Keep h h' ws' → Q v h' → Goes p e below P T' (mkF m pc' Ls (v.toList ++ st))) : Goes p e below P T (mkF m pc Ls (argsL.reverse ++ .ref a :: st)) := by
  obtain ⟨cx, locs, cells, slots, X, e1, N, b1, b2, O1, K1⟩ := w
  obtain ⟨hx, hb', hml, hZ, hown, hret, hlk, hmn, hw0, hn0⟩ := id cx
  subst hp
  obtain ⟨cq, kq, qa, qb, qc⟩ := isOf (T := T) hZ e1 E
  obtain ⟨_, _, ⟨T', L', k', n'⟩, -, X', ⟨Lc, ⟨q1, N', K'⟩, l1, y1, z1⟩, stp⟩ := X.virtualBack hx (y := x) (z := y) hown (mvT hZ w1) (mvT hZ w2) (NotFace.move hZ.alike nf) (mvT hZ w3) (mvT hZ w4) hy' (backOf (W := W) (Q := fun v t L => Q v t ∧ Fr n0 L ∧ Keep h t ws') C' hZ w5 w6 hf hl) qa qc (g := mkF m pc Ls (argsL.reverse ++ .ref a :: st)) rfl (hsz.trans hml.symm) (Steps.refl _) (argsL := argsL) (rest := st) (fun sig h => by rw [hd, pd] at h; cases h; exact ha) rfl (by show 2 * 0 + _ ≤ _; omega) (hb hb' d) (fun _ _ => ⟨rfl, e1, by show cells + _ ≤ _; omega, by show slots + _ ≤ _; omega⟩)
  dsimp only [Pt.U, Pt.locs, Pt.cells, Pt.slots] at X' l1 y1 z1 stp q1 K'
  subst l1 y1 z1
  refine (K _ T' T'.heap ⟨cx, _, _, _, X', rfl, Fr.app N N', by omega, by omega, O1.keep K' (fun x hx => (hws x hx).elim (hw0 x) (Nat.le_trans hn0)), K1.trans K' hws⟩ K' q1).step (fun t q => stp.trans q)
theorem i_swHit (w : Wk p l e R s m args below meth c Z own bytes maxL ret mn n0 h0 ws T h k n) {key : Int32} {df : Int} {pairs : Array (Int × Int)} {len : Nat} {a off : Int} (d : decode bytes pc = .ok (.lookupswitch df pairs, len)) (hs : (pairs.toList.zip (pairs.toList.drop 1)).all (fun (a, next) => a.1 < next.1) = true) (hf : pairs.find? (·.1 == key.toInt) = some (a, off)) (hp : (pc : Int) + off = (pc' : Int)) (K : Goes p e below P T (mkF m pc' Ls (st))) : Goes p e below P T (mkF m pc Ls (.int key :: st)) := by
  obtain ⟨⟨hx, hb', -⟩, locs, cells, slots, X, -⟩ := w
  have e : pc' = ((pc : Int) + off).toNat := by omega
  subst e
  exact K.step fun t q => X.lookupswitchHit hx (g := mkF m pc Ls (.int key :: st)) rfl rfl (hb hb' d) hs hf (by show 0 ≤ (pc : Int) + off; omega) t q
theorem i_swMiss (w : Wk p l e R s m args below meth c Z own bytes maxL ret mn n0 h0 ws T h k n) {key : Int32} {df : Int} {pairs : Array (Int × Int)} {len : Nat} (d : decode bytes pc = .ok (.lookupswitch df pairs, len)) (hs : (pairs.toList.zip (pairs.toList.drop 1)).all (fun (a, next) => a.1 < next.1) = true) (hf : pairs.find? (·.1 == key.toInt) = none) (hp : (pc : Int) + df = (pc' : Int)) (K : Goes p e below P T (mkF m pc' Ls (st))) : Goes p e below P T (mkF m pc Ls (.int key :: st)) := by
  obtain ⟨⟨hx, hb', -⟩, locs, cells, slots, X, -⟩ := w
  have e : pc' = ((pc : Int) + df).toNat := by omega
  subst e
  exact K.step fun t q => X.lookupswitchMiss hx (g := mkF m pc Ls (.int key :: st)) rfl rfl (hb hb' d) hs hf (by show 0 ≤ (pc : Int) + df; omega) t q
end Calls2
/-- the end of a walk that keeps what is said of String constants -/
def PH (EL : List (String × Nat)) (Z s : State) (n0 : Nat) (h0 : Heap) (ws : List Addr) (Q : Option Value → Heap → Prop) (kc ns : Nat) (o : Outcome) (t : State) : Prop := ∃ v L, o = .returned v ∧ (Q v t.heap ∧ Fr n0 L ∧ Keep h0 t.heap ws) ∧ CHr Z EL s.vm s.heap t.vm t.heap ∧ ReturnedEndW s o t L kc ns
def CtrH (EL : List (String × Nat)) (l : Launch) (Z : State) (n0 : Nat) (y : MethodName) (bytes : ByteArray) (maxL : Nat) (ret : Option FieldType) (cs : List Jvm.Cond) (rm : Room) (as' : Array Value) (h0 : Heap) (ws : List Addr) (Q : Option Value → Heap → Prop) : Prop :=
  MetFree l y (head1 (Cond.code y bytes maxL ret :: cs) rm) (fun a U => a = as' ∧ Z.Warmed39 U.vm ∧ U.heap = h0 ∧ CHv Z EL U.vm h0) (fun _ _ _ _ _ => True) (fun _ U o U' => PH EL Z U n0 h0 ws Q rm.cells rm.slots o U')
section Ends2
variable {p : Program} {l : Launch} {e : Env} {R : Room} {s : State} {m : MethodId} {args : Array Value} {below : List Frame} {meth : Method} {c : Code} {Z : State} {own : String} {bytes : ByteArray} {maxL : Nat} {ret : Option FieldType} {mn : String} {n0 : Nat} {h0 : Heap} {ws : List Addr} {T : State} {h : Heap} {k n : Nat} {P : Outcome → State → Prop} {Ls : Array Slot} {st : List Value} {pc pc' : Nat} {a0 : Array Value} {Q : Option Value → Heap → Prop} {kc ns : Nat} {EL : List (String × Nat)}
theorem i_retIH {s0 : State} {vm0 : Vm} (hEL : EW Z a0 EL) (w : Wk p l e R (s0.setVm vm0) m args below meth c Z own bytes maxL ret mn n0 h0 ws T h k n) {k0 : Nat} (hS : s0.Since vm0 k0) (hk0 : k0 ≤ h.size) (C : CHr Z EL s0.vm s0.heap vm0 h) {z : Int32} (d : decode bytes pc = .ok (.ireturn, 1)) (hr : ret = some .int) (q : Q (some (.int z)) h) (hk : k ≤ kc) (hn : n ≤ ns) : Goes p e below (PH EL Z s0 n0 h0 ws Q kc ns) T (mkF m pc Ls (.int z :: st)) := by
  obtain ⟨⟨hx, hb', hml, hZ, hown, hret, hlk, cr⟩, locs, cells, slots, X, e1, N, b1, b2, O1, K1⟩ := w
  obtain ⟨fs, hl, hrun, hended, hE1, hE2, hE3, hE4⟩ := X.leaveW hS (by rw [e1]; exact hk0) (v := some (.int z)) (fun h => by first | rfl | (rw [hret, hr] at h; cases h)) hlk
  have C2 : CHr Z EL s0.vm s0.heap T.vm T.heap := by rw [e1]; exact C.trans (CHv.at X hZ hEL C.1)
  exact ⟨_, _, retOut X hx (t := .int) (i := .ireturn) (hret.trans hr) rfl (Or.inl ⟨rfl, by simp, z, rfl⟩) (hb hb' d) hl, hrun, hended, _, _, rfl, ⟨by show Q _ T.heap; rw [e1]; exact q, N, by show Keep h0 T.heap ws; rw [e1]; exact K1⟩, C2, hE1, hE2, hE3, hE4.mono (by omega) (by omega)⟩
theorem i_retNH {s0 : State} {vm0 : Vm} (hEL : EW Z a0 EL) (w : Wk p l e R (s0.setVm vm0) m args below meth c Z own bytes maxL ret mn n0 h0 ws T h k n) {k0 : Nat} (hS : s0.Since vm0 k0) (hk0 : k0 ≤ h.size) (C : CHr Z EL s0.vm s0.heap vm0 h) {z : Int32} {t : FieldType} (d : decode bytes pc = .ok (.ireturn, 1)) (hr : ret = some t) (ht : t = .boolean ∨ t = .byte ∨ t = .char ∨ t = .short) (q : Q (some (.int (nar t z))) h) (hk : k ≤ kc) (hn : n ≤ ns) : Goes p e below (PH EL Z s0 n0 h0 ws Q kc ns) T (mkF m pc Ls (.int z :: st)) := by
  obtain ⟨⟨hx, hb', hml, hZ, hown, hret, hlk, cr⟩, locs, cells, slots, X, e1, N, b1, b2, O1, K1⟩ := w
  obtain ⟨fs, hl, hrun, hended, hE1, hE2, hE3, hE4⟩ := X.leaveW hS (by rw [e1]; exact hk0) (v := some (.int (nar t z))) (fun h => by first | rfl | (rw [hret, hr] at h; cases h)) hlk
  have C2 : CHr Z EL s0.vm s0.heap T.vm T.heap := by rw [e1]; exact C.trans (CHv.at X hZ hEL C.1)
  exact ⟨_, _, retN X hx (hret.trans hr) ht (hb hb' d) hl, hrun, hended, _, _, rfl, ⟨by show Q _ T.heap; rw [e1]; exact q, N, by show Keep h0 T.heap ws; rw [e1]; exact K1⟩, C2, hE1, hE2, hE3, hE4.mono (by omega) (by omega)⟩
theorem i_retAH {s0 : State} {vm0 : Vm} (hEL : EW Z a0 EL) (w : Wk p l e R (s0.setVm vm0) m args below meth c Z own bytes maxL ret mn n0 h0 ws T h k n) {k0 : Nat} (hS : s0.Since vm0 k0) (hk0 : k0 ≤ h.size) (C : CHr Z EL s0.vm s0.heap vm0 h) {v : Value} {t : FieldType} (d : decode bytes pc = .ok (.areturn, 1)) (hr : ret = some t) (ht : t.isReference = true) (hv : v.isRef = true) (q : Q (some v) h) (hk : k ≤ kc) (hn : n ≤ ns) : Goes p e below (PH EL Z s0 n0 h0 ws Q kc ns) T (mkF m pc Ls (v :: st)) := by
  obtain ⟨⟨hx, hb', hml, hZ, hown, hret, hlk, cr⟩, locs, cells, slots, X, e1, N, b1, b2, O1, K1⟩ := w
  obtain ⟨fs, hl, hrun, hended, hE1, hE2, hE3, hE4⟩ := X.leaveW hS (by rw [e1]; exact hk0) (v := some v) (fun h => by first | rfl | (rw [hret, hr] at h; cases h)) hlk
  have C2 : CHr Z EL s0.vm s0.heap T.vm T.heap := by rw [e1]; exact C.trans (CHv.at X hZ hEL C.1)
  exact ⟨_, _, retOut X hx (hret.trans hr) (by cases t <;> cases v <;> simp_all [narrow, Value.isRef]) (Or.inr (Or.inr (Or.inr (Or.inr ⟨rfl, ht, hv⟩)))) (hb hb' d) hl, hrun, hended, _, _, rfl, ⟨by show Q _ T.heap; rw [e1]; exact q, N, by show Keep h0 T.heap ws; rw [e1]; exact K1⟩, C2, hE1, hE2, hE3, hE4.mono (by omega) (by omega)⟩
theorem i_ret0H {s0 : State} {vm0 : Vm} (hEL : EW Z a0 EL) (w : Wk p l e R (s0.setVm vm0) m args below meth c Z own bytes maxL ret mn n0 h0 ws T h k n) {k0 : Nat} (hS : s0.Since vm0 k0) (hk0 : k0 ≤ h.size) (C : CHr Z EL s0.vm s0.heap vm0 h) (d : decode bytes pc = .ok (.return_, 1)) (hr : ret = none) (q : Q (none) h) (hk : k ≤ kc) (hn : n ≤ ns) : Goes p e below (PH EL Z s0 n0 h0 ws Q kc ns) T (mkF m pc Ls ([])) := by
  obtain ⟨⟨hx, hb', hml, hZ, hown, hret, hlk, cr⟩, locs, cells, slots, X, e1, N, b1, b2, O1, K1⟩ := w
  obtain ⟨fs, hl, hrun, hended, hE1, hE2, hE3, hE4⟩ := X.leaveW hS (by rw [e1]; exact hk0) (v := none) (fun h => by first | rfl | (rw [hret, hr] at h; cases h)) hlk
  have C2 : CHr Z EL s0.vm s0.heap T.vm T.heap := by rw [e1]; exact C.trans (CHv.at X hZ hEL C.1)
  exact ⟨_, _, X.returnOut hx (hret.trans hr) (hb hb' d) hl, hrun, hended, _, _, rfl, ⟨by show Q _ T.heap; rw [e1]; exact q, N, by show Keep h0 T.heap ws; rw [e1]; exact K1⟩, C2, hE1, hE2, hE3, hE4.mono (by omega) (by omega)⟩
end Ends2
theorem enterH {EL : List (String × Nat)} {l : Launch} {Z : State} {n0 : Nat} {y : MethodName} {bytes : ByteArray} {maxL : Nat} {ret : Option FieldType} {cs : List Jvm.Cond} {rm : Room} {as' : Array Value} {h0 : Heap} {ws : List Addr} {Q : Option Value → Heap → Prop} {Ls : Array Slot}
    (pn : plainFor y = true) (ef : ∀ m, entryFrame m as' maxL = mkF m 0 Ls []) (O : Old Z n0 h0) (hws : ∀ x ∈ ws, n0 ≤ x)
    (body : ∀ p e s m below meth c T, Wk p l e rm (s.setVm s.vm) m as' below meth c Z y.cls bytes maxL ret y.name n0 h0 ws T h0 0 0 → s.Since s.vm h0.size → CHr Z EL s.vm s.heap s.vm h0 → Goes p e below (PH EL Z s n0 h0 ws Q rm.cells rm.slots) T (mkF m 0 Ls [])) :
    CtrH EL l Z n0 y bytes maxL ret cs rm as' h0 ws Q := by
  refine MetFree.of_bodySF pn hisR ?_
  intro p e s m args below meth c s₁ Bd hml0 hP hK
  obtain ⟨rfl, hZ, hh, hC⟩ := hP
  rw [ef m]
  exact body p e s m below meth c s₁ ⟨⟨Bd.exec, Bd.bytes, hml0, hZ, findClass_of_methodNamed Bd.named, Bd.returns, Bd.notSynchronized, (name_of_methodNamed Bd.named Bd.method).1, hws, Nat.le_trans (Nat.le_of_eq O.1.symm) O.2.1⟩,
    [], 0, 0, Stand.of_body Bd, by rw [← hh, Bd.state]; rfl, Fr.nil n0, Nat.le_refl _, Nat.le_refl _, O, Keep.refl _ _⟩ ⟨State.Warmed39.refl s, fun j p hj hp => absurd (Array.getElem?_eq_some_iff.mp hp).1 (Nat.not_lt.mpr hj)⟩ (by rw [hh]; exact CHr.refl hC)
section Calls3
variable {p : Program} {l : Launch} {e : Env} {R : Room} {s : State} {m : MethodId} {args : Array Value} {below : List Frame} {meth : Method} {c : Code} {Z : State} {own : String} {bytes : ByteArray} {maxL : Nat} {ret : Option FieldType} {mn : String} {n0 : Nat} {h0 : Heap} {ws : List Addr} {T : State} {h : Heap} {k n : Nat} {P : Outcome → State → Prop} {Ls : Array Slot} {st : List Value} {pc pc' : Nat} {a0 : Array Value} {EL : List (String × Nat)}
theorem c_staticH {s0 : State} {vm0 : Vm} (hEL : EW Z a0 EL) (w : Wk p l e R (s0.setVm vm0) m args below meth c Z own bytes maxL ret mn n0 h0 ws T h k n) {k0 : Nat} (hS : s0.Since vm0 k0) (hk0 : k0 ≤ h.size) (H : CHv Z EL vm0 h) {index : Nat} {y : MethodName} {bytes' : ByteArray} {maxL' : Nat} {ret' : Option FieldType} {rm : Room} {ws' : List Addr} {Q : Option Value → Heap → Prop} {argsL : List Value} {sg : MethodDescriptor} (d : decode bytes pc = .ok (.invokestatic index, 3)) (w1 : (Cond.methodLink own index y).before a0 Z = true) (w2 : (Cond.static y).before a0 Z = true) (w3 : (Cond.initialized y.cls).before a0 Z = true) (w4 : (Cond.code y bytes' maxL' ret').before a0 Z = true) (hy : y.cls ≠ "java/lang/invoke/MethodHandle" ∧ y.cls ≠ "java/lang/invoke/VarHandle") (pd : parseMethodDescriptor y.desc = some sg) (ha : argsL.length = sg.parameters.length)
    (C : CtrH EL l Z n0 y bytes' maxL' ret' [] rm argsL.toArray h ws' Q) (hsz : Ls.size = maxL) (hf : rm.frames + 1 ≤ R.frames) {W : Nat} (hW : (st.map fun v => v.category).sum ≤ W) (hl : W + (maxL' + 11) + rm.locals ≤ R.locals) (hc : k + rm.cells ≤ R.cells) (hs : n + rm.slots ≤ R.slots) (hws : ∀ x ∈ ws', x ∈ ws ∨ h0.size ≤ x) (hp : pc + 3 = pc') (K : ∀ v T' h' vm1, Wk p l e R (s0.setVm vm1) m args below meth c Z own bytes maxL ret mn n0 h0 ws T' h' (k + rm.cells) (n + rm.slots) → s0.Since vm1 h'.size → CHr Z EL vm0 h vm1 h' → Keep h h' ws' → Q v h' → Goes p e below P T' (mkF m pc' Ls (v.toList ++ st))) : Goes p e below P T (mkF m pc Ls (argsL.reverse ++ st)) := by
  obtain ⟨cx, locs, cells, slots, X, e1, N, b1, b2, O1, K1⟩ := w
  obtain ⟨hx, hb', hml, hZ, hown, hret, hlk, hmn, hw0, hn0⟩ := id cx
  subst hp
  obtain ⟨_, _, ⟨T', L', k', n'⟩, -, X', hS', hgr, ⟨Lc, ⟨q1, N', K'⟩, l1, y1, z1, hC⟩, stp⟩ := callSS X hx (y := y) hown (mvT hZ w1) (mvT hZ w2) (mvT hZ w3) (mvT hZ w4) hy (backOfSH (s := s0) (W := W) (Q := fun v t L => Q v t ∧ Fr n0 L ∧ Keep h t ws') C hZ w4 w3 hf hl hEL H) (g := mkF m pc Ls (argsL.reverse ++ st)) rfl (hsz.trans hml.symm) (argsL := argsL) (rest := st) (fun sig h => by rw [pd] at h; cases h; exact ha) rfl (by show 2 * 0 + _ ≤ _; omega) (hb hb' d) (fun _ _ => ⟨rfl, e1, by show cells + _ ≤ _; omega, by show slots + _ ≤ _; omega⟩)
  dsimp only [Pt.U, Pt.locs, Pt.cells, Pt.slots] at X' hS' hgr l1 y1 z1 stp q1 K' hC
  subst l1 y1 z1
  have hS2 : s0.Since T'.vm T'.heap.size := hS.trans hS' (Nat.le_trans hk0 (by rw [← e1]; exact hgr))
  refine (K _ T' T'.heap T'.vm ⟨⟨hx, hb', hml, State.Warmed39.trans (t := s0.setVm vm0) hZ hS'.1, by rw [show (s0.setVm T'.vm).vm = T'.vm from rfl, hS'.1.alike.findClass]; exact hown, hret, hlk, hmn, hw0, hn0⟩, _, _, _, X', rfl, Fr.app N N', by omega, by omega, O1.keep K' (fun x hx => (hws x hx).elim (hw0 x) (Nat.le_trans hn0)), K1.trans K' hws⟩ hS2 hC K' q1).step (fun t q => stp.trans q)
theorem c_virtualH {s0 : State} {vm0 : Vm} (hEL : EW Z a0 EL) (w : Wk p l e R (s0.setVm vm0) m args below meth c Z own bytes maxL ret mn n0 h0 ws T h k n) {k0 : Nat} (hS : s0.Since vm0 k0) (hk0 : k0 ≤ h.size) (H : CHv Z EL vm0 h) {index : Nat} {C0 : String} {y : MethodName} {bytes' : ByteArray} {maxL' : Nat} {ret' : Option FieldType} {rm : Room} {ws' : List Addr} {Q : Option Value → Heap → Prop} {argsL : List Value} {a : Addr} {sg : MethodDescriptor} (d : decode bytes pc = .ok (.invokevirtual index, 3)) (w1 : (Cond.methodLink own index y).before a0 Z = true) (w2 : (Cond.declares y).before a0 Z = true) (w3 : (Cond.selects C0 y y).before a0 Z = true) (w4 : (Cond.instanceMethod y).before a0 Z = true) (w5 : (Cond.code y bytes' maxL' ret').before a0 Z = true) (w6 : (Cond.initialized y.cls).before a0 Z = true) (hy : y.cls ≠ "java/lang/invoke/MethodHandle" ∧ y.cls ≠ "java/lang/invoke/VarHandle") (pd : parseMethodDescriptor y.desc = some sg) (ha : argsL.length = sg.parameters.length) (E : Exa Z h a C0)
    (C : CtrH EL l Z n0 y bytes' maxL' ret' [] rm (.ref a :: argsL).toArray h ws' Q) (hsz : Ls.size = maxL) (hf : rm.frames + 1 ≤ R.frames) {W : Nat} (hW : (st.map fun v => v.category).sum ≤ W) (hl : W + (maxL' + 11) + rm.locals ≤ R.locals) (hc : k + rm.cells ≤ R.cells) (hs : n + rm.slots ≤ R.slots) (hws : ∀ x ∈ ws', x ∈ ws ∨ h0.size ≤ x) (hp : pc + 3 = pc') (K : ∀ v T' h' vm1, Wk p l e R (s0.setVm vm1) m args below meth c Z own bytes maxL ret mn n0 h0 ws T' h' (k + rm.cells) (n + rm.slots) → s0.Since vm1 h'.size → CHr Z EL vm0 h vm1 h' → Keep h h' ws' → Q v h' → Goes p e below P T' (mkF m pc' Ls (v.toList ++ st))) : Goes p e below P T (mkF m pc Ls (argsL.reverse ++ .ref a :: st)) := by
  obtain ⟨cx, locs, cells, slots, X, e1, N, b1, b2, O1, K1⟩ := w
  obtain ⟨hx, hb', hml, hZ, hown, hret, hlk, hmn, hw0, hn0⟩ := id cx
  subst hp
  obtain ⟨cq, kq, qa, qb, qc⟩ := isOf (T := T) hZ e1 E
  obtain ⟨_, _, ⟨T', L', k', n'⟩, -, X', hS', hgr, ⟨Lc, ⟨q1, N', K'⟩, l1, y1, z1, hC⟩, stp⟩ := X.virtualBackS hx (y := y) (z := y) hown (mvT hZ w1) (mvT hZ w2) (notFace_of_selects (args := #[]) (mvT hZ w3)) (mvT hZ w3) (mvT hZ w4) hy (backOfSH (s := s0) (W := W) (Q := fun v t L => Q v t ∧ Fr n0 L ∧ Keep h t ws') C hZ w5 w6 hf hl hEL H) qa qc (g := mkF m pc Ls (argsL.reverse ++ .ref a :: st)) rfl (hsz.trans hml.symm) (Steps.refl _) (argsL := argsL) (rest := st) (fun sig h => by rw [pd] at h; cases h; exact ha) rfl (by show 2 * 0 + _ ≤ _; omega) (hb hb' d) (fun _ _ => ⟨rfl, e1, by show cells + _ ≤ _; omega, by show slots + _ ≤ _; omega⟩)
  dsimp only [Pt.U, Pt.locs, Pt.cells, Pt.slots] at X' hS' hgr l1 y1 z1 stp q1 K' hC
  subst l1 y1 z1
  have hS2 : s0.Since T'.vm T'.heap.size := hS.trans hS' (Nat.le_trans hk0 (by rw [← e1]; exact hgr))
  refine (K _ T' T'.heap T'.vm ⟨⟨hx, hb', hml, State.Warmed39.trans (t := s0.setVm vm0) hZ hS'.1, by rw [show (s0.setVm T'.vm).vm = T'.vm from rfl, hS'.1.alike.findClass]; exact hown, hret, hlk, hmn, hw0, hn0⟩, _, _, _, X', rfl, Fr.app N N', by omega, by omega, O1.keep K' (fun x hx => (hws x hx).elim (hw0 x) (Nat.le_trans hn0)), K1.trans K' hws⟩ hS2 hC K' q1).step (fun t q => stp.trans q)
theorem i_ldcO {s0 : State} {vm0 : Vm} (hEL : EW Z a0 EL) (w : Wk p l e R (s0.setVm vm0) m args below meth c Z own bytes maxL ret mn n0 h0 ws T h k n) {k0 : Nat} (hS : s0.Since vm0 k0) (hk0 : k0 ≤ h.size) (H : CHv Z EL vm0 h) {index N : Nat} {text : String} (d : decode bytes pc = .ok (.ldc index, 2)) (w1 : (Cond.stringLink own index text).before a0 Z = true) (wS : ∀ a ∈ Bundle.stringAtoms, a.before a0 Z = true) (hN : 4 * text.toList.length ≤ N) (hbig : N ≤ 536870912) (hc : k + 2 ≤ R.cells) (hs : n + (N + 4) ≤ R.slots) (hp : pc + 2 = pc')
    (K : ∀ a T' h' vm1, Wk p l e R (s0.setVm vm1) m args below meth c Z own bytes maxL ret mn n0 h0 ws T' h' (k + 2) (n + (N + 4)) → s0.Since vm1 h'.size → Ext h h' → CHr Z EL vm0 h vm1 h' → Goes p e below P T' (mkF m pc' Ls (.ref a :: st))) : Goes p e below P T (mkF m pc Ls (st)) := by
  obtain ⟨cx, locs, cells, slots, X, e1, N1, b1, b2, O1, K1⟩ := w
  obtain ⟨hx, hb', hml, hZ, hown, cr⟩ := id cx
  subst hp
  obtain ⟨a, T', h', k1, X', e', E, hS', hk1, hZ', hown', hC, -, stp⟩ := ldcOH X hx hZ hown w1 wS e1 hS hk0 hEL H (g := mkF m pc Ls st) rfl (hb hb' d) hN hbig (by omega) (by omega)
  exact (K a T' h' T'.vm ⟨⟨hx, hb', hml, hZ', hown', cr⟩, locs, _, _, X', e', N1, by omega, by omega, O1.ext E, K1.ext E⟩ ⟨hS'.1, hS'.2.mono hk1⟩ E hC).step stp
theorem i_ldcR {s0 : State} {vm0 : Vm} (hEL : EW Z a0 EL) (w : Wk p l e R (s0.setVm vm0) m args below meth c Z own bytes maxL ret mn n0 h0 ws T h k n) {k0 : Nat} (hS : s0.Since vm0 k0) (hk0 : k0 ≤ h.size) (H : CHv Z EL vm0 h) {index N : Nat} {text : String} (d : decode bytes pc = .ok (.ldc index, 2)) (w1 : (Cond.stringLink own index text).before a0 Z = true) (wS : ∀ a ∈ Bundle.stringAtoms, a.before a0 Z = true) (hN : 4 * text.toList.length ≤ N) (hbig : N ≤ 536870912) (hc : k + 2 ≤ R.cells) (hs : n + (N + 4) ≤ R.slots) (hp : pc + 2 = pc') {cs : List Nat} (hmem : (own, index) ∈ EL) (ht : ∀ c ∈ text.toList, c.toNat < 256) (ht' : text.toList.map (fun c => Value.int (Jvm.Lit.byteI c.toNat.toUInt16)) = lat cs) (hcs : cs.length < 2147483648) (hcl : ∀ c ∈ cs, c < 256)
    (K : ∀ a b ca T' h' vm1, Wk p l e R (s0.setVm vm1) m args below meth c Z own bytes maxL ret mn n0 h0 ws T' h' (k + 2) (n + (N + 4)) → s0.Since vm1 h'.size → Ext h h' → CHr Z EL vm0 h vm1 h' → StrL Z h' a b ca cs → (∀ x, Safe Z EL vm1 h' x → x ≠ a ∧ x ≠ b) → Goes p e below P T' (mkF m pc' Ls (.ref a :: st))) : Goes p e below P T (mkF m pc Ls (st)) := by
  obtain ⟨cx, locs, cells, slots, X, e1, N1, b1, b2, O1, K1⟩ := w
  obtain ⟨hx, hb', hml, hZ, hown, cr⟩ := id cx
  subst hp
  obtain ⟨a, T', h', k1, b, kk, X', e', E, hS', hk1, hZ', hown', E1, E2, E3, E4, -, -, hC, -, hne, stp⟩ := ldcCH X hx hZ hown w1 wS e1 hS hk0 hEL hmem H (z := Int32.ofNat (lat cs).length) ⟨ht, ht'⟩ (nonneg_ofNat (by rw [lat_len]; exact hcs)) (by rw [clamp_ofNat (by rw [lat_len]; exact hcs)]) (g := mkF m pc Ls st) rfl (hb hb' d) hN hbig (by omega) (by omega)
  exact (K a b kk T' h' T'.vm ⟨⟨hx, hb', hml, hZ', hown', cr⟩, locs, _, _, X', e', N1, by omega, by omega, O1.ext E, K1.ext E⟩ ⟨hS'.1, hS'.2.mono hk1⟩ E hC ⟨E1, E3, E2, ⟨by rw [lat_len]; exact hcs, E4⟩, hcl⟩ hne).step stp
end Calls3
end Jvm.OwnKit
namespace Jvm.Pilot.@@N@@
open Jvm Jvm.ClassFile Sem Op Lib Jvm.Free Jvm.Stand Jvm.LawKit Jvm.RoadKit Bundle Jvm.Pilot.@@N@@.Jvm.D Jvm.OwnKit
def own_mean (x : Nat) : Nat := if x = 116 then 9 else if x = 110 then 10 else if x = 114 then 13 else x
def own_un : Bool → List Nat → List Nat
  | _, [] => []
  | false, x :: xs => if x = 92 then own_un true xs else x :: own_un false xs
  | true, x :: xs => own_mean x :: own_un false xs
theorem own_un_92 {xs : List Nat} : own_un false (92 :: xs) = own_un true xs := by simp [own_un]
theorem own_un_ch {x : Nat} {xs : List Nat} (h : ¬ x = 92) : own_un false (x :: xs) = x :: own_un false xs := by simp [own_un, h]
theorem own_un_m {x : Nat} {xs : List Nat} : own_un true (x :: xs) = own_mean x :: own_un false xs := by simp [own_un]
theorem own_mean_lt {x : Nat} (h : x < 65536) : own_mean x < 65536 := by unfold own_mean; split; omega; split; omega; split; omega; exact h
theorem own_drop {cs : List Nat} {i ci : Nat} (h : cs[i]? = some ci) : cs.drop i = ci :: cs.drop (i + 1) := by
  obtain ⟨hi, e⟩ := List.getElem?_eq_some_iff.mp h
  rw [List.drop_eq_getElem_cons hi, e]
theorem own_chs_set {fs : List Nat} {i x : Nat} (h : x < 65536) : (chs fs).set i (.int (nar .char (Int32.ofNat x))) = chs (fs.set i x) := by rw [char_of_nat h]; simp [chs, List.map_set]
theorem own_take1 {es : List Nat} {n x : Nat} (h : n < es.length) : (es.set n x).take (n + 1) = es.take n ++ [x] := by
  rw [take_succ_some (c := x) (by rw [List.getElem?_set_self h]), List.take_set_of_le (Nat.le_refl _)]
theorem own_take2 {es : List Nat} {n x y : Nat} (h : n + 1 < es.length) : ((es.set n x).set (n + 1) y).take (n + 2) = es.take n ++ [x, y] := by
  rw [own_take1 (n := n + 1) (by simpa using h), own_take1 (by omega)]; simp
theorem own_kind (v : Int64) : (v &&& (3 : Int64)).toInt32 = 0 ∨ (v &&& (3 : Int64)).toInt32 = 1 ∨ (v &&& (3 : Int64)).toInt32 = 2 ∨ (v &&& (3 : Int64)).toInt32 = 3 := by
  have hb : (v &&& (3 : Int64)).toBitVec = v.toBitVec &&& 3#64 := rfl
  have hlt : (v &&& (3 : Int64)).toBitVec.toNat < 4 := by
    rw [hb, BitVec.toNat_and, show (3#64).toNat = 2 ^ 2 - 1 by decide, Nat.and_two_pow_sub_one_eq_mod]; exact Nat.mod_lt _ (by decide)
  have key : ∀ k, k < 4 → (v &&& (3 : Int64)).toBitVec.toNat = k → v &&& (3 : Int64) = Int64.ofNat k := fun k hk e => by
    apply Int64.toBitVec_inj.mp; apply BitVec.eq_of_toNat_eq; rw [e]
    show k = (BitVec.ofNat 64 k).toNat
    rw [BitVec.toNat_ofNat]; omega
  obtain h | h | h | h : (v &&& (3 : Int64)).toBitVec.toNat = 0 ∨ (v &&& (3 : Int64)).toBitVec.toNat = 1 ∨ (v &&& (3 : Int64)).toBitVec.toNat = 2 ∨ (v &&& (3 : Int64)).toBitVec.toNat = 3 := by omega
  · rw [key 0 (by omega) h]; exact Or.inl rfl
  · rw [key 1 (by omega) h]; exact Or.inr (Or.inl rfl)
  · rw [key 2 (by omega) h]; exact Or.inr (Or.inr (Or.inl rfl))
  · rw [key 3 (by omega) h]; exact Or.inr (Or.inr (Or.inr rfl))
theorem own_EW {Z : State} {a0 : Array Value} (hw : ∀ d ∈ tables_1, d.before a0 Z = true) : EW Z a0 consts_1 := EW.cons (hw _ (List.mem_of_getElem? (i := 212) rfl)) (by decide) EW.nil

theorem own_d9_0 : decode jdk_52_method_21_code 0 = .ok (.iconst 0, 1) := by decide +kernel
theorem own_d9_1 : decode jdk_52_method_21_code 1 = .ok (.istore 5, 2) := by decide +kernel
theorem own_d9_3 : decode jdk_52_method_21_code 3 = .ok (.iload 5, 2) := by decide +kernel
theorem own_d9_5 : decode jdk_52_method_21_code 5 = .ok (.iload 4, 2) := by decide +kernel
theorem own_d9_7 : decode jdk_52_method_21_code 7 = .ok (.if_icmp .ge 37, 3) := by decide +kernel
theorem own_d9_10 : decode jdk_52_method_21_code 10 = .ok (.aload_n 0, 1) := by decide +kernel
theorem own_d9_11 : decode jdk_52_method_21_code 11 = .ok (.iload_n 1, 1) := by decide +kernel
theorem own_d9_12 : decode jdk_52_method_21_code 12 = .ok (.caload, 1) := by decide +kernel
theorem own_d9_13 : decode jdk_52_method_21_code 13 = .ok (.istore 6, 2) := by decide +kernel
theorem own_d9_15 : decode jdk_52_method_21_code 15 = .ok (.iload 6, 2) := by decide +kernel
theorem own_d9_17 : decode jdk_52_method_21_code 17 = .ok (.sipush 255, 3) := by decide +kernel
theorem own_d9_20 : decode jdk_52_method_21_code 20 = .ok (.if_icmp .le 6, 3) := by decide +kernel
theorem own_d9_23 : decode jdk_52_method_21_code 23 = .ok (.iload 5, 2) := by decide +kernel
theorem own_d9_25 : decode jdk_52_method_21_code 25 = .ok (.ireturn, 1) := by decide +kernel
theorem own_d9_26 : decode jdk_52_method_21_code 26 = .ok (.aload_n 2, 1) := by decide +kernel
theorem own_d9_27 : decode jdk_52_method_21_code 27 = .ok (.iload_n 3, 1) := by decide +kernel
theorem own_d9_28 : decode jdk_52_method_21_code 28 = .ok (.iload 6, 2) := by decide +kernel
theorem own_d9_30 : decode jdk_52_method_21_code 30 = .ok (.i2b, 1) := by decide +kernel
theorem own_d9_31 : decode jdk_52_method_21_code 31 = .ok (.bastore, 1) := by decide +kernel
theorem own_d9_32 : decode jdk_52_method_21_code 32 = .ok (.iinc 1 1, 3) := by decide +kernel
theorem own_d9_35 : decode jdk_52_method_21_code 35 = .ok (.iinc 3 1, 3) := by decide +kernel
theorem own_d9_38 : decode jdk_52_method_21_code 38 = .ok (.iinc 5 1, 3) := by decide +kernel
theorem own_d9_41 : decode jdk_52_method_21_code 41 = .ok (.goto (-38), 3) := by decide +kernel
theorem own_d9_44 : decode jdk_52_method_21_code 44 = .ok (.iload 4, 2) := by decide +kernel
theorem own_d9_46 : decode jdk_52_method_21_code 46 = .ok (.ireturn, 1) := by decide +kernel
theorem own_pn_java_lang_StringUTF16 : plainName "java/lang/StringUTF16" = true := by first | (simp [plainName, overriddenIn]; done) | decide +kernel
set_option maxRecDepth 65536 in
set_option maxHeartbeats 40000000 in
theorem own_cmp5_loop (l : Launch) (Z : State) (b d : Addr) (cb cd : ClassId) (cs : List Nat) (hcs : ∀ c ∈ cs, c < 65536) (hn : cs.length ≤ 65536) (hbd : b ≠ d) (h0 : Heap) (n0 : Nat) {p : Program} {e : Env} {s : State} {m : MethodId} {args : Array Value} {below : List Frame} {meth : Method} {c : Code} :
    ∀ (j i : Nat) (T : State) (h : Heap) (kk nn : Nat) (o6 : Slot) (bs : List Value), i + j = cs.length → One o6 → Wk p l e ({ frames := 0, cells := 0, slots := 0, locals := 0 } : Room) s m args below meth c Z "java/lang/StringUTF16" jdk_52_method_21_code 7 (some .int) "compress" n0 h0 [d] T h 0 0 → Ary Z h b cb .char (chs cs) → Ary Z h d cd .byte bs → bs.length = cs.length → bs.take i = lat (cs.take i) → (∀ c ∈ cs.take i, c < 256) →
      Goes p e below (PN s n0 h0 [d] (fun v h => ∃ j bs, v = some (.int (Int32.ofNat j)) ∧ j ≤ cs.length ∧ (∀ c ∈ cs.take j, c < 256) ∧ (∀ c, cs[j]? = some c → 256 ≤ c) ∧ Ary Z h d cd .byte bs ∧ bs.length = cs.length ∧ bs.take j = lat (cs.take j)) 0 0) T (mkF m 3 #[.val (.ref b), .val (.int (Int32.ofNat i)), .val (.ref d), .val (.int (Int32.ofNat i)), .val (.int (Int32.ofNat cs.length)), .val (.int (Int32.ofNat i)), o6] []) := by
  intro j
  induction j with
  | zero =>
    intro i T h kk nn o6 bs hij ho6 w Ab Ad hbl ht hs
    refine i_iload w own_d9_3 rfl (pc' := 5) rfl ?_
    refine i_iload w own_d9_5 rfl (pc' := 7) rfl ?_
    refine i_icmp_ge_Y w (by rw [show i = cs.length by omega]; exact Int32.lt_irrefl) own_d9_7 (pc' := 44) (by decide) ?_
    refine i_iload w own_d9_44 rfl (pc' := 46) rfl ?_
    exact i_retI w own_d9_46 rfl ⟨cs.length, bs, rfl, Nat.le_refl _, by rw [show cs.length = i by omega]; exact hs, fun c hc => by simp at hc, Ad, hbl, by rw [show cs.length = i by omega]; exact ht⟩ (by decide) (by decide)
  | succ j ih =>
    intro i T h kk nn o6 bs hij ho6 w Ab Ad hbl ht hs
    obtain ⟨ci, hci⟩ : ∃ ci, cs[i]? = some ci := ⟨_, List.getElem?_eq_getElem (by omega)⟩
    have hcb : ci < 65536 := hcs ci (List.mem_of_getElem? hci)
    refine i_iload w own_d9_3 rfl (pc' := 5) rfl ?_
    refine i_iload w own_d9_5 rfl (pc' := 7) rfl ?_
    refine i_icmp_ge_N w ((lt_nat (by omega) (by omega)).mpr (by omega)) own_d9_7 (pc' := 10) rfl ?_
    refine i_aloadN w own_d9_10 rfl rfl (pc' := 11) rfl ?_
    refine i_iloadN w own_d9_11 rfl (pc' := 12) rfl ?_
    refine i_caload w own_d9_12 Ab rfl (chs_at hci) (pc' := 13) rfl ?_
    refine i_istore w own_d9_13 (l' := #[.val (.ref b), .val (.int (Int32.ofNat i)), .val (.ref d), .val (.int (Int32.ofNat i)), .val (.int (Int32.ofNat cs.length)), .val (.int (Int32.ofNat i)), .val (.int (Int32.ofNat ci))]) (XS.store1 rfl ho6 rfl) (pc' := 15) rfl ?_
    refine i_iload w own_d9_15 rfl (pc' := 17) rfl ?_
    refine i_sipush w own_d9_17 (z := (255 : Int32)) (by decide) (pc' := 20) rfl ?_
    refine i_icmp_le w own_d9_20 (pcY := 26) (by decide) (pc' := 23) rfl (fun hc20 => ?_) (fun hc20 => ?_)
    ·
      refine i_aloadN w own_d9_26 rfl rfl (pc' := 27) rfl ?_
      refine i_iloadN w own_d9_27 rfl (pc' := 28) rfl ?_
      refine i_iload w own_d9_28 rfl (pc' := 30) rfl ?_
      refine i_i2b w own_d9_30 (pc' := 31) rfl ?_
      refine i_bastore w own_d9_31 Ad (i := i) rfl (by omega) (Or.inl (List.mem_singleton.mpr rfl)) (pc' := 32) rfl ?_
      intro T1 h1 w1 K1 A1
      show Goes p e below _ T1 (mkF m 32 #[.val (.ref b), .val (.int (Int32.ofNat i)), .val (.ref d), .val (.int (Int32.ofNat i)), .val (.int (Int32.ofNat cs.length)), .val (.int (Int32.ofNat i)), .val (.int (Int32.ofNat ci))] [])
      refine i_iinc w1 own_d9_32 rfl (z := (Int32.ofNat (i + 1))) (inc_nat i) (l' := #[.val (.ref b), .val (.int (Int32.ofNat (i + 1))), .val (.ref d), .val (.int (Int32.ofNat i)), .val (.int (Int32.ofNat cs.length)), .val (.int (Int32.ofNat i)), .val (.int (Int32.ofNat ci))]) rfl (pc' := 35) rfl ?_
      refine i_iinc w1 own_d9_35 rfl (z := (Int32.ofNat (i + 1))) (inc_nat i) (l' := #[.val (.ref b), .val (.int (Int32.ofNat (i + 1))), .val (.ref d), .val (.int (Int32.ofNat (i + 1))), .val (.int (Int32.ofNat cs.length)), .val (.int (Int32.ofNat i)), .val (.int (Int32.ofNat ci))]) rfl (pc' := 38) rfl ?_
      refine i_iinc w1 own_d9_38 rfl (z := (Int32.ofNat (i + 1))) (inc_nat i) (l' := #[.val (.ref b), .val (.int (Int32.ofNat (i + 1))), .val (.ref d), .val (.int (Int32.ofNat (i + 1))), .val (.int (Int32.ofNat cs.length)), .val (.int (Int32.ofNat (i + 1))), .val (.int (Int32.ofNat ci))]) rfl (pc' := 41) rfl ?_
      refine i_goto w1 own_d9_41 (pc' := 3) (by decide) ?_
      exact ih (i + 1) T1 h1 kk nn (.val (.int (Int32.ofNat ci))) _ (by omega) (One.val rfl) w1 (Ab.keep K1 (ninS hbd nin0)) A1 (by simpa using hbl) (lat_step hbl hci ht) (all_step hci hs ((le255 hcb).mp hc20))
    ·
      refine i_iload w own_d9_23 rfl (pc' := 25) rfl ?_
      exact i_retI w own_d9_25 rfl ⟨i, bs, rfl, by omega, hs, fun c hc => by rw [hci] at hc; cases hc; exact (gt255 hcb).mp hc20, Ad, hbl, ht⟩ (by decide) (by decide)
theorem own_pd_pACIABIIqI : parseMethodDescriptor "([CI[BII)I" = some ⟨[(.array .char), .int, (.array .byte), .int, .int], some .int⟩ := by decide +kernel
theorem own_ef_own_d9 (m : MethodId) (x0 : Addr) (x1 : Int32) (x2 : Addr) (x3 : Int32) (x4 : Int32) : entryFrame m #[(.ref x0), (.int x1), (.ref x2), (.int x3), (.int x4)] 7 = mkF m 0 #[.val (.ref x0), .val (.int x1), .val (.ref x2), .val (.int x3), .val (.int x4), .unset, .unset] [] := by
  first | (simp [entryFrame, mkF, argsToLocals, Value.category]; done) | rfl
set_option maxRecDepth 65536 in
set_option maxHeartbeats 40000000 in
theorem own_cmp5 (l : Launch) (Z : State) (a0 : Array Value) (hw : ∀ d ∈ tables_1, d.before a0 Z = true) (b d : Addr) (cb cd : ClassId) (cs : List Nat) (bs0 : List Value) (h0 : Heap) (n0 : Nat) (O : Old Z n0 h0) (hcs : ∀ c ∈ cs, c < 65536) (hn : cs.length ≤ 65536) (hbd : b ≠ d) (hd : n0 ≤ d) (Ab : Ary Z h0 b cb .char (chs cs)) (Ad : Ary Z h0 d cd .byte bs0) (hbl : bs0.length = cs.length) :
    Ctr l Z n0 (⟨"java/lang/StringUTF16", "compress", "([CI[BII)I"⟩ : MethodName) jdk_52_method_21_code 7 (some .int) [] ({ frames := 0, cells := 0, slots := 0, locals := 0 } : Room) #[(.ref b), (.int (0 : Int32)), (.ref d), (.int (0 : Int32)), (.int (Int32.ofNat cs.length))] h0 [d] (fun v h => ∃ j bs, v = some (.int (Int32.ofNat j)) ∧ j ≤ cs.length ∧ (∀ c ∈ cs.take j, c < 256) ∧ (∀ c, cs[j]? = some c → 256 ≤ c) ∧ Ary Z h d cd .byte bs ∧ bs.length = cs.length ∧ bs.take j = lat (cs.take j)) := by
  refine enter (plainFor_of_name own_pn_java_lang_StringUTF16) (fun m => own_ef_own_d9 m b (0 : Int32) d (0 : Int32) (Int32.ofNat cs.length)) O (allS hd all0) ?_
  intro p e s m below meth c T w
  refine i_iconst w own_d9_0 (z := (0 : Int32)) (by decide) (pc' := 1) rfl ?_
  refine i_istore w own_d9_1 (l' := #[.val (.ref b), .val (.int (0 : Int32)), .val (.ref d), .val (.int (0 : Int32)), .val (.int (Int32.ofNat cs.length)), .val (.int (0 : Int32)), .unset]) rfl (pc' := 3) rfl ?_
  exact own_cmp5_loop l Z b d cb cd cs hcs hn hbd h0 n0 cs.length 0 T h0 0 0 .unset _ (by omega) One.u w Ab Ad hbl rfl (fun c hc => nomatch hc)
theorem own_d12_0 : decode jdk_52_method_3_code 0 = .ok (.iload_n 0, 1) := by decide +kernel
theorem own_d12_1 : decode jdk_52_method_3_code 1 = .ok (.ifCond .ge 11, 3) := by decide +kernel
theorem own_d12_4 : decode jdk_52_method_3_code 4 = .ok (.new 17, 3) := by decide +kernel
theorem own_d12_7 : decode jdk_52_method_3_code 7 = .ok (.dup, 1) := by decide +kernel
theorem own_d12_8 : decode jdk_52_method_3_code 8 = .ok (.invokespecial 19, 3) := by decide +kernel
theorem own_d12_11 : decode jdk_52_method_3_code 11 = .ok (.athrow, 1) := by decide +kernel
theorem own_d12_12 : decode jdk_52_method_3_code 12 = .ok (.iload_n 0, 1) := by decide +kernel
theorem own_d12_13 : decode jdk_52_method_3_code 13 = .ok (.ldc 20, 2) := by decide +kernel
theorem own_d12_15 : decode jdk_52_method_3_code 15 = .ok (.if_icmp .lt 40, 3) := by decide +kernel
theorem own_d12_18 : decode jdk_52_method_3_code 18 = .ok (.new 21, 3) := by decide +kernel
theorem own_d12_21 : decode jdk_52_method_3_code 21 = .ok (.dup, 1) := by decide +kernel
theorem own_d12_22 : decode jdk_52_method_3_code 22 = .ok (.new 23, 3) := by decide +kernel
theorem own_d12_25 : decode jdk_52_method_3_code 25 = .ok (.dup, 1) := by decide +kernel
theorem own_d12_26 : decode jdk_52_method_3_code 26 = .ok (.invokespecial 25, 3) := by decide +kernel
theorem own_d12_29 : decode jdk_52_method_3_code 29 = .ok (.ldc 26, 2) := by decide +kernel
theorem own_d12_31 : decode jdk_52_method_3_code 31 = .ok (.invokevirtual 28, 3) := by decide +kernel
theorem own_d12_34 : decode jdk_52_method_3_code 34 = .ok (.iload_n 0, 1) := by decide +kernel
theorem own_d12_35 : decode jdk_52_method_3_code 35 = .ok (.invokevirtual 32, 3) := by decide +kernel
theorem own_d12_38 : decode jdk_52_method_3_code 38 = .ok (.ldc 35, 2) := by decide +kernel
theorem own_d12_40 : decode jdk_52_method_3_code 40 = .ok (.invokevirtual 28, 3) := by decide +kernel
theorem own_d12_43 : decode jdk_52_method_3_code 43 = .ok (.ldc 20, 2) := by decide +kernel
theorem own_d12_45 : decode jdk_52_method_3_code 45 = .ok (.invokevirtual 32, 3) := by decide +kernel
theorem own_d12_48 : decode jdk_52_method_3_code 48 = .ok (.invokevirtual 37, 3) := by decide +kernel
theorem own_d12_51 : decode jdk_52_method_3_code 51 = .ok (.invokespecial 41, 3) := by decide +kernel
theorem own_d12_54 : decode jdk_52_method_3_code 54 = .ok (.athrow, 1) := by decide +kernel
theorem own_d12_55 : decode jdk_52_method_3_code 55 = .ok (.iload_n 0, 1) := by decide +kernel
theorem own_d12_56 : decode jdk_52_method_3_code 56 = .ok (.iconst 1, 1) := by decide +kernel
theorem own_d12_57 : decode jdk_52_method_3_code 57 = .ok (.ishl, 1) := by decide +kernel
theorem own_d12_58 : decode jdk_52_method_3_code 58 = .ok (.ireturn, 1) := by decide +kernel
theorem own_pd_pIqI : parseMethodDescriptor "(I)I" = some ⟨[.int], some .int⟩ := by decide +kernel
theorem own_ef_own_d12 (m : MethodId) (x0 : Int32) : entryFrame m #[(.int x0)] 1 = mkF m 0 #[.val (.int x0)] [] := by
  first | (simp [entryFrame, mkF, argsToLocals, Value.category]; done) | rfl
set_option maxRecDepth 65536 in
set_option maxHeartbeats 40000000 in
theorem own_nbLen (l : Launch) (Z : State) (a0 : Array Value) (hw : ∀ d ∈ tables_1, d.before a0 Z = true) (N : Nat) (h0 : Heap) (n0 : Nat) (O : Old Z n0 h0) (hN : N ≤ 65536) :
    Ctr l Z n0 (⟨"java/lang/StringUTF16", "newBytesLength", "(I)I"⟩ : MethodName) jdk_52_method_3_code 1 (some .int) [] ({ frames := 0, cells := 0, slots := 0, locals := 0 } : Room) #[(.int (Int32.ofNat N))] h0 [] (fun v h => v = some (.int (Int32.ofNat (2 * N))) ∧ h0 = h) := by
  refine enter (plainFor_of_name own_pn_java_lang_StringUTF16) (fun m => own_ef_own_d12 m (Int32.ofNat N)) O (fun _ q => nomatch q) ?_
  intro p e s m below meth c T w
  refine i_iloadN w own_d12_0 rfl (pc' := 1) rfl ?_
  refine i_if_ge_Y w (nonneg_ofNat (by omega)) own_d12_1 (pc' := 12) (by decide) ?_
  refine i_iloadN w own_d12_12 rfl (pc' := 13) rfl ?_
  refine i_ldcI w (hw _ (List.mem_of_getElem? (i := 47) rfl)) own_d12_13 (pc' := 15) rfl ?_
  refine i_icmp_lt_Y w (by rw [show (1073741823 : Int32) = Int32.ofNat 1073741823 from rfl, lt_nat (by omega) (by omega)]; omega) own_d12_15 (pc' := 55) (by decide) ?_
  refine i_iloadN w own_d12_55 rfl (pc' := 56) rfl ?_
  refine i_iconst w own_d12_56 (z := (1 : Int32)) (by decide) (pc' := 57) rfl ?_
  refine i_ishl w own_d12_57 (pc' := 58) rfl ?_
  exact i_retI w own_d12_58 rfl ⟨by rw [shl1], rfl⟩ (by decide) (by decide)
theorem own_d11_0 : decode jdk_52_method_2_code 0 = .ok (.iload_n 0, 1) := by decide +kernel
theorem own_d11_1 : decode jdk_52_method_2_code 1 = .ok (.invokestatic 11, 3) := by decide +kernel
theorem own_d11_4 : decode jdk_52_method_2_code 4 = .ok (.newarray .byte, 2) := by decide +kernel
theorem own_d11_6 : decode jdk_52_method_2_code 6 = .ok (.areturn, 1) := by decide +kernel
theorem own_pd_pIqAB : parseMethodDescriptor "(I)[B" = some ⟨[.int], some (.array .byte)⟩ := by decide +kernel
theorem own_ef_own_d11 (m : MethodId) (x0 : Int32) : entryFrame m #[(.int x0)] 1 = mkF m 0 #[.val (.int x0)] [] := by
  first | (simp [entryFrame, mkF, argsToLocals, Value.category]; done) | rfl
set_option maxRecDepth 65536 in
set_option maxHeartbeats 40000000 in
theorem own_nbFor (l : Launch) (Z : State) (a0 : Array Value) (hw : ∀ d ∈ tables_1, d.before a0 Z = true) (N : Nat) (h0 : Heap) (n0 : Nat) (O : Old Z n0 h0) (hN : N ≤ 16) :
    Ctr l Z n0 (⟨"java/lang/StringUTF16", "newBytesFor", "(I)[B"⟩ : MethodName) jdk_52_method_2_code 1 (some (.array .byte)) [] ({ frames := 1, cells := 1, slots := 32, locals := 12 } : Room) #[(.int (Int32.ofNat N))] h0 [] (fun v h => ∃ t ca, v = some (.ref t) ∧ h0.size ≤ t ∧ Ary Z h t ca .byte (List.replicate (2 * N) (.int 0))) := by
  refine enter (plainFor_of_name own_pn_java_lang_StringUTF16) (fun m => own_ef_own_d11 m (Int32.ofNat N)) O (fun _ q => nomatch q) ?_
  intro p e s m below meth c T w
  refine i_iloadN w own_d11_0 rfl (pc' := 1) rfl ?_
  refine c_static w (y := (⟨"java/lang/StringUTF16", "newBytesLength", "(I)I"⟩ : MethodName)) (argsL := [(.int (Int32.ofNat N))]) (st := []) own_d11_1 (hw _ (List.mem_of_getElem? (i := 44) rfl)) (hw _ (List.mem_of_getElem? (i := 45) rfl)) (hw _ (List.mem_of_getElem? (i := 32) rfl)) (hw _ (List.mem_of_getElem? (i := 46) rfl)) (by decide) own_pd_pIqI rfl (own_nbLen l Z a0 hw N h0 n0 w.old (by omega)) rfl (by decide) (W := 0) (Nat.le_of_eq rfl) (by decide) (by decide) (by decide) (fun _ q => nomatch q) (pc' := 4) rfl ?_
  intro v2 T2 h2 w2 K2 q2
  obtain ⟨rfl, rfl⟩ := q2
  show Goes p e below _ T2 (mkF m 4 #[.val (.int (Int32.ofNat N))] [(.int (Int32.ofNat (2 * N)))])
  refine i_newP w2 own_d11_4 (hw _ (List.mem_of_getElem? (i := 34) rfl)) (N := (2 * N)) rfl (by omega) (cap := 32) (by omega) (by decide) (by decide) (by decide) (pc' := 6) rfl ?_
  intro d T3 h3 ca_d g_d w3 z_d E3 A_d
  show Goes p e below _ T3 (mkF m 6 #[.val (.int (Int32.ofNat N))] [(.ref d)])
  exact i_retA w3 own_d11_6 rfl rfl rfl ⟨d, ca_d, rfl, z_d, A_d⟩ (by decide) (by decide)
theorem own_d13_0 : decode jdk_52_method_4_code 0 = .ok (.getstatic 44, 3) := by decide +kernel
theorem own_d13_3 : decode jdk_52_method_4_code 3 = .ok (.ifCond .ne 25, 3) := by decide +kernel
theorem own_d13_6 : decode jdk_52_method_4_code 6 = .ok (.iload_n 1, 1) := by decide +kernel
theorem own_d13_7 : decode jdk_52_method_4_code 7 = .ok (.ifCond .lt 11, 3) := by decide +kernel
theorem own_d13_10 : decode jdk_52_method_4_code 10 = .ok (.iload_n 1, 1) := by decide +kernel
theorem own_d13_11 : decode jdk_52_method_4_code 11 = .ok (.aload_n 0, 1) := by decide +kernel
theorem own_d13_12 : decode jdk_52_method_4_code 12 = .ok (.invokestatic 48, 3) := by decide +kernel
theorem own_d13_15 : decode jdk_52_method_4_code 15 = .ok (.if_icmp .lt 13, 3) := by decide +kernel
theorem own_d13_18 : decode jdk_52_method_4_code 18 = .ok (.new 52, 3) := by decide +kernel
theorem own_d13_21 : decode jdk_52_method_4_code 21 = .ok (.dup, 1) := by decide +kernel
theorem own_d13_22 : decode jdk_52_method_4_code 22 = .ok (.ldc 54, 2) := by decide +kernel
theorem own_d13_24 : decode jdk_52_method_4_code 24 = .ok (.invokespecial 56, 3) := by decide +kernel
theorem own_d13_27 : decode jdk_52_method_4_code 27 = .ok (.athrow, 1) := by decide +kernel
theorem own_d13_28 : decode jdk_52_method_4_code 28 = .ok (.iload_n 1, 1) := by decide +kernel
theorem own_d13_29 : decode jdk_52_method_4_code 29 = .ok (.iconst 1, 1) := by decide +kernel
theorem own_d13_30 : decode jdk_52_method_4_code 30 = .ok (.ishl, 1) := by decide +kernel
theorem own_d13_31 : decode jdk_52_method_4_code 31 = .ok (.istore_n 1, 1) := by decide +kernel
theorem own_d13_32 : decode jdk_52_method_4_code 32 = .ok (.aload_n 0, 1) := by decide +kernel
theorem own_d13_33 : decode jdk_52_method_4_code 33 = .ok (.iload_n 1, 1) := by decide +kernel
theorem own_d13_34 : decode jdk_52_method_4_code 34 = .ok (.iinc 1 1, 3) := by decide +kernel
theorem own_d13_37 : decode jdk_52_method_4_code 37 = .ok (.iload_n 2, 1) := by decide +kernel
theorem own_d13_38 : decode jdk_52_method_4_code 38 = .ok (.getstatic 59, 3) := by decide +kernel
theorem own_d13_41 : decode jdk_52_method_4_code 41 = .ok (.ishr, 1) := by decide +kernel
theorem own_d13_42 : decode jdk_52_method_4_code 42 = .ok (.i2b, 1) := by decide +kernel
theorem own_d13_43 : decode jdk_52_method_4_code 43 = .ok (.bastore, 1) := by decide +kernel
theorem own_d13_44 : decode jdk_52_method_4_code 44 = .ok (.aload_n 0, 1) := by decide +kernel
theorem own_d13_45 : decode jdk_52_method_4_code 45 = .ok (.iload_n 1, 1) := by decide +kernel
theorem own_d13_46 : decode jdk_52_method_4_code 46 = .ok (.iload_n 2, 1) := by decide +kernel
theorem own_d13_47 : decode jdk_52_method_4_code 47 = .ok (.getstatic 63, 3) := by decide +kernel
theorem own_d13_50 : decode jdk_52_method_4_code 50 = .ok (.ishr, 1) := by decide +kernel
theorem own_d13_51 : decode jdk_52_method_4_code 51 = .ok (.i2b, 1) := by decide +kernel
theorem own_d13_52 : decode jdk_52_method_4_code 52 = .ok (.bastore, 1) := by decide +kernel
theorem own_d13_53 : decode jdk_52_method_4_code 53 = .ok (.return_, 1) := by decide +kernel
theorem own_pd_pABIIqV : parseMethodDescriptor "([BII)V" = some ⟨[(.array .byte), .int, .int], none⟩ := by decide +kernel
theorem own_ef_own_d13 (m : MethodId) (x0 : Addr) (x1 : Int32) (x2 : Int32) : entryFrame m #[(.ref x0), (.int x1), (.int x2)] 3 = mkF m 0 #[.val (.ref x0), .val (.int x1), .val (.int x2)] [] := by
  first | (simp [entryFrame, mkF, argsToLocals, Value.category]; done) | rfl
set_option maxRecDepth 65536 in
set_option maxHeartbeats 40000000 in
theorem own_putChar (l : Launch) (Z : State) (a0 : Array Value) (hw : ∀ d ∈ tables_1, d.before a0 Z = true) (d : Addr) (cd : ClassId) (bs : List Value) (i k : Nat) (SA : Sta Z Z.heap "java/lang/StringUTF16" "$assertionsDisabled" "Z" (.int 1)) (SHi : Sta Z Z.heap "java/lang/StringUTF16" "HI_BYTE_SHIFT" "I" (.int 0)) (SLo : Sta Z Z.heap "java/lang/StringUTF16" "LO_BYTE_SHIFT" "I" (.int 8)) (h0 : Heap) (n0 : Nat) (O : Old Z n0 h0) (hd : n0 ≤ d) (hk : k < 65536) (hi : 2 * i + 1 < bs.length) (Ad : Ary Z h0 d cd .byte bs) :
    Ctr l Z n0 (⟨"java/lang/StringUTF16", "putChar", "([BII)V"⟩ : MethodName) jdk_52_method_4_code 3 none [] ({ frames := 0, cells := 0, slots := 0, locals := 0 } : Room) #[(.ref d), (.int (Int32.ofNat i)), (.int (Int32.ofNat k))] h0 [d] (fun v h => v = none ∧ Ary Z h d cd .byte ((bs.set (2 * i) (.int (bv k))).set (2 * i + 1) (.int (bv (k / 256))))) := by
  refine enter (plainFor_of_name own_pn_java_lang_StringUTF16) (fun m => own_ef_own_d13 m d (Int32.ofNat i) (Int32.ofNat k)) O (allS hd all0) ?_
  intro p e s m below meth c T w
  refine i_getS w own_d13_0 (hw _ (List.mem_of_getElem? (i := 51) rfl)) SA (pc' := 3) rfl ?_
  intro T5 w5
  refine i_if_ne_Y w5 (by decide) own_d13_3 (pc' := 28) (by decide) ?_
  refine i_iloadN w5 own_d13_28 rfl (pc' := 29) rfl ?_
  refine i_iconst w5 own_d13_29 (z := (1 : Int32)) (by decide) (pc' := 30) rfl ?_
  refine i_ishl w5 own_d13_30 (pc' := 31) rfl ?_
  rw [shl1]
  show Goes p e below _ T5 (mkF m 31 #[.val (.ref d), .val (.int (Int32.ofNat i)), .val (.int (Int32.ofNat k))] [(.int (Int32.ofNat (2 * i)))])
  refine i_istoreN w5 own_d13_31 (l' := #[.val (.ref d), .val (.int (Int32.ofNat (2 * i))), .val (.int (Int32.ofNat k))]) rfl (pc' := 32) rfl ?_
  refine i_aloadN w5 own_d13_32 rfl rfl (pc' := 33) rfl ?_
  refine i_iloadN w5 own_d13_33 rfl (pc' := 34) rfl ?_
  refine i_iinc w5 own_d13_34 rfl (z := (Int32.ofNat (2 * i + 1))) (inc_nat (2 * i)) (l' := #[.val (.ref d), .val (.int (Int32.ofNat (2 * i + 1))), .val (.int (Int32.ofNat k))]) rfl (pc' := 37) rfl ?_
  refine i_iloadN w5 own_d13_37 rfl (pc' := 38) rfl ?_
  refine i_getS w5 own_d13_38 (hw _ (List.mem_of_getElem? (i := 52) rfl)) SHi (pc' := 41) rfl ?_
  intro T6 w6
  refine i_ishr w6 own_d13_41 (pc' := 42) rfl ?_
  refine i_i2b w6 own_d13_42 (pc' := 43) rfl ?_
  refine i_bastore w6 own_d13_43 Ad (i := (2 * i)) rfl (by omega) (Or.inl (List.mem_singleton.mpr rfl)) (pc' := 44) rfl ?_
  intro T7 h7 w7 K7 A1
  show Goes p e below _ T7 (mkF m 44 #[.val (.ref d), .val (.int (Int32.ofNat (2 * i + 1))), .val (.int (Int32.ofNat k))] [])
  rw [byte_idem, shr_zero] at A1
  refine i_aloadN w7 own_d13_44 rfl rfl (pc' := 45) rfl ?_
  refine i_iloadN w7 own_d13_45 rfl (pc' := 46) rfl ?_
  refine i_iloadN w7 own_d13_46 rfl (pc' := 47) rfl ?_
  refine i_getS w7 own_d13_47 (hw _ (List.mem_of_getElem? (i := 53) rfl)) SLo (pc' := 50) rfl ?_
  intro T9 w9
  refine i_ishr w9 own_d13_50 (pc' := 51) rfl ?_
  refine i_i2b w9 own_d13_51 (pc' := 52) rfl ?_
  refine i_bastore w9 own_d13_52 A1 (i := (2 * i + 1)) rfl (by simp; omega) (Or.inl (List.mem_singleton.mpr rfl)) (pc' := 53) rfl ?_
  intro T10 h10 w10 K10 A2
  show Goes p e below _ T10 (mkF m 53 #[.val (.ref d), .val (.int (Int32.ofNat (2 * i + 1))), .val (.int (Int32.ofNat k))] [])
  rw [byte_idem, bv_hi hk] at A2
  exact i_ret0 w10 own_d13_53 rfl ⟨rfl, A2⟩ (by decide) (by decide)
theorem own_d10_0 : decode jdk_52_method_14_code 0 = .ok (.iload_n 2, 1) := by decide +kernel
theorem own_d10_1 : decode jdk_52_method_14_code 1 = .ok (.invokestatic 107, 3) := by decide +kernel
theorem own_d10_4 : decode jdk_52_method_14_code 4 = .ok (.astore_n 3, 1) := by decide +kernel
theorem own_d10_5 : decode jdk_52_method_14_code 5 = .ok (.iconst 0, 1) := by decide +kernel
theorem own_d10_6 : decode jdk_52_method_14_code 6 = .ok (.istore 4, 2) := by decide +kernel
theorem own_d10_8 : decode jdk_52_method_14_code 8 = .ok (.iload 4, 2) := by decide +kernel
theorem own_d10_10 : decode jdk_52_method_14_code 10 = .ok (.iload_n 2, 1) := by decide +kernel
theorem own_d10_11 : decode jdk_52_method_14_code 11 = .ok (.if_icmp .ge 21, 3) := by decide +kernel
theorem own_d10_14 : decode jdk_52_method_14_code 14 = .ok (.aload_n 3, 1) := by decide +kernel
theorem own_d10_15 : decode jdk_52_method_14_code 15 = .ok (.iload 4, 2) := by decide +kernel
theorem own_d10_17 : decode jdk_52_method_14_code 17 = .ok (.aload_n 0, 1) := by decide +kernel
theorem own_d10_18 : decode jdk_52_method_14_code 18 = .ok (.iload_n 1, 1) := by decide +kernel
theorem own_d10_19 : decode jdk_52_method_14_code 19 = .ok (.caload, 1) := by decide +kernel
theorem own_d10_20 : decode jdk_52_method_14_code 20 = .ok (.invokestatic 111, 3) := by decide +kernel
theorem own_d10_23 : decode jdk_52_method_14_code 23 = .ok (.iinc 1 1, 3) := by decide +kernel
theorem own_d10_26 : decode jdk_52_method_14_code 26 = .ok (.iinc 4 1, 3) := by decide +kernel
theorem own_d10_29 : decode jdk_52_method_14_code 29 = .ok (.goto (-21), 3) := by decide +kernel
theorem own_d10_32 : decode jdk_52_method_14_code 32 = .ok (.aload_n 3, 1) := by decide +kernel
theorem own_d10_33 : decode jdk_52_method_14_code 33 = .ok (.areturn, 1) := by decide +kernel
set_option maxRecDepth 65536 in
set_option maxHeartbeats 40000000 in
theorem own_toB_loop (l : Launch) (Z : State) (a0 : Array Value) (hw : ∀ d ∈ tables_1, d.before a0 Z = true) (b d : Addr) (cb cd : ClassId) (cs : List Nat) (SA : Sta Z Z.heap "java/lang/StringUTF16" "$assertionsDisabled" "Z" (.int 1)) (SHi : Sta Z Z.heap "java/lang/StringUTF16" "HI_BYTE_SHIFT" "I" (.int 0)) (SLo : Sta Z Z.heap "java/lang/StringUTF16" "LO_BYTE_SHIFT" "I" (.int 8)) (hcs : ∀ c ∈ cs, c < 65536) (hn : cs.length ≤ 65536) (hbd : b ≠ d) (h0 : Heap) (n0 : Nat) (zd : h0.size ≤ d) {p : Program} {e : Env} {s : State} {m : MethodId} {args : Array Value} {below : List Frame} {meth : Method} {c : Code} :
    ∀ (j i : Nat) (T : State) (h : Heap) (bs : List Value), i + j = cs.length → Wk p l e ({ frames := 2, cells := 1, slots := 32, locals := 24 } : Room) s m args below meth c Z "java/lang/StringUTF16" jdk_52_method_14_code 5 (some (.array .byte)) "toBytes" n0 h0 [] T h 1 32 → Ary Z h b cb .char (chs cs) → Ary Z h d cd .byte bs → bs.length = 2 * cs.length → bs.take (2 * i) = wid (cs.take i) →
      Goes p e below (PN s n0 h0 [] (fun v h => ∃ t ca, v = some (.ref t) ∧ h0.size ≤ t ∧ Ary Z h t ca .byte (wid cs)) 1 32) T (mkF m 8 #[.val (.ref b), .val (.int (Int32.ofNat i)), .val (.int (Int32.ofNat cs.length)), .val (.ref d), .val (.int (Int32.ofNat i))] []) := by
  intro j
  induction j with
  | zero =>
    intro i T h bs hij w Ab Ad hbl ht
    refine i_iload w own_d10_8 rfl (pc' := 10) rfl ?_
    refine i_iloadN w own_d10_10 rfl (pc' := 11) rfl ?_
    refine i_icmp_ge_Y w (by rw [show i = cs.length by omega]; exact Int32.lt_irrefl) own_d10_11 (pc' := 32) (by decide) ?_
    refine i_aloadN w own_d10_32 rfl rfl (pc' := 33) rfl ?_
    exact i_retA w own_d10_33 rfl rfl rfl ⟨d, cd, rfl, zd, by rw [show bs = wid cs by rw [show i = cs.length by omega, List.take_length, ← hbl, List.take_length] at ht; exact ht] at Ad; exact Ad⟩ (by decide) (by decide)
  | succ j ih =>
    intro i T h bs hij w Ab Ad hbl ht
    obtain ⟨ci, hci⟩ : ∃ ci, cs[i]? = some ci := ⟨_, List.getElem?_eq_getElem (by omega)⟩
    have hcb : ci < 65536 := hcs ci (List.mem_of_getElem? hci)
    refine i_iload w own_d10_8 rfl (pc' := 10) rfl ?_
    refine i_iloadN w own_d10_10 rfl (pc' := 11) rfl ?_
    refine i_icmp_ge_N w ((lt_nat (by omega) (by omega)).mpr (by omega)) own_d10_11 (pc' := 14) rfl ?_
    refine i_aloadN w own_d10_14 rfl rfl (pc' := 15) rfl ?_
    refine i_iload w own_d10_15 rfl (pc' := 17) rfl ?_
    refine i_aloadN w own_d10_17 rfl rfl (pc' := 18) rfl ?_
    refine i_iloadN w own_d10_18 rfl (pc' := 19) rfl ?_
    refine i_caload w own_d10_19 Ab rfl (chs_at hci) (pc' := 20) rfl ?_
    refine c_static w (y := (⟨"java/lang/StringUTF16", "putChar", "([BII)V"⟩ : MethodName)) (argsL := [(.ref d), (.int (Int32.ofNat i)), (.int (Int32.ofNat ci))]) (st := []) own_d10_20 (hw _ (List.mem_of_getElem? (i := 48) rfl)) (hw _ (List.mem_of_getElem? (i := 49) rfl)) (hw _ (List.mem_of_getElem? (i := 32) rfl)) (hw _ (List.mem_of_getElem? (i := 50) rfl)) (by decide) own_pd_pABIIqV rfl (own_putChar l Z a0 hw d cd bs i ci SA SHi SLo h n0 w.old (Nat.le_trans w.n0h0 zd) hcb (by omega) Ad) rfl (by decide) (W := 0) (Nat.le_of_eq rfl) (by decide) (by decide) (by decide) (allS (Or.inr zd) all0) (pc' := 23) rfl ?_
    intro v12 T12 h12 w12 K12 q12
    obtain ⟨rfl, A1⟩ := q12
    show Goes p e below _ T12 (mkF m 23 #[.val (.ref b), .val (.int (Int32.ofNat i)), .val (.int (Int32.ofNat cs.length)), .val (.ref d), .val (.int (Int32.ofNat i))] [])
    refine i_iinc w12 own_d10_23 rfl (z := (Int32.ofNat (i + 1))) (inc_nat i) (l' := #[.val (.ref b), .val (.int (Int32.ofNat (i + 1))), .val (.int (Int32.ofNat cs.length)), .val (.ref d), .val (.int (Int32.ofNat i))]) rfl (pc' := 26) rfl ?_
    refine i_iinc w12 own_d10_26 rfl (z := (Int32.ofNat (i + 1))) (inc_nat i) (l' := #[.val (.ref b), .val (.int (Int32.ofNat (i + 1))), .val (.int (Int32.ofNat cs.length)), .val (.ref d), .val (.int (Int32.ofNat (i + 1)))]) rfl (pc' := 29) rfl ?_
    refine i_goto w12 own_d10_29 (pc' := 8) (by decide) ?_
    exact ih (i + 1) T12 h12 _ (by omega) (w12.mono (by decide) (by decide)) (Ab.keep K12 (ninS hbd nin0)) A1 (by simpa using hbl) (wid_step hbl hci ht)
theorem own_pd_pACIIqAB : parseMethodDescriptor "([CII)[B" = some ⟨[(.array .char), .int, .int], some (.array .byte)⟩ := by decide +kernel
theorem own_ef_own_d10 (m : MethodId) (x0 : Addr) (x1 : Int32) (x2 : Int32) : entryFrame m #[(.ref x0), (.int x1), (.int x2)] 5 = mkF m 0 #[.val (.ref x0), .val (.int x1), .val (.int x2), .unset, .unset] [] := by
  first | (simp [entryFrame, mkF, argsToLocals, Value.category]; done) | rfl
set_option maxRecDepth 65536 in
set_option maxHeartbeats 40000000 in
theorem own_toB (l : Launch) (Z : State) (a0 : Array Value) (hw : ∀ d ∈ tables_1, d.before a0 Z = true) (b : Addr) (cb : ClassId) (cs : List Nat) (SA : Sta Z Z.heap "java/lang/StringUTF16" "$assertionsDisabled" "Z" (.int 1)) (SHi : Sta Z Z.heap "java/lang/StringUTF16" "HI_BYTE_SHIFT" "I" (.int 0)) (SLo : Sta Z Z.heap "java/lang/StringUTF16" "LO_BYTE_SHIFT" "I" (.int 8)) (h0 : Heap) (n0 : Nat) (O : Old Z n0 h0) (hcs : ∀ c ∈ cs, c < 65536) (hn : cs.length ≤ 16) (Ab : Ary Z h0 b cb .char (chs cs)) :
    Ctr l Z n0 (⟨"java/lang/StringUTF16", "toBytes", "([CII)[B"⟩ : MethodName) jdk_52_method_14_code 5 (some (.array .byte)) [] ({ frames := 2, cells := 1, slots := 32, locals := 24 } : Room) #[(.ref b), (.int (0 : Int32)), (.int (Int32.ofNat cs.length))] h0 [] (fun v h => ∃ t ca, v = some (.ref t) ∧ h0.size ≤ t ∧ Ary Z h t ca .byte (wid cs)) := by
  refine enter (plainFor_of_name own_pn_java_lang_StringUTF16) (fun m => own_ef_own_d10 m b (0 : Int32) (Int32.ofNat cs.length)) O (fun _ q => nomatch q) ?_
  intro p e s m below meth c T w
  refine i_iloadN w own_d10_0 rfl (pc' := 1) rfl ?_
  refine c_static w (y := (⟨"java/lang/StringUTF16", "newBytesFor", "(I)[B"⟩ : MethodName)) (argsL := [(.int (Int32.ofNat cs.length))]) (st := []) own_d10_1 (hw _ (List.mem_of_getElem? (i := 41) rfl)) (hw _ (List.mem_of_getElem? (i := 42) rfl)) (hw _ (List.mem_of_getElem? (i := 32) rfl)) (hw _ (List.mem_of_getElem? (i := 43) rfl)) (by decide) own_pd_pIqAB rfl (own_nbFor l Z a0 hw cs.length h0 n0 w.old (by omega)) rfl (by decide) (W := 0) (Nat.le_of_eq rfl) (by decide) (by decide) (by decide) (fun _ q => nomatch q) (pc' := 4) rfl ?_
  intro v14 T14 h14 w14 K14 q14
  obtain ⟨d, cd, rfl, zd, Ad⟩ := q14
  show Goes p e below _ T14 (mkF m 4 #[.val (.ref b), .val (.int (0 : Int32)), .val (.int (Int32.ofNat cs.length)), .unset, .unset] [(.ref d)])
  have Ab1 := Ab.keep K14 nin0
  refine i_astoreN w14 own_d10_4 rfl (l' := #[.val (.ref b), .val (.int (0 : Int32)), .val (.int (Int32.ofNat cs.length)), .val (.ref d), .unset]) rfl (pc' := 5) rfl ?_
  refine i_iconst w14 own_d10_5 (z := (0 : Int32)) (by decide) (pc' := 6) rfl ?_
  refine i_istore w14 own_d10_6 (l' := #[.val (.ref b), .val (.int (0 : Int32)), .val (.int (Int32.ofNat cs.length)), .val (.ref d), .val (.int (0 : Int32))]) rfl (pc' := 8) rfl ?_
  exact own_toB_loop l Z a0 hw b d cb cd cs SA SHi SLo hcs (by omega) (Nat.ne_of_lt (Nat.lt_of_lt_of_le Ab.lt zd)) h0 n0 zd cs.length 0 T14 h14 _ (by omega) (w14.mono (by decide) (by decide)) Ab1 Ad (by simp) rfl
theorem own_d14_0 : decode jdk_52_method_5_code 0 = .ok (.getstatic 44, 3) := by decide +kernel
theorem own_d14_3 : decode jdk_52_method_5_code 3 = .ok (.ifCond .ne 25, 3) := by decide +kernel
theorem own_d14_6 : decode jdk_52_method_5_code 6 = .ok (.iload_n 1, 1) := by decide +kernel
theorem own_d14_7 : decode jdk_52_method_5_code 7 = .ok (.ifCond .lt 11, 3) := by decide +kernel
theorem own_d14_10 : decode jdk_52_method_5_code 10 = .ok (.iload_n 1, 1) := by decide +kernel
theorem own_d14_11 : decode jdk_52_method_5_code 11 = .ok (.aload_n 0, 1) := by decide +kernel
theorem own_d14_12 : decode jdk_52_method_5_code 12 = .ok (.invokestatic 48, 3) := by decide +kernel
theorem own_d14_15 : decode jdk_52_method_5_code 15 = .ok (.if_icmp .lt 13, 3) := by decide +kernel
theorem own_d14_18 : decode jdk_52_method_5_code 18 = .ok (.new 52, 3) := by decide +kernel
theorem own_d14_21 : decode jdk_52_method_5_code 21 = .ok (.dup, 1) := by decide +kernel
theorem own_d14_22 : decode jdk_52_method_5_code 22 = .ok (.ldc 54, 2) := by decide +kernel
theorem own_d14_24 : decode jdk_52_method_5_code 24 = .ok (.invokespecial 56, 3) := by decide +kernel
theorem own_d14_27 : decode jdk_52_method_5_code 27 = .ok (.athrow, 1) := by decide +kernel
theorem own_d14_28 : decode jdk_52_method_5_code 28 = .ok (.iload_n 1, 1) := by decide +kernel
theorem own_d14_29 : decode jdk_52_method_5_code 29 = .ok (.iconst 1, 1) := by decide +kernel
theorem own_d14_30 : decode jdk_52_method_5_code 30 = .ok (.ishl, 1) := by decide +kernel
theorem own_d14_31 : decode jdk_52_method_5_code 31 = .ok (.istore_n 1, 1) := by decide +kernel
theorem own_d14_32 : decode jdk_52_method_5_code 32 = .ok (.aload_n 0, 1) := by decide +kernel
theorem own_d14_33 : decode jdk_52_method_5_code 33 = .ok (.iload_n 1, 1) := by decide +kernel
theorem own_d14_34 : decode jdk_52_method_5_code 34 = .ok (.iinc 1 1, 3) := by decide +kernel
theorem own_d14_37 : decode jdk_52_method_5_code 37 = .ok (.baload, 1) := by decide +kernel
theorem own_d14_38 : decode jdk_52_method_5_code 38 = .ok (.sipush 255, 3) := by decide +kernel
theorem own_d14_41 : decode jdk_52_method_5_code 41 = .ok (.iand, 1) := by decide +kernel
theorem own_d14_42 : decode jdk_52_method_5_code 42 = .ok (.getstatic 59, 3) := by decide +kernel
theorem own_d14_45 : decode jdk_52_method_5_code 45 = .ok (.ishl, 1) := by decide +kernel
theorem own_d14_46 : decode jdk_52_method_5_code 46 = .ok (.aload_n 0, 1) := by decide +kernel
theorem own_d14_47 : decode jdk_52_method_5_code 47 = .ok (.iload_n 1, 1) := by decide +kernel
theorem own_d14_48 : decode jdk_52_method_5_code 48 = .ok (.baload, 1) := by decide +kernel
theorem own_d14_49 : decode jdk_52_method_5_code 49 = .ok (.sipush 255, 3) := by decide +kernel
theorem own_d14_52 : decode jdk_52_method_5_code 52 = .ok (.iand, 1) := by decide +kernel
theorem own_d14_53 : decode jdk_52_method_5_code 53 = .ok (.getstatic 63, 3) := by decide +kernel
theorem own_d14_56 : decode jdk_52_method_5_code 56 = .ok (.ishl, 1) := by decide +kernel
theorem own_d14_57 : decode jdk_52_method_5_code 57 = .ok (.ior, 1) := by decide +kernel
theorem own_d14_58 : decode jdk_52_method_5_code 58 = .ok (.i2c, 1) := by decide +kernel
theorem own_d14_59 : decode jdk_52_method_5_code 59 = .ok (.ireturn, 1) := by decide +kernel
theorem own_pd_pABIqC : parseMethodDescriptor "([BI)C" = some ⟨[(.array .byte), .int], some .char⟩ := by decide +kernel
theorem own_ef_own_d14 (m : MethodId) (x0 : Addr) (x1 : Int32) : entryFrame m #[(.ref x0), (.int x1)] 2 = mkF m 0 #[.val (.ref x0), .val (.int x1)] [] := by
  first | (simp [entryFrame, mkF, argsToLocals, Value.category]; done) | rfl
set_option maxRecDepth 65536 in
set_option maxHeartbeats 40000000 in
theorem own_getChar (l : Launch) (Z : State) (a0 : Array Value) (hw : ∀ d ∈ tables_1, d.before a0 Z = true) (t : Addr) (ca : ClassId) (cs : List Nat) (i k : Nat) (SA : Sta Z Z.heap "java/lang/StringUTF16" "$assertionsDisabled" "Z" (.int 1)) (SHi : Sta Z Z.heap "java/lang/StringUTF16" "HI_BYTE_SHIFT" "I" (.int 0)) (SLo : Sta Z Z.heap "java/lang/StringUTF16" "LO_BYTE_SHIFT" "I" (.int 8)) (h0 : Heap) (n0 : Nat) (O : Old Z n0 h0) (At : Ary Z h0 t ca .byte (wid cs)) (hci : cs[i]? = some k) (hk : k < 65536) :
    Ctr l Z n0 (⟨"java/lang/StringUTF16", "getChar", "([BI)C"⟩ : MethodName) jdk_52_method_5_code 2 (some .char) [] ({ frames := 0, cells := 0, slots := 0, locals := 0 } : Room) #[(.ref t), (.int (Int32.ofNat i))] h0 [] (fun v h => v = some (.int (Int32.ofNat k)) ∧ h0 = h) := by
  refine enter (plainFor_of_name own_pn_java_lang_StringUTF16) (fun m => own_ef_own_d14 m t (Int32.ofNat i)) O (fun _ q => nomatch q) ?_
  intro p e s m below meth c T w
  refine i_getS w own_d14_0 (hw _ (List.mem_of_getElem? (i := 51) rfl)) SA (pc' := 3) rfl ?_
  intro T16 w16
  refine i_if_ne_Y w16 (by decide) own_d14_3 (pc' := 28) (by decide) ?_
  refine i_iloadN w16 own_d14_28 rfl (pc' := 29) rfl ?_
  refine i_iconst w16 own_d14_29 (z := (1 : Int32)) (by decide) (pc' := 30) rfl ?_
  refine i_ishl w16 own_d14_30 (pc' := 31) rfl ?_
  rw [shl1]
  show Goes p e below _ T16 (mkF m 31 #[.val (.ref t), .val (.int (Int32.ofNat i))] [(.int (Int32.ofNat (2 * i)))])
  refine i_istoreN w16 own_d14_31 (l' := #[.val (.ref t), .val (.int (Int32.ofNat (2 * i)))]) rfl (pc' := 32) rfl ?_
  refine i_aloadN w16 own_d14_32 rfl rfl (pc' := 33) rfl ?_
  refine i_iloadN w16 own_d14_33 rfl (pc' := 34) rfl ?_
  refine i_iinc w16 own_d14_34 rfl (z := (Int32.ofNat (2 * i + 1))) (inc_nat (2 * i)) (l' := #[.val (.ref t), .val (.int (Int32.ofNat (2 * i + 1)))]) rfl (pc' := 37) rfl ?_
  refine i_baload w16 own_d14_37 At rfl (wid_lo hci) (pc' := 38) rfl ?_
  refine i_sipush w16 own_d14_38 (z := (255 : Int32)) (by decide) (pc' := 41) rfl ?_
  refine i_iand w16 own_d14_41 (pc' := 42) rfl ?_
  refine i_getS w16 own_d14_42 (hw _ (List.mem_of_getElem? (i := 52) rfl)) SHi (pc' := 45) rfl ?_
  intro T17 w17
  refine i_ishl w17 own_d14_45 (pc' := 46) rfl ?_
  refine i_aloadN w17 own_d14_46 rfl rfl (pc' := 47) rfl ?_
  refine i_iloadN w17 own_d14_47 rfl (pc' := 48) rfl ?_
  refine i_baload w17 own_d14_48 At rfl (wid_hi hci) (pc' := 49) rfl ?_
  refine i_sipush w17 own_d14_49 (z := (255 : Int32)) (by decide) (pc' := 52) rfl ?_
  refine i_iand w17 own_d14_52 (pc' := 53) rfl ?_
  refine i_getS w17 own_d14_53 (hw _ (List.mem_of_getElem? (i := 53) rfl)) SLo (pc' := 56) rfl ?_
  intro T18 w18
  refine i_ishl w18 own_d14_56 (pc' := 57) rfl ?_
  refine i_ior w18 own_d14_57 (pc' := 58) rfl ?_
  refine i_i2c w18 own_d14_58 (pc' := 59) rfl ?_
  exact i_retN w18 own_d14_59 rfl (by simp) ⟨by rw [char_idem, pair_char hk], rfl⟩ (by decide) (by decide)
theorem own_d8_0 : decode jdk_52_method_16_code 0 = .ok (.iload_n 2, 1) := by decide +kernel
theorem own_d8_1 : decode jdk_52_method_16_code 1 = .ok (.newarray .byte, 2) := by decide +kernel
theorem own_d8_3 : decode jdk_52_method_16_code 3 = .ok (.astore_n 3, 1) := by decide +kernel
theorem own_d8_4 : decode jdk_52_method_16_code 4 = .ok (.aload_n 0, 1) := by decide +kernel
theorem own_d8_5 : decode jdk_52_method_16_code 5 = .ok (.iload_n 1, 1) := by decide +kernel
theorem own_d8_6 : decode jdk_52_method_16_code 6 = .ok (.aload_n 3, 1) := by decide +kernel
theorem own_d8_7 : decode jdk_52_method_16_code 7 = .ok (.iconst 0, 1) := by decide +kernel
theorem own_d8_8 : decode jdk_52_method_16_code 8 = .ok (.iload_n 2, 1) := by decide +kernel
theorem own_d8_9 : decode jdk_52_method_16_code 9 = .ok (.invokestatic 115, 3) := by decide +kernel
theorem own_d8_12 : decode jdk_52_method_16_code 12 = .ok (.istore 4, 2) := by decide +kernel
theorem own_d8_14 : decode jdk_52_method_16_code 14 = .ok (.iload 4, 2) := by decide +kernel
theorem own_d8_16 : decode jdk_52_method_16_code 16 = .ok (.iload_n 2, 1) := by decide +kernel
theorem own_d8_17 : decode jdk_52_method_16_code 17 = .ok (.if_icmp .eq 40, 3) := by decide +kernel
theorem own_d8_20 : decode jdk_52_method_16_code 20 = .ok (.aload_n 0, 1) := by decide +kernel
theorem own_d8_21 : decode jdk_52_method_16_code 21 = .ok (.iload_n 1, 1) := by decide +kernel
theorem own_d8_22 : decode jdk_52_method_16_code 22 = .ok (.iload_n 2, 1) := by decide +kernel
theorem own_d8_23 : decode jdk_52_method_16_code 23 = .ok (.invokestatic 119, 3) := by decide +kernel
theorem own_d8_26 : decode jdk_52_method_16_code 26 = .ok (.astore 5, 2) := by decide +kernel
theorem own_d8_28 : decode jdk_52_method_16_code 28 = .ok (.aload 5, 2) := by decide +kernel
theorem own_d8_30 : decode jdk_52_method_16_code 30 = .ok (.iload 4, 2) := by decide +kernel
theorem own_d8_32 : decode jdk_52_method_16_code 32 = .ok (.invokestatic 71, 3) := by decide +kernel
theorem own_d8_35 : decode jdk_52_method_16_code 35 = .ok (.sipush 255, 3) := by decide +kernel
theorem own_d8_38 : decode jdk_52_method_16_code 38 = .ok (.if_icmp .gt 16, 3) := by decide +kernel
theorem own_d8_41 : decode jdk_52_method_16_code 41 = .ok (.aload 5, 2) := by decide +kernel
theorem own_d8_43 : decode jdk_52_method_16_code 43 = .ok (.iconst 0, 1) := by decide +kernel
theorem own_d8_44 : decode jdk_52_method_16_code 44 = .ok (.aload_n 3, 1) := by decide +kernel
theorem own_d8_45 : decode jdk_52_method_16_code 45 = .ok (.iconst 0, 1) := by decide +kernel
theorem own_d8_46 : decode jdk_52_method_16_code 46 = .ok (.iload_n 2, 1) := by decide +kernel
theorem own_d8_47 : decode jdk_52_method_16_code 47 = .ok (.invokestatic 123, 3) := by decide +kernel
theorem own_d8_50 : decode jdk_52_method_16_code 50 = .ok (.iload_n 2, 1) := by decide +kernel
theorem own_d8_51 : decode jdk_52_method_16_code 51 = .ok (.if_icmp .eq 6, 3) := by decide +kernel
theorem own_d8_54 : decode jdk_52_method_16_code 54 = .ok (.aload 5, 2) := by decide +kernel
theorem own_d8_56 : decode jdk_52_method_16_code 56 = .ok (.areturn, 1) := by decide +kernel
theorem own_d8_57 : decode jdk_52_method_16_code 57 = .ok (.aload_n 3, 1) := by decide +kernel
theorem own_d8_58 : decode jdk_52_method_16_code 58 = .ok (.areturn, 1) := by decide +kernel
theorem own_ef_own_d8 (m : MethodId) (x0 : Addr) (x1 : Int32) (x2 : Int32) : entryFrame m #[(.ref x0), (.int x1), (.int x2)] 6 = mkF m 0 #[.val (.ref x0), .val (.int x1), .val (.int x2), .unset, .unset, .unset] [] := by
  first | (simp [entryFrame, mkF, argsToLocals, Value.category]; done) | rfl
set_option maxRecDepth 65536 in
set_option maxHeartbeats 40000000 in
theorem own_cmp3 (l : Launch) (Z : State) (a0 : Array Value) (hw : ∀ d ∈ tables_1, d.before a0 Z = true) (b : Addr) (cb : ClassId) (cs : List Nat) (SA : Sta Z Z.heap "java/lang/StringUTF16" "$assertionsDisabled" "Z" (.int 1)) (SHi : Sta Z Z.heap "java/lang/StringUTF16" "HI_BYTE_SHIFT" "I" (.int 0)) (SLo : Sta Z Z.heap "java/lang/StringUTF16" "LO_BYTE_SHIFT" "I" (.int 8)) (h0 : Heap) (n0 : Nat) (O : Old Z n0 h0) (hcs : ∀ c ∈ cs, c < 65536) (hn : cs.length ≤ 16) (Ab : Ary Z h0 b cb .char (chs cs)) :
    Ctr l Z n0 (⟨"java/lang/StringUTF16", "compress", "([CII)[B"⟩ : MethodName) jdk_52_method_16_code 6 (some (.array .byte)) [] ({ frames := 3, cells := 2, slots := 48, locals := 40 } : Room) #[(.ref b), (.int (0 : Int32)), (.int (Int32.ofNat cs.length))] h0 [] (fun v h => ∃ t ca, v = some (.ref t) ∧ h0.size ≤ t ∧ ((Ary Z h t ca .byte (lat cs) ∧ ∀ c ∈ cs, c < 256) ∨ (Ary Z h t ca .byte (wid cs) ∧ ∃ c ∈ cs, 256 ≤ c))) := by
  refine enter (plainFor_of_name own_pn_java_lang_StringUTF16) (fun m => own_ef_own_d8 m b (0 : Int32) (Int32.ofNat cs.length)) O (fun _ q => nomatch q) ?_
  intro p e s m below meth c T w
  refine i_iloadN w own_d8_0 rfl (pc' := 1) rfl ?_
  refine i_newP w own_d8_1 (hw _ (List.mem_of_getElem? (i := 34) rfl)) (N := cs.length) rfl (by omega) (cap := 16) hn (by decide) (by decide) (by decide) (pc' := 3) rfl ?_
  intro d T19 h19 ca_d g_d w19 z_d E19 A_d
  show Goes p e below _ T19 (mkF m 3 #[.val (.ref b), .val (.int (0 : Int32)), .val (.int (Int32.ofNat cs.length)), .unset, .unset, .unset] [(.ref d)])
  have Ab1 := Ab.ext E19
  have lbd : b < d := g_d ▸ Ab.lt
  refine i_astoreN w19 own_d8_3 rfl (l' := #[.val (.ref b), .val (.int (0 : Int32)), .val (.int (Int32.ofNat cs.length)), .val (.ref d), .unset, .unset]) rfl (pc' := 4) rfl ?_
  refine i_aloadN w19 own_d8_4 rfl rfl (pc' := 5) rfl ?_
  refine i_iloadN w19 own_d8_5 rfl (pc' := 6) rfl ?_
  refine i_aloadN w19 own_d8_6 rfl rfl (pc' := 7) rfl ?_
  refine i_iconst w19 own_d8_7 (z := (0 : Int32)) (by decide) (pc' := 8) rfl ?_
  refine i_iloadN w19 own_d8_8 rfl (pc' := 9) rfl ?_
  refine c_static w19 (y := (⟨"java/lang/StringUTF16", "compress", "([CI[BII)I"⟩ : MethodName)) (argsL := [(.ref b), (.int (0 : Int32)), (.ref d), (.int (0 : Int32)), (.int (Int32.ofNat cs.length))]) (st := []) own_d8_9 (hw _ (List.mem_of_getElem? (i := 35) rfl)) (hw _ (List.mem_of_getElem? (i := 36) rfl)) (hw _ (List.mem_of_getElem? (i := 32) rfl)) (hw _ (List.mem_of_getElem? (i := 37) rfl)) (by decide) own_pd_pACIABIIqI rfl (own_cmp5 l Z a0 hw b d cb ca_d cs _ h19 n0 w19.old hcs (by omega) (Nat.ne_of_lt lbd) (Nat.le_trans w19.n0h0 z_d) Ab1 A_d (by simp)) rfl (by decide) (W := 0) (Nat.le_of_eq rfl) (by decide) (by decide) (by decide) (allS (Or.inr z_d) all0) (pc' := 12) rfl ?_
  intro v21 T21 h21 w21 K21 q21
  obtain ⟨j, bs, rfl, hj, ht, hs, Ad, hbl, hbt⟩ := q21
  show Goes p e below _ T21 (mkF m 12 #[.val (.ref b), .val (.int (0 : Int32)), .val (.int (Int32.ofNat cs.length)), .val (.ref d), .unset, .unset] [(.int (Int32.ofNat j))])
  have Ab2 := Ab1.keep K21 (ninS (Nat.ne_of_lt lbd) nin0)
  refine i_istore w21 own_d8_12 (l' := #[.val (.ref b), .val (.int (0 : Int32)), .val (.int (Int32.ofNat cs.length)), .val (.ref d), .val (.int (Int32.ofNat j)), .unset]) rfl (pc' := 14) rfl ?_
  refine i_iload w21 own_d8_14 rfl (pc' := 16) rfl ?_
  refine i_iloadN w21 own_d8_16 rfl (pc' := 17) rfl ?_
  refine i_icmp_eq w21 own_d8_17 (pcY := 57) (by decide) (pc' := 20) rfl (fun hc17 => ?_) (fun hc17 => ?_)
  ·
    refine i_aloadN w21 own_d8_57 rfl rfl (pc' := 58) rfl ?_
    have hjn : j = cs.length := (eq_nat (by omega) (by omega)).mp hc17
    subst hjn
    rw [List.take_length, ← hbl, List.take_length] at hbt
    subst hbt
    rw [List.take_length] at ht
    exact i_retA w21 own_d8_58 rfl rfl rfl ⟨d, ca_d, rfl, z_d, Or.inl ⟨Ad, ht⟩⟩ (by decide) (by decide)
  ·
    refine i_aloadN w21 own_d8_20 rfl rfl (pc' := 21) rfl ?_
    refine i_iloadN w21 own_d8_21 rfl (pc' := 22) rfl ?_
    refine i_iloadN w21 own_d8_22 rfl (pc' := 23) rfl ?_
    have hjl : j < cs.length := by rcases Nat.lt_or_ge j cs.length with q | q; exact q; exact absurd (by rw [show j = cs.length by omega]) hc17
    obtain ⟨ci, hci⟩ : ∃ ci, cs[j]? = some ci := ⟨_, List.getElem?_eq_getElem hjl⟩
    have hc256 := hs ci hci
    have hcb : ci < 65536 := hcs ci (List.mem_of_getElem? hci)
    refine c_static w21 (y := (⟨"java/lang/StringUTF16", "toBytes", "([CII)[B"⟩ : MethodName)) (argsL := [(.ref b), (.int (0 : Int32)), (.int (Int32.ofNat cs.length))]) (st := []) own_d8_23 (hw _ (List.mem_of_getElem? (i := 38) rfl)) (hw _ (List.mem_of_getElem? (i := 39) rfl)) (hw _ (List.mem_of_getElem? (i := 32) rfl)) (hw _ (List.mem_of_getElem? (i := 40) rfl)) (by decide) own_pd_pACIIqAB rfl (own_toB l Z a0 hw b cb cs SA SHi SLo h21 n0 w21.old hcs (by omega) Ab2) rfl (by decide) (W := 0) (Nat.le_of_eq rfl) (by decide) (by decide) (by decide) (fun _ q => nomatch q) (pc' := 26) rfl ?_
    intro v23 T23 h23 w23 K23 q23
    obtain ⟨u, cu, rfl, zu, Au⟩ := q23
    show Goes p e below _ T23 (mkF m 26 #[.val (.ref b), .val (.int (0 : Int32)), .val (.int (Int32.ofNat cs.length)), .val (.ref d), .val (.int (Int32.ofNat j)), .unset] [(.ref u)])
    have zu0 : h0.size ≤ u := Nat.le_trans (Nat.le_trans (Nat.le_trans z_d (Nat.le_of_lt A_d.lt)) K21.1) zu
    refine i_astore w23 own_d8_26 rfl (l' := #[.val (.ref b), .val (.int (0 : Int32)), .val (.int (Int32.ofNat cs.length)), .val (.ref d), .val (.int (Int32.ofNat j)), .val (.ref u)]) rfl (pc' := 28) rfl ?_
    refine i_aload w23 own_d8_28 rfl rfl (pc' := 30) rfl ?_
    refine i_iload w23 own_d8_30 rfl (pc' := 32) rfl ?_
    refine c_static w23 (y := (⟨"java/lang/StringUTF16", "getChar", "([BI)C"⟩ : MethodName)) (argsL := [(.ref u), (.int (Int32.ofNat j))]) (st := []) own_d8_32 (hw _ (List.mem_of_getElem? (i := 54) rfl)) (hw _ (List.mem_of_getElem? (i := 55) rfl)) (hw _ (List.mem_of_getElem? (i := 32) rfl)) (hw _ (List.mem_of_getElem? (i := 56) rfl)) (by decide) own_pd_pABIqC rfl (own_getChar l Z a0 hw u cu cs j ci SA SHi SLo h23 n0 w23.old Au hci hcb) rfl (by decide) (W := 0) (Nat.le_of_eq rfl) (by decide) (by decide) (by decide) (fun _ q => nomatch q) (pc' := 35) rfl ?_
    intro v25 T25 h25 w25 K25 q25
    obtain ⟨rfl, rfl⟩ := q25
    show Goes p e below _ T25 (mkF m 35 #[.val (.ref b), .val (.int (0 : Int32)), .val (.int (Int32.ofNat cs.length)), .val (.ref d), .val (.int (Int32.ofNat j)), .val (.ref u)] [(.int (Int32.ofNat ci))])
    refine i_sipush w25 own_d8_35 (z := (255 : Int32)) (by decide) (pc' := 38) rfl ?_
    refine i_icmp_gt_Y w25 ((gt255 hcb).mpr hc256) own_d8_38 (pc' := 54) (by decide) ?_
    refine i_aload w25 own_d8_54 rfl rfl (pc' := 56) rfl ?_
    exact i_retA w25 own_d8_56 rfl rfl rfl ⟨u, cu, rfl, zu0, Or.inr ⟨Au, ci, List.mem_of_getElem? hci, hc256⟩⟩ (by decide) (by decide)
theorem own_d15_0 : decode jdk_52_method_15_code 0 = .ok (.iload_n 1, 1) := by decide +kernel
theorem own_d15_1 : decode jdk_52_method_15_code 1 = .ok (.aload_n 0, 1) := by decide +kernel
theorem own_d15_2 : decode jdk_52_method_15_code 2 = .ok (.arraylength, 1) := by decide +kernel
theorem own_d15_3 : decode jdk_52_method_15_code 3 = .ok (.isub, 1) := by decide +kernel
theorem own_d15_4 : decode jdk_52_method_15_code 4 = .ok (.bipush 31, 2) := by decide +kernel
theorem own_d15_6 : decode jdk_52_method_15_code 6 = .ok (.iushr, 1) := by decide +kernel
theorem own_d15_7 : decode jdk_52_method_15_code 7 = .ok (.i2b, 1) := by decide +kernel
theorem own_d15_8 : decode jdk_52_method_15_code 8 = .ok (.ireturn, 1) := by decide +kernel
theorem own_pd_pABIqB : parseMethodDescriptor "([BI)B" = some ⟨[(.array .byte), .int], some .byte⟩ := by decide +kernel
theorem own_ef_own_d15 (m : MethodId) (x0 : Addr) (x1 : Int32) : entryFrame m #[(.ref x0), (.int x1)] 2 = mkF m 0 #[.val (.ref x0), .val (.int x1)] [] := by
  first | (simp [entryFrame, mkF, argsToLocals, Value.category]; done) | rfl
set_option maxRecDepth 65536 in
set_option maxHeartbeats 40000000 in
theorem own_codLen (l : Launch) (Z : State) (a0 : Array Value) (hw : ∀ d ∈ tables_1, d.before a0 Z = true) (t : Addr) (ca : ClassId) (vs : List Value) (x : Int32) (h0 : Heap) (n0 : Nat) (O : Old Z n0 h0) (At : Ary Z h0 t ca .byte vs) :
    Ctr l Z n0 (⟨"java/lang/StringUTF16", "coderFromArrayLen", "([BI)B"⟩ : MethodName) jdk_52_method_15_code 2 (some .byte) [] ({ frames := 0, cells := 0, slots := 0, locals := 0 } : Room) #[(.ref t), (.int x)] h0 [] (fun v h => v = some (.int ((XT.ushr (x - Int32.ofNat vs.length) 31).toInt8.toInt32)) ∧ h0 = h) := by
  refine enter (plainFor_of_name own_pn_java_lang_StringUTF16) (fun m => own_ef_own_d15 m t x) O (fun _ q => nomatch q) ?_
  intro p e s m below meth c T w
  refine i_iloadN w own_d15_0 rfl (pc' := 1) rfl ?_
  refine i_aloadN w own_d15_1 rfl rfl (pc' := 2) rfl ?_
  refine i_len w own_d15_2 At rfl (pc' := 3) rfl ?_
  refine i_isub w own_d15_3 (pc' := 4) rfl ?_
  refine i_bipush w own_d15_4 (z := (31 : Int32)) (by decide) (pc' := 6) rfl ?_
  refine i_iushr w own_d15_6 (pc' := 7) rfl ?_
  refine i_i2b w own_d15_7 (pc' := 8) rfl ?_
  exact i_retN w own_d15_8 rfl (by simp) ⟨by rw [byte_idem], rfl⟩ (by decide) (by decide)
theorem own_d6_0 : decode jdk_42_method_149_code 0 = .ok (.aload_n 0, 1) := by decide +kernel
theorem own_d6_1 : decode jdk_42_method_149_code 1 = .ok (.invokespecial 1, 3) := by decide +kernel
theorem own_d6_4 : decode jdk_42_method_149_code 4 = .ok (.iload_n 3, 1) := by decide +kernel
theorem own_d6_5 : decode jdk_42_method_149_code 5 = .ok (.ifCond .ne 22, 3) := by decide +kernel
theorem own_d6_8 : decode jdk_42_method_149_code 8 = .ok (.aload_n 0, 1) := by decide +kernel
theorem own_d6_9 : decode jdk_42_method_149_code 9 = .ok (.ldc 7, 2) := by decide +kernel
theorem own_d6_11 : decode jdk_42_method_149_code 11 = .ok (.getfield 9, 3) := by decide +kernel
theorem own_d6_14 : decode jdk_42_method_149_code 14 = .ok (.putfield 9, 3) := by decide +kernel
theorem own_d6_17 : decode jdk_42_method_149_code 17 = .ok (.aload_n 0, 1) := by decide +kernel
theorem own_d6_18 : decode jdk_42_method_149_code 18 = .ok (.ldc 7, 2) := by decide +kernel
theorem own_d6_20 : decode jdk_42_method_149_code 20 = .ok (.getfield 15, 3) := by decide +kernel
theorem own_d6_23 : decode jdk_42_method_149_code 23 = .ok (.putfield 15, 3) := by decide +kernel
theorem own_d6_26 : decode jdk_42_method_149_code 26 = .ok (.return_, 1) := by decide +kernel
theorem own_d6_27 : decode jdk_42_method_149_code 27 = .ok (.getstatic 38, 3) := by decide +kernel
theorem own_d6_30 : decode jdk_42_method_149_code 30 = .ok (.ifCond .eq 28, 3) := by decide +kernel
theorem own_d6_33 : decode jdk_42_method_149_code 33 = .ok (.aload_n 1, 1) := by decide +kernel
theorem own_d6_34 : decode jdk_42_method_149_code 34 = .ok (.iload_n 2, 1) := by decide +kernel
theorem own_d6_35 : decode jdk_42_method_149_code 35 = .ok (.iload_n 3, 1) := by decide +kernel
theorem own_d6_36 : decode jdk_42_method_149_code 36 = .ok (.invokestatic 177, 3) := by decide +kernel
theorem own_d6_39 : decode jdk_42_method_149_code 39 = .ok (.astore 5, 2) := by decide +kernel
theorem own_d6_41 : decode jdk_42_method_149_code 41 = .ok (.aload_n 0, 1) := by decide +kernel
theorem own_d6_42 : decode jdk_42_method_149_code 42 = .ok (.aload 5, 2) := by decide +kernel
theorem own_d6_44 : decode jdk_42_method_149_code 44 = .ok (.iload_n 3, 1) := by decide +kernel
theorem own_d6_45 : decode jdk_42_method_149_code 45 = .ok (.invokestatic 47, 3) := by decide +kernel
theorem own_d6_48 : decode jdk_42_method_149_code 48 = .ok (.putfield 15, 3) := by decide +kernel
theorem own_d6_51 : decode jdk_42_method_149_code 51 = .ok (.aload_n 0, 1) := by decide +kernel
theorem own_d6_52 : decode jdk_42_method_149_code 52 = .ok (.aload 5, 2) := by decide +kernel
theorem own_d6_54 : decode jdk_42_method_149_code 54 = .ok (.putfield 9, 3) := by decide +kernel
theorem own_d6_57 : decode jdk_42_method_149_code 57 = .ok (.return_, 1) := by decide +kernel
theorem own_d6_58 : decode jdk_42_method_149_code 58 = .ok (.aload_n 0, 1) := by decide +kernel
theorem own_d6_59 : decode jdk_42_method_149_code 59 = .ok (.iconst 1, 1) := by decide +kernel
theorem own_d6_60 : decode jdk_42_method_149_code 60 = .ok (.putfield 15, 3) := by decide +kernel
theorem own_d6_63 : decode jdk_42_method_149_code 63 = .ok (.aload_n 0, 1) := by decide +kernel
theorem own_d6_64 : decode jdk_42_method_149_code 64 = .ok (.aload_n 1, 1) := by decide +kernel
theorem own_d6_65 : decode jdk_42_method_149_code 65 = .ok (.iload_n 2, 1) := by decide +kernel
theorem own_d6_66 : decode jdk_42_method_149_code 66 = .ok (.iload_n 3, 1) := by decide +kernel
theorem own_d6_67 : decode jdk_42_method_149_code 67 = .ok (.invokestatic 180, 3) := by decide +kernel
theorem own_d6_70 : decode jdk_42_method_149_code 70 = .ok (.putfield 9, 3) := by decide +kernel
theorem own_d6_73 : decode jdk_42_method_149_code 73 = .ok (.return_, 1) := by decide +kernel
theorem own_pn_java_lang_String : plainName "java/lang/String" = true := by first | (simp [plainName, overriddenIn]; done) | decide +kernel
theorem own_pd_pACIILjava_lang_VoideqV : parseMethodDescriptor "([CIILjava/lang/Void;)V" = some ⟨[(.array .char), .int, .int, (.object "java/lang/Void")], none⟩ := by decide +kernel
theorem own_ef_own_d6n4 (m : MethodId) (x0 : Addr) (x1 : Addr) (x2 : Int32) (x3 : Int32) : entryFrame m #[(.ref x0), (.ref x1), (.int x2), (.int x3), .null] 6 = mkF m 0 #[.val (.ref x0), .val (.ref x1), .val (.int x2), .val (.int x3), .val .null, .unset] [] := by
  first | (simp [entryFrame, mkF, argsToLocals, Value.category]; done) | rfl
set_option maxRecDepth 65536 in
set_option maxHeartbeats 40000000 in
theorem own_new4 (l : Launch) (Z : State) (a0 : Array Value) (hw : ∀ d ∈ tables_1, d.before a0 Z = true) (a b : Addr) (cb : ClassId) (cs : List Nat) {v0 c0 : Value} (G1 : Int32) (hG : ¬ G1 = 0) (SG : Sta Z Z.heap "java/lang/String" "COMPACT_STRINGS" "Z" (.int G1)) (SA : Sta Z Z.heap "java/lang/StringUTF16" "$assertionsDisabled" "Z" (.int 1)) (SHi : Sta Z Z.heap "java/lang/StringUTF16" "HI_BYTE_SHIFT" "I" (.int 0)) (SLo : Sta Z Z.heap "java/lang/StringUTF16" "LO_BYTE_SHIFT" "I" (.int 8)) (h0 : Heap) (n0 : Nat) (O : Old Z n0 h0) (ha : n0 ≤ a) (hcs : ∀ c ∈ cs, c < 65536) (h1 : 0 < cs.length) (hn : cs.length ≤ 16) (Ea : Exa Z h0 a ST) (Fv : Fld Z h0 a ST "value" "[B" v0) (Fc : Fld Z h0 a ST "coder" "B" c0) (Ab : Ary Z h0 b cb .char (chs cs)) :
    Ctr l Z n0 (⟨"java/lang/String", "<init>", "([CIILjava/lang/Void;)V"⟩ : MethodName) jdk_42_method_149_code 6 none [] ({ frames := 4, cells := 2, slots := 48, locals := 57 } : Room) #[(.ref a), (.ref b), (.int (0 : Int32)), (.int (Int32.ofNat cs.length)), .null] h0 [a] (fun v h => v = none ∧ ∃ t ca, h0.size ≤ t ∧ Str Z h a t ca cs) := by
  refine enter (plainFor_of_name own_pn_java_lang_String) (fun m => own_ef_own_d6n4 m a b (0 : Int32) (Int32.ofNat cs.length)) O (allS ha all0) ?_
  intro p e s m below meth c T w
  refine i_aloadN w own_d6_0 rfl rfl (pc' := 1) rfl ?_
  refine i_initO w own_d6_1 (hw _ (List.mem_of_getElem? (i := 26) rfl)) (hw _ (List.mem_of_getElem? (i := 27) rfl)) (hw _ (List.mem_of_getElem? (i := 28) rfl)) rfl (by decide) (W := 0) (Nat.le_of_eq rfl) (by decide) (pc' := 4) rfl ?_
  intro T26 w26
  show Goes p e below _ T26 (mkF m 4 #[.val (.ref a), .val (.ref b), .val (.int (0 : Int32)), .val (.int (Int32.ofNat cs.length)), .val .null, .unset] [])
  refine i_iloadN w26 own_d6_4 rfl (pc' := 5) rfl ?_
  refine i_if_ne_Y w26 (ofNat_ne0 h1 (by omega)) own_d6_5 (pc' := 27) (by decide) ?_
  refine i_getS w26 own_d6_27 (hw _ (List.mem_of_getElem? (i := 29) rfl)) SG (pc' := 30) rfl ?_
  intro T27 w27
  refine i_if_eq_N w27 hG own_d6_30 (pc' := 33) rfl ?_
  refine i_aloadN w27 own_d6_33 rfl rfl (pc' := 34) rfl ?_
  refine i_iloadN w27 own_d6_34 rfl (pc' := 35) rfl ?_
  refine i_iloadN w27 own_d6_35 rfl (pc' := 36) rfl ?_
  refine c_static w27 (y := (⟨"java/lang/StringUTF16", "compress", "([CII)[B"⟩ : MethodName)) (argsL := [(.ref b), (.int (0 : Int32)), (.int (Int32.ofNat cs.length))]) (st := []) own_d6_36 (hw _ (List.mem_of_getElem? (i := 30) rfl)) (hw _ (List.mem_of_getElem? (i := 31) rfl)) (hw _ (List.mem_of_getElem? (i := 32) rfl)) (hw _ (List.mem_of_getElem? (i := 33) rfl)) (by decide) own_pd_pACIIqAB rfl (own_cmp3 l Z a0 hw b cb cs SA SHi SLo h0 n0 w27.old hcs hn Ab) rfl (by decide) (W := 0) (Nat.le_of_eq rfl) (by decide) (by decide) (by decide) (fun _ q => nomatch q) (pc' := 39) rfl ?_
  intro v28 T28 h28 w28 K28 q28
  obtain ⟨t, ca, rfl, zt, Dt⟩ := q28
  show Goes p e below _ T28 (mkF m 39 #[.val (.ref a), .val (.ref b), .val (.int (0 : Int32)), .val (.int (Int32.ofNat cs.length)), .val .null, .unset] [(.ref t)])
  have Fv1 := Fv.keep K28 nin0
  have Fc1 := Fc.keep K28 nin0
  have Ea1 := Ea.keep K28
  have lat1 : a < t := Nat.lt_of_lt_of_le Ea.lt zt
  obtain ⟨vs, cd, At, hcd, hor, hnb, hfb⟩ : ∃ vs cd, Ary Z h28 t ca .byte vs ∧ (XT.ushr (Int32.ofNat cs.length - Int32.ofNat vs.length) 31).toInt8.toInt32 = cd ∧ ((vs = lat cs ∧ cd = 0 ∧ ∀ c ∈ cs, c < 256) ∨ (vs = wid cs ∧ cd = 1 ∧ ∃ c ∈ cs, 256 ≤ c)) ∧ narrow .byte (.int cd) = .int cd ∧ fits .byte (.int cd) = true := by
    rcases Dt with ⟨At, q⟩ | ⟨At, q⟩
    · exact ⟨_, 0, At, by rw [lat_len]; exact cod0 _, Or.inl ⟨rfl, rfl, q⟩, rfl, rfl⟩
    · exact ⟨_, 1, At, by rw [wid_len]; exact cod1 h1 (by omega), Or.inr ⟨rfl, rfl, q⟩, rfl, rfl⟩
  refine i_astore w28 own_d6_39 rfl (l' := #[.val (.ref a), .val (.ref b), .val (.int (0 : Int32)), .val (.int (Int32.ofNat cs.length)), .val .null, .val (.ref t)]) rfl (pc' := 41) rfl ?_
  refine i_aloadN w28 own_d6_41 rfl rfl (pc' := 42) rfl ?_
  refine i_aload w28 own_d6_42 rfl rfl (pc' := 44) rfl ?_
  refine i_iloadN w28 own_d6_44 rfl (pc' := 45) rfl ?_
  refine c_static w28 (y := (⟨"java/lang/StringUTF16", "coderFromArrayLen", "([BI)B"⟩ : MethodName)) (argsL := [(.ref t), (.int (Int32.ofNat cs.length))]) (st := [(.ref a)]) own_d6_45 (hw _ (List.mem_of_getElem? (i := 57) rfl)) (hw _ (List.mem_of_getElem? (i := 58) rfl)) (hw _ (List.mem_of_getElem? (i := 32) rfl)) (hw _ (List.mem_of_getElem? (i := 59) rfl)) (by decide) own_pd_pABIqB rfl (own_codLen l Z a0 hw t ca vs (Int32.ofNat cs.length) h28 n0 w28.old At) rfl (by decide) (W := 1) (Nat.le_of_eq rfl) (by decide) (by decide) (by decide) (fun _ q => nomatch q) (pc' := 48) rfl ?_
  intro v30 T30 h30 w30 K30 q30
  obtain ⟨rfl, rfl⟩ := q30
  show Goes p e below _ T30 (mkF m 48 #[.val (.ref a), .val (.ref b), .val (.int (0 : Int32)), .val (.int (Int32.ofNat cs.length)), .val .null, .val (.ref t)] [(.int (XT.ushr (Int32.ofNat cs.length - Int32.ofNat vs.length) 31).toInt8.toInt32), (.ref a)])
  rw [hcd]
  show Goes p e below _ T30 (mkF m 48 #[.val (.ref a), .val (.ref b), .val (.int (0 : Int32)), .val (.int (Int32.ofNat cs.length)), .val .null, .val (.ref t)] [(.int cd), (.ref a)])
  refine i_putF w30 own_d6_48 (hw _ (List.mem_of_getElem? (i := 60) rfl)) Fc1 Ea1 (Or.inr ⟨(hw _ (List.mem_of_getElem? (i := 61) rfl)), rfl, rfl⟩) (hw _ (List.mem_of_getElem? (i := 17) rfl)) (ty := .byte) (by decide) hnb hfb (Or.inl (List.mem_singleton.mpr rfl)) (pc' := 51) rfl ?_
  intro T31 h31 w31 W31
  show Goes p e below _ T31 (mkF m 51 #[.val (.ref a), .val (.ref b), .val (.int (0 : Int32)), .val (.int (Int32.ofNat cs.length)), .val .null, .val (.ref t)] [])
  have Fc2 := Fld.same W31 Fc1
  have Fv2 := Fv1.other W31 (Or.inr (slot_ne (Or.inr (hw _ (List.mem_of_getElem? (i := 63) rfl))) (Or.inr (hw _ (List.mem_of_getElem? (i := 61) rfl))) (by decide) (t := (.array .byte)) (t' := .byte) (by decide) (by decide)))
  have Ea2 := Ea1.wr W31
  have At2 := At.other W31 (Nat.ne_of_gt lat1)
  refine i_aloadN w31 own_d6_51 rfl rfl (pc' := 52) rfl ?_
  refine i_aload w31 own_d6_52 rfl rfl (pc' := 54) rfl ?_
  refine i_putF w31 own_d6_54 (hw _ (List.mem_of_getElem? (i := 62) rfl)) Fv2 Ea2 (Or.inr ⟨(hw _ (List.mem_of_getElem? (i := 63) rfl)), rfl, rfl⟩) (hw _ (List.mem_of_getElem? (i := 17) rfl)) (ty := (.array .byte)) (by decide) rfl rfl (Or.inl (List.mem_singleton.mpr rfl)) (pc' := 57) rfl ?_
  intro T32 h32 w32 W32
  show Goes p e below _ T32 (mkF m 57 #[.val (.ref a), .val (.ref b), .val (.int (0 : Int32)), .val (.int (Int32.ofNat cs.length)), .val .null, .val (.ref t)] [])
  have Fv3 := Fld.same W32 Fv2
  have Fc3 := Fc2.other W32 (Or.inr (slot_ne (Or.inr (hw _ (List.mem_of_getElem? (i := 61) rfl))) (Or.inr (hw _ (List.mem_of_getElem? (i := 63) rfl))) (by decide) (t := .byte) (t' := (.array .byte)) (by decide) (by decide)))
  have Ea3 := Ea2.wr W32
  have At3 := At2.other W32 (Nat.ne_of_gt lat1)
  have St3 : Str Z h32 a t ca cs := by
    rcases hor with ⟨rfl, rfl, q⟩ | ⟨rfl, rfl, q⟩
    · exact Or.inl ⟨Ea3, Fv3, Fc3, At3, q⟩
    · exact Or.inr ⟨Ea3, Fv3, Fc3, At3, hcs, q⟩
  exact i_ret0 w32 own_d6_57 rfl ⟨rfl, t, ca, zt, St3⟩ (by decide) (by decide)
theorem own_d5_0 : decode jdk_42_method_3_code 0 = .ok (.aload_n 0, 1) := by decide +kernel
theorem own_d5_1 : decode jdk_42_method_3_code 1 = .ok (.aload_n 1, 1) := by decide +kernel
theorem own_d5_2 : decode jdk_42_method_3_code 2 = .ok (.iconst 0, 1) := by decide +kernel
theorem own_d5_3 : decode jdk_42_method_3_code 3 = .ok (.aload_n 1, 1) := by decide +kernel
theorem own_d5_4 : decode jdk_42_method_3_code 4 = .ok (.arraylength, 1) := by decide +kernel
theorem own_d5_5 : decode jdk_42_method_3_code 5 = .ok (.aconst_null, 1) := by decide +kernel
theorem own_d5_6 : decode jdk_42_method_3_code 6 = .ok (.invokespecial 27, 3) := by decide +kernel
theorem own_d5_9 : decode jdk_42_method_3_code 9 = .ok (.return_, 1) := by decide +kernel
theorem own_pd_pACqV : parseMethodDescriptor "([C)V" = some ⟨[(.array .char)], none⟩ := by decide +kernel
theorem own_ef_own_d5 (m : MethodId) (x0 : Addr) (x1 : Addr) : entryFrame m #[(.ref x0), (.ref x1)] 2 = mkF m 0 #[.val (.ref x0), .val (.ref x1)] [] := by
  first | (simp [entryFrame, mkF, argsToLocals, Value.category]; done) | rfl
set_option maxRecDepth 65536 in
set_option maxHeartbeats 40000000 in
theorem own_new1 (l : Launch) (Z : State) (a0 : Array Value) (hw : ∀ d ∈ tables_1, d.before a0 Z = true) (a b : Addr) (cb : ClassId) (cs : List Nat) {v0 c0 : Value} (G1 : Int32) (hG : ¬ G1 = 0) (SG : Sta Z Z.heap "java/lang/String" "COMPACT_STRINGS" "Z" (.int G1)) (SA : Sta Z Z.heap "java/lang/StringUTF16" "$assertionsDisabled" "Z" (.int 1)) (SHi : Sta Z Z.heap "java/lang/StringUTF16" "HI_BYTE_SHIFT" "I" (.int 0)) (SLo : Sta Z Z.heap "java/lang/StringUTF16" "LO_BYTE_SHIFT" "I" (.int 8)) (h0 : Heap) (n0 : Nat) (O : Old Z n0 h0) (ha : n0 ≤ a) (hcs : ∀ c ∈ cs, c < 65536) (h1 : 0 < cs.length) (hn : cs.length ≤ 16) (Ea : Exa Z h0 a ST) (Fv : Fld Z h0 a ST "value" "[B" v0) (Fc : Fld Z h0 a ST "coder" "B" c0) (Ab : Ary Z h0 b cb .char (chs cs)) :
    Ctr l Z n0 (⟨"java/lang/String", "<init>", "([C)V"⟩ : MethodName) jdk_42_method_3_code 2 none [] ({ frames := 5, cells := 2, slots := 48, locals := 74 } : Room) #[(.ref a), (.ref b)] h0 [a] (fun v h => v = none ∧ ∃ t ca, h0.size ≤ t ∧ Str Z h a t ca cs) := by
  refine enter (plainFor_of_name own_pn_java_lang_String) (fun m => own_ef_own_d5 m a b) O (allS ha all0) ?_
  intro p e s m below meth c T w
  refine i_aloadN w own_d5_0 rfl rfl (pc' := 1) rfl ?_
  refine i_aloadN w own_d5_1 rfl rfl (pc' := 2) rfl ?_
  refine i_iconst w own_d5_2 (z := (0 : Int32)) (by decide) (pc' := 3) rfl ?_
  refine i_aloadN w own_d5_3 rfl rfl (pc' := 4) rfl ?_
  refine i_len w own_d5_4 Ab (z := Int32.ofNat cs.length) (by rw [chs_len]) (pc' := 5) rfl ?_
  refine i_aconstNull w own_d5_5 (pc' := 6) rfl ?_
  refine c_special w (y := (⟨"java/lang/String", "<init>", "([CIILjava/lang/Void;)V"⟩ : MethodName)) (a := a) (argsL := [(.ref b), (.int (0 : Int32)), (.int (Int32.ofNat cs.length)), .null]) (st := []) own_d5_6 rfl (hw _ (List.mem_of_getElem? (i := 22) rfl)) (hw _ (List.mem_of_getElem? (i := 23) rfl)) (hw _ (List.mem_of_getElem? (i := 18) rfl)) (hw _ (List.mem_of_getElem? (i := 25) rfl)) (by decide) own_pd_pACIILjava_lang_VoideqV rfl (own_new4 l Z a0 hw a b cb cs G1 hG SG SA SHi SLo h0 n0 w.old ha hcs h1 hn Ea Fv Fc Ab) rfl (by decide) (W := 0) (Nat.le_of_eq rfl) (by decide) (by decide) (by decide) (allS (Or.inl (List.mem_singleton.mpr rfl)) all0) (pc' := 9) rfl ?_
  intro v33 T33 h33 w33 K33 q33
  obtain ⟨rfl, t, ca, zt, St⟩ := q33
  show Goes p e below _ T33 (mkF m 9 #[.val (.ref a), .val (.ref b)] [])
  exact i_ret0 w33 own_d5_9 rfl ⟨rfl, t, ca, zt, St⟩ (by decide) (by decide)
theorem own_d53_0 : decode jdk_42_method_152_code 0 = .ok (.getstatic 38, 3) := by decide +kernel
theorem own_d53_3 : decode jdk_42_method_152_code 3 = .ok (.ifCond .eq 10, 3) := by decide +kernel
theorem own_d53_6 : decode jdk_42_method_152_code 6 = .ok (.aload_n 0, 1) := by decide +kernel
theorem own_d53_7 : decode jdk_42_method_152_code 7 = .ok (.getfield 15, 3) := by decide +kernel
theorem own_d53_10 : decode jdk_42_method_152_code 10 = .ok (.goto 4, 3) := by decide +kernel
theorem own_d53_13 : decode jdk_42_method_152_code 13 = .ok (.iconst 1, 1) := by decide +kernel
theorem own_d53_14 : decode jdk_42_method_152_code 14 = .ok (.ireturn, 1) := by decide +kernel
theorem own_pd_pqB : parseMethodDescriptor "()B" = some ⟨[], some .byte⟩ := by decide +kernel
theorem own_ef_own_d53 (m : MethodId) (x0 : Addr) : entryFrame m #[(.ref x0)] 1 = mkF m 0 #[.val (.ref x0)] [] := by
  first | (simp [entryFrame, mkF, argsToLocals, Value.category]; done) | rfl
set_option maxRecDepth 65536 in
set_option maxHeartbeats 40000000 in
theorem own_coder (l : Launch) (Z : State) (a0 : Array Value) (hw : ∀ d ∈ tables_1, d.before a0 Z = true) (a : Addr) (cd : Int32) (G1 : Int32) (hG : ¬ G1 = 0) (SG : Sta Z Z.heap "java/lang/String" "COMPACT_STRINGS" "Z" (.int G1)) (h0 : Heap) (n0 : Nat) (O : Old Z n0 h0) (Fc : Fld Z h0 a ST "coder" "B" (.int cd)) (hcd : cd = 0 ∨ cd = 1) :
    Ctr l Z n0 (⟨"java/lang/String", "coder", "()B"⟩ : MethodName) jdk_42_method_152_code 1 (some .byte) [] ({ frames := 0, cells := 0, slots := 0, locals := 0 } : Room) #[(.ref a)] h0 [] (fun v h => v = some (.int cd) ∧ h0 = h) := by
  refine enter (plainFor_of_name own_pn_java_lang_String) (fun m => own_ef_own_d53 m a) O (fun _ q => nomatch q) ?_
  intro p e s m below meth c T w
  refine i_getS w own_d53_0 (hw _ (List.mem_of_getElem? (i := 29) rfl)) SG (pc' := 3) rfl ?_
  intro T35 w35
  refine i_if_eq_N w35 hG own_d53_3 (pc' := 6) rfl ?_
  refine i_aloadN w35 own_d53_6 rfl rfl (pc' := 7) rfl ?_
  refine i_getF w35 own_d53_7 (hw _ (List.mem_of_getElem? (i := 60) rfl)) Fc (pc' := 10) rfl ?_
  intro T36 w36
  refine i_goto w36 own_d53_10 (pc' := 14) (by decide) ?_
  exact i_retN w36 own_d53_14 rfl (by simp) ⟨by rcases hcd with rfl | rfl <;> rfl, rfl⟩ (by decide) (by decide)
theorem own_d52_0 : decode jdk_42_method_54_code 0 = .ok (.aload_n 0, 1) := by decide +kernel
theorem own_d52_1 : decode jdk_42_method_54_code 1 = .ok (.getfield 9, 3) := by decide +kernel
theorem own_d52_4 : decode jdk_42_method_54_code 4 = .ok (.arraylength, 1) := by decide +kernel
theorem own_d52_5 : decode jdk_42_method_54_code 5 = .ok (.aload_n 0, 1) := by decide +kernel
theorem own_d52_6 : decode jdk_42_method_54_code 6 = .ok (.invokevirtual 335, 3) := by decide +kernel
theorem own_d52_9 : decode jdk_42_method_54_code 9 = .ok (.ishr, 1) := by decide +kernel
theorem own_d52_10 : decode jdk_42_method_54_code 10 = .ok (.ireturn, 1) := by decide +kernel
theorem own_pd_pqI : parseMethodDescriptor "()I" = some ⟨[], some .int⟩ := by decide +kernel
theorem own_ef_own_d52 (m : MethodId) (x0 : Addr) : entryFrame m #[(.ref x0)] 1 = mkF m 0 #[.val (.ref x0)] [] := by
  first | (simp [entryFrame, mkF, argsToLocals, Value.category]; done) | rfl
set_option maxRecDepth 65536 in
set_option maxHeartbeats 40000000 in
theorem own_length (l : Launch) (Z : State) (a0 : Array Value) (hw : ∀ d ∈ tables_1, d.before a0 Z = true) (a t : Addr) (ca : ClassId) (cs : List Nat) (G1 : Int32) (hG : ¬ G1 = 0) (SG : Sta Z Z.heap "java/lang/String" "COMPACT_STRINGS" "Z" (.int G1)) (h0 : Heap) (n0 : Nat) (O : Old Z n0 h0) (S : Str Z h0 a t ca cs) :
    Ctr l Z n0 (⟨"java/lang/String", "length", "()I"⟩ : MethodName) jdk_42_method_54_code 1 (some .int) [] ({ frames := 1, cells := 0, slots := 0, locals := 13 } : Room) #[(.ref a)] h0 [] (fun v h => v = some (.int (Int32.ofNat cs.length)) ∧ h0 = h) := by
  refine enter (plainFor_of_name own_pn_java_lang_String) (fun m => own_ef_own_d52 m a) O (fun _ q => nomatch q) ?_
  intro p e s m below meth c T w
  refine i_aloadN w own_d52_0 rfl rfl (pc' := 1) rfl ?_
  obtain ⟨vs, cd, Fc, At, hcd, hln, -, -⟩ := S.raw
  refine i_getF w own_d52_1 (hw _ (List.mem_of_getElem? (i := 62) rfl)) S.val (pc' := 4) rfl ?_
  intro T37 w37
  refine i_len w37 own_d52_4 At rfl (pc' := 5) rfl ?_
  refine i_aloadN w37 own_d52_5 rfl rfl (pc' := 6) rfl ?_
  refine c_virtual w37 (y := (⟨"java/lang/String", "coder", "()B"⟩ : MethodName)) (C := "java/lang/String") (a := a) (argsL := []) (st := [(.int (Int32.ofNat vs.length))]) own_d52_6 (hw _ (List.mem_of_getElem? (i := 231) rfl)) (hw _ (List.mem_of_getElem? (i := 232) rfl)) (hw _ (List.mem_of_getElem? (i := 234) rfl)) (hw _ (List.mem_of_getElem? (i := 233) rfl)) (hw _ (List.mem_of_getElem? (i := 235) rfl)) (hw _ (List.mem_of_getElem? (i := 18) rfl)) (by decide) own_pd_pqB rfl S.exa (own_coder l Z a0 hw a cd G1 hG SG h0 n0 w37.old Fc hcd) rfl (by decide) (W := 1) (Nat.le_of_eq rfl) (by decide) (by decide) (by decide) (fun _ q => nomatch q) (pc' := 9) rfl ?_
  intro v38 T38 h38 w38 K38 q38
  obtain ⟨rfl, rfl⟩ := q38
  show Goes p e below _ T38 (mkF m 9 #[.val (.ref a)] [(.int cd), (.int (Int32.ofNat vs.length))])
  refine i_ishr w38 own_d52_9 (pc' := 10) rfl ?_
  exact i_retI w38 own_d52_10 rfl ⟨by rw [hln], rfl⟩ (by decide) (by decide)
theorem own_d51_0 : decode jdk_42_method_55_code 0 = .ok (.aload_n 0, 1) := by decide +kernel
theorem own_d51_1 : decode jdk_42_method_55_code 1 = .ok (.getfield 9, 3) := by decide +kernel
theorem own_d51_4 : decode jdk_42_method_55_code 4 = .ok (.arraylength, 1) := by decide +kernel
theorem own_d51_5 : decode jdk_42_method_55_code 5 = .ok (.ifCond .ne 7, 3) := by decide +kernel
theorem own_d51_8 : decode jdk_42_method_55_code 8 = .ok (.iconst 1, 1) := by decide +kernel
theorem own_d51_9 : decode jdk_42_method_55_code 9 = .ok (.goto 4, 3) := by decide +kernel
theorem own_d51_12 : decode jdk_42_method_55_code 12 = .ok (.iconst 0, 1) := by decide +kernel
theorem own_d51_13 : decode jdk_42_method_55_code 13 = .ok (.ireturn, 1) := by decide +kernel
theorem own_pd_pqZ : parseMethodDescriptor "()Z" = some ⟨[], some .boolean⟩ := by decide +kernel
theorem own_ef_own_d51 (m : MethodId) (x0 : Addr) : entryFrame m #[(.ref x0)] 1 = mkF m 0 #[.val (.ref x0)] [] := by
  first | (simp [entryFrame, mkF, argsToLocals, Value.category]; done) | rfl
set_option maxRecDepth 65536 in
set_option maxHeartbeats 40000000 in
theorem own_isEmpty (l : Launch) (Z : State) (a0 : Array Value) (hw : ∀ d ∈ tables_1, d.before a0 Z = true) (a t : Addr) (ca : ClassId) (cs : List Nat) (h0 : Heap) (n0 : Nat) (O : Old Z n0 h0) (S : Str Z h0 a t ca cs) :
    Ctr l Z n0 (⟨"java/lang/String", "isEmpty", "()Z"⟩ : MethodName) jdk_42_method_55_code 1 (some .boolean) [] ({ frames := 0, cells := 0, slots := 0, locals := 0 } : Room) #[(.ref a)] h0 [] (fun v h => v = some (.int (if cs.length = 0 then 1 else 0)) ∧ h0 = h) := by
  refine enter (plainFor_of_name own_pn_java_lang_String) (fun m => own_ef_own_d51 m a) O (fun _ q => nomatch q) ?_
  intro p e s m below meth c T w
  refine i_aloadN w own_d51_0 rfl rfl (pc' := 1) rfl ?_
  obtain ⟨vs, cd, Fc, At, hcd, -, hln, -⟩ := S.raw
  refine i_getF w own_d51_1 (hw _ (List.mem_of_getElem? (i := 62) rfl)) S.val (pc' := 4) rfl ?_
  intro T39 w39
  refine i_len w39 own_d51_4 At rfl (pc' := 5) rfl ?_
  refine i_if_ne w39 own_d51_5 (pcY := 12) (by decide) (pc' := 8) rfl (fun hc5 => ?_) (fun hc5 => ?_)
  ·
    refine i_iconst w39 own_d51_12 (z := (0 : Int32)) (by decide) (pc' := 13) rfl ?_
    exact i_retN w39 own_d51_13 rfl (by simp) ⟨by rw [if_neg (fun q => hc5 (by rw [hln.mpr q]; rfl))]; rfl, rfl⟩ (by decide) (by decide)
  ·
    refine i_iconst w39 own_d51_8 (z := (1 : Int32)) (by decide) (pc' := 9) rfl ?_
    refine i_goto w39 own_d51_9 (pc' := 13) (by decide) ?_
    exact i_retN w39 own_d51_13 rfl (by simp) ⟨by rw [if_pos (hln.mp ((eq_nat At.1 (by omega)).mp (hc5.trans (show (0 : Int32) = Int32.ofNat 0 from rfl))))]; rfl, rfl⟩ (by decide) (by decide)
theorem own_d20_0 : decode jdk_42_method_154_code 0 = .ok (.getstatic 38, 3) := by decide +kernel
theorem own_d20_3 : decode jdk_42_method_154_code 3 = .ok (.ifCond .eq 14, 3) := by decide +kernel
theorem own_d20_6 : decode jdk_42_method_154_code 6 = .ok (.aload_n 0, 1) := by decide +kernel
theorem own_d20_7 : decode jdk_42_method_154_code 7 = .ok (.getfield 15, 3) := by decide +kernel
theorem own_d20_10 : decode jdk_42_method_154_code 10 = .ok (.ifCond .ne 7, 3) := by decide +kernel
theorem own_d20_13 : decode jdk_42_method_154_code 13 = .ok (.iconst 1, 1) := by decide +kernel
theorem own_d20_14 : decode jdk_42_method_154_code 14 = .ok (.goto 4, 3) := by decide +kernel
theorem own_d20_17 : decode jdk_42_method_154_code 17 = .ok (.iconst 0, 1) := by decide +kernel
theorem own_d20_18 : decode jdk_42_method_154_code 18 = .ok (.ireturn, 1) := by decide +kernel
theorem own_ef_own_d20 (m : MethodId) (x0 : Addr) : entryFrame m #[(.ref x0)] 1 = mkF m 0 #[.val (.ref x0)] [] := by
  first | (simp [entryFrame, mkF, argsToLocals, Value.category]; done) | rfl
set_option maxRecDepth 65536 in
set_option maxHeartbeats 40000000 in
theorem own_isLatin1 (l : Launch) (Z : State) (a0 : Array Value) (hw : ∀ d ∈ tables_1, d.before a0 Z = true) (a : Addr) (cd : Int32) (G1 : Int32) (hG : ¬ G1 = 0) (SG : Sta Z Z.heap "java/lang/String" "COMPACT_STRINGS" "Z" (.int G1)) (h0 : Heap) (n0 : Nat) (O : Old Z n0 h0) (Fc : Fld Z h0 a ST "coder" "B" (.int cd)) :
    Ctr l Z n0 (⟨"java/lang/String", "isLatin1", "()Z"⟩ : MethodName) jdk_42_method_154_code 1 (some .boolean) [] ({ frames := 0, cells := 0, slots := 0, locals := 0 } : Room) #[(.ref a)] h0 [] (fun v h => v = some (.int (if cd = 0 then 1 else 0)) ∧ h0 = h) := by
  refine enter (plainFor_of_name own_pn_java_lang_String) (fun m => own_ef_own_d20 m a) O (fun _ q => nomatch q) ?_
  intro p e s m below meth c T w
  refine i_getS w own_d20_0 (hw _ (List.mem_of_getElem? (i := 29) rfl)) SG (pc' := 3) rfl ?_
  intro T40 w40
  refine i_if_eq_N w40 hG own_d20_3 (pc' := 6) rfl ?_
  refine i_aloadN w40 own_d20_6 rfl rfl (pc' := 7) rfl ?_
  refine i_getF w40 own_d20_7 (hw _ (List.mem_of_getElem? (i := 60) rfl)) Fc (pc' := 10) rfl ?_
  intro T41 w41
  refine i_if_ne w41 own_d20_10 (pcY := 17) (by decide) (pc' := 13) rfl (fun hc10 => ?_) (fun hc10 => ?_)
  ·
    refine i_iconst w41 own_d20_17 (z := (0 : Int32)) (by decide) (pc' := 18) rfl ?_
    exact i_retN w41 own_d20_18 rfl (by simp) ⟨by rw [if_neg hc10]; rfl, rfl⟩ (by decide) (by decide)
  ·
    refine i_iconst w41 own_d20_13 (z := (1 : Int32)) (by decide) (pc' := 14) rfl ?_
    refine i_goto w41 own_d20_14 (pc' := 18) (by decide) ?_
    exact i_retN w41 own_d20_18 rfl (by simp) ⟨by rw [if_pos hc10]; rfl, rfl⟩ (by decide) (by decide)
theorem own_d38_0 : decode jdk_41_method_11_code 0 = .ok (.iload_n 0, 1) := by decide +kernel
theorem own_d38_1 : decode jdk_41_method_11_code 1 = .ok (.ifCond .lt 8, 3) := by decide +kernel
theorem own_d38_4 : decode jdk_41_method_11_code 4 = .ok (.iload_n 0, 1) := by decide +kernel
theorem own_d38_5 : decode jdk_41_method_11_code 5 = .ok (.iload_n 1, 1) := by decide +kernel
theorem own_d38_6 : decode jdk_41_method_11_code 6 = .ok (.if_icmp .lt 10, 3) := by decide +kernel
theorem own_d38_9 : decode jdk_41_method_11_code 9 = .ok (.aload_n 2, 1) := by decide +kernel
theorem own_d38_10 : decode jdk_41_method_11_code 10 = .ok (.iload_n 0, 1) := by decide +kernel
theorem own_d38_11 : decode jdk_41_method_11_code 11 = .ok (.iload_n 1, 1) := by decide +kernel
theorem own_d38_12 : decode jdk_41_method_11_code 12 = .ok (.invokestatic 95, 3) := by decide +kernel
theorem own_d38_15 : decode jdk_41_method_11_code 15 = .ok (.athrow, 1) := by decide +kernel
theorem own_d38_16 : decode jdk_41_method_11_code 16 = .ok (.iload_n 0, 1) := by decide +kernel
theorem own_d38_17 : decode jdk_41_method_11_code 17 = .ok (.ireturn, 1) := by decide +kernel
theorem own_pn_jdk_internal_util_Preconditions : plainName "jdk/internal/util/Preconditions" = true := by first | (simp [plainName, overriddenIn]; done) | decide +kernel
theorem own_pd_pIILjava_util_function_BiFunctioneqI : parseMethodDescriptor "(IILjava/util/function/BiFunction;)I" = some ⟨[.int, .int, (.object "java/util/function/BiFunction")], some .int⟩ := by decide +kernel
theorem own_ef_own_d38v2 (m : MethodId) (x0 : Int32) (x1 : Int32) (x2 : Value) (hx2 : x2.isRef = true) : entryFrame m #[(.int x0), (.int x1), x2] 3 = mkF m 0 #[.val (.int x0), .val (.int x1), .val x2] [] := by
  rcases ref_cases hx2 with rfl | ⟨_, rfl⟩ <;> first | (simp [entryFrame, mkF, argsToLocals, Value.category]; done) | rfl
set_option maxRecDepth 65536 in
set_option maxHeartbeats 40000000 in
theorem own_pCheck (l : Launch) (Z : State) (a0 : Array Value) (hw : ∀ d ∈ tables_1, d.before a0 Z = true) (i n : Nat) (fm : Value) (h0 : Heap) (n0 : Nat) (O : Old Z n0 h0) (hi : i < n) (hn : n < 2147483648) (hfm : fm.isRef = true) :
    Ctr l Z n0 (⟨"jdk/internal/util/Preconditions", "checkIndex", "(IILjava/util/function/BiFunction;)I"⟩ : MethodName) jdk_41_method_11_code 3 (some .int) [] ({ frames := 0, cells := 0, slots := 0, locals := 0 } : Room) #[(.int (Int32.ofNat i)), (.int (Int32.ofNat n)), fm] h0 [] (fun v h => v = some (.int (Int32.ofNat i)) ∧ h0 = h) := by
  refine enter (plainFor_of_name own_pn_jdk_internal_util_Preconditions) (fun m => own_ef_own_d38v2 m (Int32.ofNat i) (Int32.ofNat n) fm hfm) O (fun _ q => nomatch q) ?_
  intro p e s m below meth c T w
  refine i_iloadN w own_d38_0 rfl (pc' := 1) rfl ?_
  refine i_if_lt_N w (nonneg_ofNat (by omega)) own_d38_1 (pc' := 4) rfl ?_
  refine i_iloadN w own_d38_4 rfl (pc' := 5) rfl ?_
  refine i_iloadN w own_d38_5 rfl (pc' := 6) rfl ?_
  refine i_icmp_lt_Y w ((lt_nat (by omega) (by omega)).mpr hi) own_d38_6 (pc' := 16) (by decide) ?_
  refine i_iloadN w own_d38_16 rfl (pc' := 17) rfl ?_
  exact i_retI w own_d38_17 rfl ⟨rfl, rfl⟩ (by decide) (by decide)
theorem own_d37_0 : decode jdk_42_method_155_code 0 = .ok (.iload_n 0, 1) := by decide +kernel
theorem own_d37_1 : decode jdk_42_method_155_code 1 = .ok (.iload_n 1, 1) := by decide +kernel
theorem own_d37_2 : decode jdk_42_method_155_code 2 = .ok (.getstatic 1053, 3) := by decide +kernel
theorem own_d37_5 : decode jdk_42_method_155_code 5 = .ok (.invokestatic 1059, 3) := by decide +kernel
theorem own_d37_8 : decode jdk_42_method_155_code 8 = .ok (.pop, 1) := by decide +kernel
theorem own_d37_9 : decode jdk_42_method_155_code 9 = .ok (.return_, 1) := by decide +kernel
theorem own_pd_pIIqV : parseMethodDescriptor "(II)V" = some ⟨[.int, .int], none⟩ := by decide +kernel
theorem own_ef_own_d37 (m : MethodId) (x0 : Int32) (x1 : Int32) : entryFrame m #[(.int x0), (.int x1)] 2 = mkF m 0 #[.val (.int x0), .val (.int x1)] [] := by
  first | (simp [entryFrame, mkF, argsToLocals, Value.category]; done) | rfl
set_option maxRecDepth 65536 in
set_option maxHeartbeats 40000000 in
theorem own_sCheck (l : Launch) (Z : State) (a0 : Array Value) (hw : ∀ d ∈ tables_1, d.before a0 Z = true) (i n : Nat) (G3 : Value) (hG3 : G3.isRef = true) (SF : Sta Z Z.heap "jdk/internal/util/Preconditions" "SIOOBE_FORMATTER" "Ljava/util/function/BiFunction;" G3) (h0 : Heap) (n0 : Nat) (O : Old Z n0 h0) (hi : i < n) (hn : n < 2147483648) :
    Ctr l Z n0 (⟨"java/lang/String", "checkIndex", "(II)V"⟩ : MethodName) jdk_42_method_155_code 2 none [] ({ frames := 1, cells := 0, slots := 0, locals := 14 } : Room) #[(.int (Int32.ofNat i)), (.int (Int32.ofNat n))] h0 [] (fun v h => v = none ∧ h0 = h) := by
  refine enter (plainFor_of_name own_pn_java_lang_String) (fun m => own_ef_own_d37 m (Int32.ofNat i) (Int32.ofNat n)) O (fun _ q => nomatch q) ?_
  intro p e s m below meth c T w
  refine i_iloadN w own_d37_0 rfl (pc' := 1) rfl ?_
  refine i_iloadN w own_d37_1 rfl (pc' := 2) rfl ?_
  refine i_getS w own_d37_2 (hw _ (List.mem_of_getElem? (i := 111) rfl)) SF (pc' := 5) rfl ?_
  intro T42 w42
  refine c_static w42 (y := (⟨"jdk/internal/util/Preconditions", "checkIndex", "(IILjava/util/function/BiFunction;)I"⟩ : MethodName)) (argsL := [(.int (Int32.ofNat i)), (.int (Int32.ofNat n)), G3]) (st := []) own_d37_5 (hw _ (List.mem_of_getElem? (i := 163) rfl)) (hw _ (List.mem_of_getElem? (i := 164) rfl)) (hw _ (List.mem_of_getElem? (i := 112) rfl)) (hw _ (List.mem_of_getElem? (i := 165) rfl)) (by decide) own_pd_pIILjava_util_function_BiFunctioneqI rfl (own_pCheck l Z a0 hw i n G3 h0 n0 w42.old hi hn hG3) rfl (by decide) (W := 0) (Nat.le_of_eq rfl) (by decide) (by decide) (by decide) (fun _ q => nomatch q) (pc' := 8) rfl ?_
  intro v43 T43 h43 w43 K43 q43
  obtain ⟨rfl, rfl⟩ := q43
  show Goes p e below _ T43 (mkF m 8 #[.val (.int (Int32.ofNat i)), .val (.int (Int32.ofNat n))] [(.int (Int32.ofNat i))])
  refine i_pop w43 own_d37_8 rfl (pc' := 9) rfl ?_
  exact i_ret0 w43 own_d37_9 rfl ⟨rfl, rfl⟩ (by decide) (by decide)
theorem own_d58_0 : decode jdk_43_method_2_code 0 = .ok (.iload_n 1, 1) := by decide +kernel
theorem own_d58_1 : decode jdk_43_method_2_code 1 = .ok (.aload_n 0, 1) := by decide +kernel
theorem own_d58_2 : decode jdk_43_method_2_code 2 = .ok (.arraylength, 1) := by decide +kernel
theorem own_d58_3 : decode jdk_43_method_2_code 3 = .ok (.invokestatic 9, 3) := by decide +kernel
theorem own_d58_6 : decode jdk_43_method_2_code 6 = .ok (.aload_n 0, 1) := by decide +kernel
theorem own_d58_7 : decode jdk_43_method_2_code 7 = .ok (.iload_n 1, 1) := by decide +kernel
theorem own_d58_8 : decode jdk_43_method_2_code 8 = .ok (.baload, 1) := by decide +kernel
theorem own_d58_9 : decode jdk_43_method_2_code 9 = .ok (.sipush 255, 3) := by decide +kernel
theorem own_d58_12 : decode jdk_43_method_2_code 12 = .ok (.iand, 1) := by decide +kernel
theorem own_d58_13 : decode jdk_43_method_2_code 13 = .ok (.i2c, 1) := by decide +kernel
theorem own_d58_14 : decode jdk_43_method_2_code 14 = .ok (.ireturn, 1) := by decide +kernel
theorem own_pn_java_lang_StringLatin1 : plainName "java/lang/StringLatin1" = true := by first | (simp [plainName, overriddenIn]; done) | decide +kernel
theorem own_ef_own_d58 (m : MethodId) (x0 : Addr) (x1 : Int32) : entryFrame m #[(.ref x0), (.int x1)] 2 = mkF m 0 #[.val (.ref x0), .val (.int x1)] [] := by
  first | (simp [entryFrame, mkF, argsToLocals, Value.category]; done) | rfl
set_option maxRecDepth 65536 in
set_option maxHeartbeats 40000000 in
theorem own_lCharAt (l : Launch) (Z : State) (a0 : Array Value) (hw : ∀ d ∈ tables_1, d.before a0 Z = true) (t : Addr) (ca : ClassId) (cs : List Nat) (i k : Nat) (G3 : Value) (hG3 : G3.isRef = true) (SF : Sta Z Z.heap "jdk/internal/util/Preconditions" "SIOOBE_FORMATTER" "Ljava/util/function/BiFunction;" G3) (h0 : Heap) (n0 : Nat) (O : Old Z n0 h0) (At : Ary Z h0 t ca .byte (lat cs)) (hci : cs[i]? = some k) (hk : k < 256) :
    Ctr l Z n0 (⟨"java/lang/StringLatin1", "charAt", "([BI)C"⟩ : MethodName) jdk_43_method_2_code 2 (some .char) [] ({ frames := 2, cells := 0, slots := 0, locals := 27 } : Room) #[(.ref t), (.int (Int32.ofNat i))] h0 [] (fun v h => v = some (.int (Int32.ofNat k)) ∧ h0 = h) := by
  refine enter (plainFor_of_name own_pn_java_lang_StringLatin1) (fun m => own_ef_own_d58 m t (Int32.ofNat i)) O (fun _ q => nomatch q) ?_
  intro p e s m below meth c T w
  refine i_iloadN w own_d58_0 rfl (pc' := 1) rfl ?_
  refine i_aloadN w own_d58_1 rfl rfl (pc' := 2) rfl ?_
  refine i_len w own_d58_2 At (z := Int32.ofNat cs.length) (by rw [lat_len]) (pc' := 3) rfl ?_
  refine c_static w (y := (⟨"java/lang/String", "checkIndex", "(II)V"⟩ : MethodName)) (argsL := [(.int (Int32.ofNat i)), (.int (Int32.ofNat cs.length))]) (st := []) own_d58_3 (hw _ (List.mem_of_getElem? (i := 253) rfl)) (hw _ (List.mem_of_getElem? (i := 161) rfl)) (hw _ (List.mem_of_getElem? (i := 18) rfl)) (hw _ (List.mem_of_getElem? (i := 162) rfl)) (by decide) own_pd_pIIqV rfl (own_sCheck l Z a0 hw i cs.length G3 hG3 SF h0 n0 w.old (List.getElem?_eq_some_iff.mp hci).1 (by have := At.1; rw [lat_len] at this; exact this)) rfl (by decide) (W := 0) (Nat.le_of_eq rfl) (by decide) (by decide) (by decide) (fun _ q => nomatch q) (pc' := 6) rfl ?_
  intro v44 T44 h44 w44 K44 q44
  obtain ⟨rfl, rfl⟩ := q44
  show Goes p e below _ T44 (mkF m 6 #[.val (.ref t), .val (.int (Int32.ofNat i))] [])
  refine i_aloadN w44 own_d58_6 rfl rfl (pc' := 7) rfl ?_
  refine i_iloadN w44 own_d58_7 rfl (pc' := 8) rfl ?_
  refine i_baload w44 own_d58_8 At rfl (lat_at hci) (pc' := 9) rfl ?_
  refine i_sipush w44 own_d58_9 (z := (255 : Int32)) (by decide) (pc' := 12) rfl ?_
  refine i_iand w44 own_d58_12 (pc' := 13) rfl ?_
  refine i_i2c w44 own_d58_13 (pc' := 14) rfl ?_
  exact i_retN w44 own_d58_14 rfl (by simp) ⟨by rw [char_idem, bv_char hk], rfl⟩ (by decide) (by decide)
theorem own_d24_0 : decode jdk_52_method_6_code 0 = .ok (.aload_n 0, 1) := by decide +kernel
theorem own_d24_1 : decode jdk_52_method_6_code 1 = .ok (.arraylength, 1) := by decide +kernel
theorem own_d24_2 : decode jdk_52_method_6_code 2 = .ok (.iconst 1, 1) := by decide +kernel
theorem own_d24_3 : decode jdk_52_method_6_code 3 = .ok (.ishr, 1) := by decide +kernel
theorem own_d24_4 : decode jdk_52_method_6_code 4 = .ok (.ireturn, 1) := by decide +kernel
theorem own_pd_pABqI : parseMethodDescriptor "([B)I" = some ⟨[(.array .byte)], some .int⟩ := by decide +kernel
theorem own_ef_own_d24 (m : MethodId) (x0 : Addr) : entryFrame m #[(.ref x0)] 1 = mkF m 0 #[.val (.ref x0)] [] := by
  first | (simp [entryFrame, mkF, argsToLocals, Value.category]; done) | rfl
set_option maxRecDepth 65536 in
set_option maxHeartbeats 40000000 in
theorem own_ulen (l : Launch) (Z : State) (a0 : Array Value) (hw : ∀ d ∈ tables_1, d.before a0 Z = true) (t : Addr) (ca : ClassId) (vs : List Value) (h0 : Heap) (n0 : Nat) (O : Old Z n0 h0) (At : Ary Z h0 t ca .byte vs) :
    Ctr l Z n0 (⟨"java/lang/StringUTF16", "length", "([B)I"⟩ : MethodName) jdk_52_method_6_code 1 (some .int) [] ({ frames := 0, cells := 0, slots := 0, locals := 0 } : Room) #[(.ref t)] h0 [] (fun v h => v = some (.int (Int32.ofNat (vs.length / 2))) ∧ h0 = h) := by
  refine enter (plainFor_of_name own_pn_java_lang_StringUTF16) (fun m => own_ef_own_d24 m t) O (fun _ q => nomatch q) ?_
  intro p e s m below meth c T w
  refine i_aloadN w own_d24_0 rfl rfl (pc' := 1) rfl ?_
  refine i_len w own_d24_1 At rfl (pc' := 2) rfl ?_
  refine i_iconst w own_d24_2 (z := (1 : Int32)) (by decide) (pc' := 3) rfl ?_
  refine i_ishr w own_d24_3 (pc' := 4) rfl ?_
  exact i_retI w own_d24_4 rfl ⟨by rw [shr1 At.1], rfl⟩ (by decide) (by decide)
theorem own_d36_0 : decode jdk_52_method_91_code 0 = .ok (.iload_n 0, 1) := by decide +kernel
theorem own_d36_1 : decode jdk_52_method_91_code 1 = .ok (.aload_n 1, 1) := by decide +kernel
theorem own_d36_2 : decode jdk_52_method_91_code 2 = .ok (.invokestatic 48, 3) := by decide +kernel
theorem own_d36_5 : decode jdk_52_method_91_code 5 = .ok (.invokestatic 414, 3) := by decide +kernel
theorem own_d36_8 : decode jdk_52_method_91_code 8 = .ok (.return_, 1) := by decide +kernel
theorem own_pd_pIABqV : parseMethodDescriptor "(I[B)V" = some ⟨[.int, (.array .byte)], none⟩ := by decide +kernel
theorem own_ef_own_d36 (m : MethodId) (x0 : Int32) (x1 : Addr) : entryFrame m #[(.int x0), (.ref x1)] 2 = mkF m 0 #[.val (.int x0), .val (.ref x1)] [] := by
  first | (simp [entryFrame, mkF, argsToLocals, Value.category]; done) | rfl
set_option maxRecDepth 65536 in
set_option maxHeartbeats 40000000 in
theorem own_uCheck (l : Launch) (Z : State) (a0 : Array Value) (hw : ∀ d ∈ tables_1, d.before a0 Z = true) (t : Addr) (ca : ClassId) (cs : List Nat) (i : Nat) (G3 : Value) (hG3 : G3.isRef = true) (SF : Sta Z Z.heap "jdk/internal/util/Preconditions" "SIOOBE_FORMATTER" "Ljava/util/function/BiFunction;" G3) (h0 : Heap) (n0 : Nat) (O : Old Z n0 h0) (At : Ary Z h0 t ca .byte (wid cs)) (hi : i < cs.length) :
    Ctr l Z n0 (⟨"java/lang/StringUTF16", "checkIndex", "(I[B)V"⟩ : MethodName) jdk_52_method_91_code 2 none [] ({ frames := 2, cells := 0, slots := 0, locals := 27 } : Room) #[(.int (Int32.ofNat i)), (.ref t)] h0 [] (fun v h => v = none ∧ h0 = h) := by
  refine enter (plainFor_of_name own_pn_java_lang_StringUTF16) (fun m => own_ef_own_d36 m (Int32.ofNat i) t) O (fun _ q => nomatch q) ?_
  intro p e s m below meth c T w
  refine i_iloadN w own_d36_0 rfl (pc' := 1) rfl ?_
  refine i_aloadN w own_d36_1 rfl rfl (pc' := 2) rfl ?_
  refine c_static w (y := (⟨"java/lang/StringUTF16", "length", "([B)I"⟩ : MethodName)) (argsL := [(.ref t)]) (st := [(.int (Int32.ofNat i))]) own_d36_2 (hw _ (List.mem_of_getElem? (i := 105) rfl)) (hw _ (List.mem_of_getElem? (i := 106) rfl)) (hw _ (List.mem_of_getElem? (i := 32) rfl)) (hw _ (List.mem_of_getElem? (i := 107) rfl)) (by decide) own_pd_pABqI rfl (own_ulen l Z a0 hw t ca (wid cs) h0 n0 w.old At) rfl (by decide) (W := 1) (Nat.le_of_eq rfl) (by decide) (by decide) (by decide) (fun _ q => nomatch q) (pc' := 5) rfl ?_
  intro v45 T45 h45 w45 K45 q45
  obtain ⟨rfl, rfl⟩ := q45
  show Goes p e below _ T45 (mkF m 5 #[.val (.int (Int32.ofNat i)), .val (.ref t)] [(.int (Int32.ofNat ((wid cs).length / 2))), (.int (Int32.ofNat i))])
  rw [show (wid cs).length / 2 = cs.length by rw [wid_len]; omega]
  show Goes p e below _ T45 (mkF m 5 #[.val (.int (Int32.ofNat i)), .val (.ref t)] [(.int (Int32.ofNat cs.length)), (.int (Int32.ofNat i))])
  refine c_static w45 (y := (⟨"java/lang/String", "checkIndex", "(II)V"⟩ : MethodName)) (argsL := [(.int (Int32.ofNat i)), (.int (Int32.ofNat cs.length))]) (st := []) own_d36_5 (hw _ (List.mem_of_getElem? (i := 160) rfl)) (hw _ (List.mem_of_getElem? (i := 161) rfl)) (hw _ (List.mem_of_getElem? (i := 18) rfl)) (hw _ (List.mem_of_getElem? (i := 162) rfl)) (by decide) own_pd_pIIqV rfl (own_sCheck l Z a0 hw i cs.length G3 hG3 SF h0 n0 w45.old hi (by have := At.1; rw [wid_len] at this; omega)) rfl (by decide) (W := 0) (Nat.le_of_eq rfl) (by decide) (by decide) (by decide) (fun _ q => nomatch q) (pc' := 8) rfl ?_
  intro v46 T46 h46 w46 K46 q46
  obtain ⟨rfl, rfl⟩ := q46
  show Goes p e below _ T46 (mkF m 8 #[.val (.int (Int32.ofNat i)), .val (.ref t)] [])
  exact i_ret0 w46 own_d36_8 rfl ⟨rfl, rfl⟩ (by decide) (by decide)
theorem own_d56_0 : decode jdk_52_method_83_code 0 = .ok (.iload_n 1, 1) := by decide +kernel
theorem own_d56_1 : decode jdk_52_method_83_code 1 = .ok (.aload_n 0, 1) := by decide +kernel
theorem own_d56_2 : decode jdk_52_method_83_code 2 = .ok (.invokestatic 67, 3) := by decide +kernel
theorem own_d56_5 : decode jdk_52_method_83_code 5 = .ok (.aload_n 0, 1) := by decide +kernel
theorem own_d56_6 : decode jdk_52_method_83_code 6 = .ok (.iload_n 1, 1) := by decide +kernel
theorem own_d56_7 : decode jdk_52_method_83_code 7 = .ok (.invokestatic 71, 3) := by decide +kernel
theorem own_d56_10 : decode jdk_52_method_83_code 10 = .ok (.ireturn, 1) := by decide +kernel
theorem own_ef_own_d56 (m : MethodId) (x0 : Addr) (x1 : Int32) : entryFrame m #[(.ref x0), (.int x1)] 2 = mkF m 0 #[.val (.ref x0), .val (.int x1)] [] := by
  first | (simp [entryFrame, mkF, argsToLocals, Value.category]; done) | rfl
set_option maxRecDepth 65536 in
set_option maxHeartbeats 40000000 in
theorem own_uCharAt (l : Launch) (Z : State) (a0 : Array Value) (hw : ∀ d ∈ tables_1, d.before a0 Z = true) (t : Addr) (ca : ClassId) (cs : List Nat) (i k : Nat) (G3 : Value) (hG3 : G3.isRef = true) (SF : Sta Z Z.heap "jdk/internal/util/Preconditions" "SIOOBE_FORMATTER" "Ljava/util/function/BiFunction;" G3) (SA : Sta Z Z.heap "java/lang/StringUTF16" "$assertionsDisabled" "Z" (.int 1)) (SHi : Sta Z Z.heap "java/lang/StringUTF16" "HI_BYTE_SHIFT" "I" (.int 0)) (SLo : Sta Z Z.heap "java/lang/StringUTF16" "LO_BYTE_SHIFT" "I" (.int 8)) (h0 : Heap) (n0 : Nat) (O : Old Z n0 h0) (At : Ary Z h0 t ca .byte (wid cs)) (hci : cs[i]? = some k) (hk : k < 65536) :
    Ctr l Z n0 (⟨"java/lang/StringUTF16", "charAt", "([BI)C"⟩ : MethodName) jdk_52_method_83_code 2 (some .char) [] ({ frames := 3, cells := 0, slots := 0, locals := 40 } : Room) #[(.ref t), (.int (Int32.ofNat i))] h0 [] (fun v h => v = some (.int (Int32.ofNat k)) ∧ h0 = h) := by
  refine enter (plainFor_of_name own_pn_java_lang_StringUTF16) (fun m => own_ef_own_d56 m t (Int32.ofNat i)) O (fun _ q => nomatch q) ?_
  intro p e s m below meth c T w
  refine i_iloadN w own_d56_0 rfl (pc' := 1) rfl ?_
  refine i_aloadN w own_d56_1 rfl rfl (pc' := 2) rfl ?_
  refine c_static w (y := (⟨"java/lang/StringUTF16", "checkIndex", "(I[B)V"⟩ : MethodName)) (argsL := [(.int (Int32.ofNat i)), (.ref t)]) (st := []) own_d56_2 (hw _ (List.mem_of_getElem? (i := 157) rfl)) (hw _ (List.mem_of_getElem? (i := 158) rfl)) (hw _ (List.mem_of_getElem? (i := 32) rfl)) (hw _ (List.mem_of_getElem? (i := 159) rfl)) (by decide) own_pd_pIABqV rfl (own_uCheck l Z a0 hw t ca cs i G3 hG3 SF h0 n0 w.old At (List.getElem?_eq_some_iff.mp hci).1) rfl (by decide) (W := 0) (Nat.le_of_eq rfl) (by decide) (by decide) (by decide) (fun _ q => nomatch q) (pc' := 5) rfl ?_
  intro v47 T47 h47 w47 K47 q47
  obtain ⟨rfl, rfl⟩ := q47
  show Goes p e below _ T47 (mkF m 5 #[.val (.ref t), .val (.int (Int32.ofNat i))] [])
  refine i_aloadN w47 own_d56_5 rfl rfl (pc' := 6) rfl ?_
  refine i_iloadN w47 own_d56_6 rfl (pc' := 7) rfl ?_
  refine c_static w47 (y := (⟨"java/lang/StringUTF16", "getChar", "([BI)C"⟩ : MethodName)) (argsL := [(.ref t), (.int (Int32.ofNat i))]) (st := []) own_d56_7 (hw _ (List.mem_of_getElem? (i := 54) rfl)) (hw _ (List.mem_of_getElem? (i := 55) rfl)) (hw _ (List.mem_of_getElem? (i := 32) rfl)) (hw _ (List.mem_of_getElem? (i := 56) rfl)) (by decide) own_pd_pABIqC rfl (own_getChar l Z a0 hw t ca cs i k SA SHi SLo h0 n0 w47.old At hci hk) rfl (by decide) (W := 0) (Nat.le_of_eq rfl) (by decide) (by decide) (by decide) (fun _ q => nomatch q) (pc' := 10) rfl ?_
  intro v48 T48 h48 w48 K48 q48
  obtain ⟨rfl, rfl⟩ := q48
  show Goes p e below _ T48 (mkF m 10 #[.val (.ref t), .val (.int (Int32.ofNat i))] [(.int (Int32.ofNat k))])
  exact i_retN w48 own_d56_10 rfl (by simp) ⟨by rw [char_of_nat hk], rfl⟩ (by decide) (by decide)
theorem own_d55_0 : decode jdk_42_method_56_code 0 = .ok (.aload_n 0, 1) := by decide +kernel
theorem own_d55_1 : decode jdk_42_method_56_code 1 = .ok (.invokevirtual 492, 3) := by decide +kernel
theorem own_d55_4 : decode jdk_42_method_56_code 4 = .ok (.ifCond .eq 12, 3) := by decide +kernel
theorem own_d55_7 : decode jdk_42_method_56_code 7 = .ok (.aload_n 0, 1) := by decide +kernel
theorem own_d55_8 : decode jdk_42_method_56_code 8 = .ok (.getfield 9, 3) := by decide +kernel
theorem own_d55_11 : decode jdk_42_method_56_code 11 = .ok (.iload_n 1, 1) := by decide +kernel
theorem own_d55_12 : decode jdk_42_method_56_code 12 = .ok (.invokestatic 495, 3) := by decide +kernel
theorem own_d55_15 : decode jdk_42_method_56_code 15 = .ok (.ireturn, 1) := by decide +kernel
theorem own_d55_16 : decode jdk_42_method_56_code 16 = .ok (.aload_n 0, 1) := by decide +kernel
theorem own_d55_17 : decode jdk_42_method_56_code 17 = .ok (.getfield 9, 3) := by decide +kernel
theorem own_d55_20 : decode jdk_42_method_56_code 20 = .ok (.iload_n 1, 1) := by decide +kernel
theorem own_d55_21 : decode jdk_42_method_56_code 21 = .ok (.invokestatic 498, 3) := by decide +kernel
theorem own_d55_24 : decode jdk_42_method_56_code 24 = .ok (.ireturn, 1) := by decide +kernel
theorem own_pd_pIqC : parseMethodDescriptor "(I)C" = some ⟨[.int], some .char⟩ := by decide +kernel
theorem own_ef_own_d55 (m : MethodId) (x0 : Addr) (x1 : Int32) : entryFrame m #[(.ref x0), (.int x1)] 2 = mkF m 0 #[.val (.ref x0), .val (.int x1)] [] := by
  first | (simp [entryFrame, mkF, argsToLocals, Value.category]; done) | rfl
set_option maxRecDepth 65536 in
set_option maxHeartbeats 40000000 in
theorem own_charAt (l : Launch) (Z : State) (a0 : Array Value) (hw : ∀ d ∈ tables_1, d.before a0 Z = true) (a t : Addr) (ca : ClassId) (cs : List Nat) (i k : Nat) (G1 : Int32) (hG : ¬ G1 = 0) (SG : Sta Z Z.heap "java/lang/String" "COMPACT_STRINGS" "Z" (.int G1)) (G3 : Value) (hG3 : G3.isRef = true) (SF : Sta Z Z.heap "jdk/internal/util/Preconditions" "SIOOBE_FORMATTER" "Ljava/util/function/BiFunction;" G3) (SA : Sta Z Z.heap "java/lang/StringUTF16" "$assertionsDisabled" "Z" (.int 1)) (SHi : Sta Z Z.heap "java/lang/StringUTF16" "HI_BYTE_SHIFT" "I" (.int 0)) (SLo : Sta Z Z.heap "java/lang/StringUTF16" "LO_BYTE_SHIFT" "I" (.int 8)) (h0 : Heap) (n0 : Nat) (O : Old Z n0 h0) (S : Str Z h0 a t ca cs) (hci : cs[i]? = some k) :
    Ctr l Z n0 (⟨"java/lang/String", "charAt", "(I)C"⟩ : MethodName) jdk_42_method_56_code 2 (some .char) [] ({ frames := 4, cells := 0, slots := 0, locals := 53 } : Room) #[(.ref a), (.int (Int32.ofNat i))] h0 [] (fun v h => v = some (.int (Int32.ofNat k)) ∧ h0 = h) := by
  refine enter (plainFor_of_name own_pn_java_lang_String) (fun m => own_ef_own_d55 m a (Int32.ofNat i)) O (fun _ q => nomatch q) ?_
  intro p e s m below meth c T w
  refine i_aloadN w own_d55_0 rfl rfl (pc' := 1) rfl ?_
  have hk : k < 65536 := S.c16 k (List.mem_of_getElem? hci)
  obtain ⟨vs, cd, Fc, At, hcd, -, -, hor⟩ := S.raw
  refine c_virtual w (y := (⟨"java/lang/String", "isLatin1", "()Z"⟩ : MethodName)) (C := "java/lang/String") (a := a) (argsL := []) (st := []) own_d55_1 (hw _ (List.mem_of_getElem? (i := 91) rfl)) (hw _ (List.mem_of_getElem? (i := 92) rfl)) (hw _ (List.mem_of_getElem? (i := 94) rfl)) (hw _ (List.mem_of_getElem? (i := 93) rfl)) (hw _ (List.mem_of_getElem? (i := 95) rfl)) (hw _ (List.mem_of_getElem? (i := 18) rfl)) (by decide) own_pd_pqZ rfl S.exa (own_isLatin1 l Z a0 hw a cd G1 hG SG h0 n0 w.old Fc) rfl (by decide) (W := 0) (Nat.le_of_eq rfl) (by decide) (by decide) (by decide) (fun _ q => nomatch q) (pc' := 4) rfl ?_
  intro v49 T49 h49 w49 K49 q49
  obtain ⟨rfl, rfl⟩ := q49
  show Goes p e below _ T49 (mkF m 4 #[.val (.ref a), .val (.int (Int32.ofNat i))] [(.int (if cd = 0 then 1 else 0))])
  rcases hor with ⟨rfl, rfl, hL⟩ | ⟨rfl, rfl⟩
  ·
    show Goes p e below _ T49 (mkF m 4 #[.val (.ref a), .val (.int (Int32.ofNat i))] [(.int (1 : Int32))])
    refine i_if_eq_N w49 (by decide) own_d55_4 (pc' := 7) rfl ?_
    refine i_aloadN w49 own_d55_7 rfl rfl (pc' := 8) rfl ?_
    refine i_getF w49 own_d55_8 (hw _ (List.mem_of_getElem? (i := 62) rfl)) S.val (pc' := 11) rfl ?_
    intro T50 w50
    refine i_iloadN w50 own_d55_11 rfl (pc' := 12) rfl ?_
    refine c_static w50 (y := (⟨"java/lang/StringLatin1", "charAt", "([BI)C"⟩ : MethodName)) (argsL := [(.ref t), (.int (Int32.ofNat i))]) (st := []) own_d55_12 (hw _ (List.mem_of_getElem? (i := 250) rfl)) (hw _ (List.mem_of_getElem? (i := 251) rfl)) (hw _ (List.mem_of_getElem? (i := 140) rfl)) (hw _ (List.mem_of_getElem? (i := 252) rfl)) (by decide) own_pd_pABIqC rfl (own_lCharAt l Z a0 hw t ca cs i k G3 hG3 SF h0 n0 w50.old At hci (hL k (List.mem_of_getElem? hci))) rfl (by decide) (W := 0) (Nat.le_of_eq rfl) (by decide) (by decide) (by decide) (fun _ q => nomatch q) (pc' := 15) rfl ?_
    intro v51 T51 h51 w51 K51 q51
    obtain ⟨rfl, rfl⟩ := q51
    show Goes p e below _ T51 (mkF m 15 #[.val (.ref a), .val (.int (Int32.ofNat i))] [(.int (Int32.ofNat k))])
    exact i_retN w51 own_d55_15 rfl (by simp) ⟨by rw [char_of_nat hk], rfl⟩ (by decide) (by decide)
  ·
    show Goes p e below _ T49 (mkF m 4 #[.val (.ref a), .val (.int (Int32.ofNat i))] [(.int (0 : Int32))])
    refine i_if_eq_Y w49 (by decide) own_d55_4 (pc' := 16) (by decide) ?_
    refine i_aloadN w49 own_d55_16 rfl rfl (pc' := 17) rfl ?_
    refine i_getF w49 own_d55_17 (hw _ (List.mem_of_getElem? (i := 62) rfl)) S.val (pc' := 20) rfl ?_
    intro T52 w52
    refine i_iloadN w52 own_d55_20 rfl (pc' := 21) rfl ?_
    refine c_static w52 (y := (⟨"java/lang/StringUTF16", "charAt", "([BI)C"⟩ : MethodName)) (argsL := [(.ref t), (.int (Int32.ofNat i))]) (st := []) own_d55_21 (hw _ (List.mem_of_getElem? (i := 244) rfl)) (hw _ (List.mem_of_getElem? (i := 245) rfl)) (hw _ (List.mem_of_getElem? (i := 32) rfl)) (hw _ (List.mem_of_getElem? (i := 246) rfl)) (by decide) own_pd_pABIqC rfl (own_uCharAt l Z a0 hw t ca cs i k G3 hG3 SF SA SHi SLo h0 n0 w52.old At hci hk) rfl (by decide) (W := 0) (Nat.le_of_eq rfl) (by decide) (by decide) (by decide) (fun _ q => nomatch q) (pc' := 24) rfl ?_
    intro v53 T53 h53 w53 K53 q53
    obtain ⟨rfl, rfl⟩ := q53
    show Goes p e below _ T53 (mkF m 24 #[.val (.ref a), .val (.int (Int32.ofNat i))] [(.int (Int32.ofNat k))])
    exact i_retN w53 own_d55_24 rfl (by simp) ⟨by rw [char_of_nat hk], rfl⟩ (by decide) (by decide)
theorem own_d31_0 : decode jdk_43_method_3_code 0 = .ok (.iload_n 0, 1) := by decide +kernel
theorem own_d31_1 : decode jdk_43_method_3_code 1 = .ok (.sipush 255, 3) := by decide +kernel
theorem own_d31_4 : decode jdk_43_method_3_code 4 = .ok (.if_icmp .gt 7, 3) := by decide +kernel
theorem own_d31_7 : decode jdk_43_method_3_code 7 = .ok (.iconst 1, 1) := by decide +kernel
theorem own_d31_8 : decode jdk_43_method_3_code 8 = .ok (.goto 4, 3) := by decide +kernel
theorem own_d31_11 : decode jdk_43_method_3_code 11 = .ok (.iconst 0, 1) := by decide +kernel
theorem own_d31_12 : decode jdk_43_method_3_code 12 = .ok (.ireturn, 1) := by decide +kernel
theorem own_pd_pCqZ : parseMethodDescriptor "(C)Z" = some ⟨[.char], some .boolean⟩ := by decide +kernel
theorem own_ef_own_d31 (m : MethodId) (x0 : Int32) : entryFrame m #[(.int x0)] 1 = mkF m 0 #[.val (.int x0)] [] := by
  first | (simp [entryFrame, mkF, argsToLocals, Value.category]; done) | rfl
set_option maxRecDepth 65536 in
set_option maxHeartbeats 40000000 in
theorem own_canEncC (l : Launch) (Z : State) (a0 : Array Value) (hw : ∀ d ∈ tables_1, d.before a0 Z = true) (x : Int32) (h0 : Heap) (n0 : Nat) (O : Old Z n0 h0)  :
    Ctr l Z n0 (⟨"java/lang/StringLatin1", "canEncode", "(C)Z"⟩ : MethodName) jdk_43_method_3_code 1 (some .boolean) [] ({ frames := 0, cells := 0, slots := 0, locals := 0 } : Room) #[(.int x)] h0 [] (fun v h => v = some (.int (if (255 : Int32) < x then 0 else 1)) ∧ h0 = h) := by
  refine enter (plainFor_of_name own_pn_java_lang_StringLatin1) (fun m => own_ef_own_d31 m x) O (fun _ q => nomatch q) ?_
  intro p e s m below meth c T w
  refine i_iloadN w own_d31_0 rfl (pc' := 1) rfl ?_
  refine i_sipush w own_d31_1 (z := (255 : Int32)) (by decide) (pc' := 4) rfl ?_
  refine i_icmp_gt w own_d31_4 (pcY := 11) (by decide) (pc' := 7) rfl (fun hc4 => ?_) (fun hc4 => ?_)
  ·
    refine i_iconst w own_d31_11 (z := (0 : Int32)) (by decide) (pc' := 12) rfl ?_
    exact i_retN w own_d31_12 rfl (by simp) ⟨by rw [if_pos hc4]; rfl, rfl⟩ (by decide) (by decide)
  ·
    refine i_iconst w own_d31_7 (z := (1 : Int32)) (by decide) (pc' := 8) rfl ?_
    refine i_goto w own_d31_8 (pc' := 12) (by decide) ?_
    exact i_retN w own_d31_12 rfl (by simp) ⟨by rw [if_neg hc4]; rfl, rfl⟩ (by decide) (by decide)
theorem own_d47_0 : decode jdk_65_method_131_code 0 = .ok (.iload_n 1, 1) := by decide +kernel
theorem own_d47_1 : decode jdk_65_method_131_code 1 = .ok (.iload_n 0, 1) := by decide +kernel
theorem own_d47_2 : decode jdk_65_method_131_code 2 = .ok (.if_icmp .ge 35, 3) := by decide +kernel
theorem own_d47_5 : decode jdk_65_method_131_code 5 = .ok (.new 43, 3) := by decide +kernel
theorem own_d47_8 : decode jdk_65_method_131_code 8 = .ok (.dup, 1) := by decide +kernel
theorem own_d47_9 : decode jdk_65_method_131_code 9 = .ok (.new 45, 3) := by decide +kernel
theorem own_d47_12 : decode jdk_65_method_131_code 12 = .ok (.dup, 1) := by decide +kernel
theorem own_d47_13 : decode jdk_65_method_131_code 13 = .ok (.invokespecial 47, 3) := by decide +kernel
theorem own_d47_16 : decode jdk_65_method_131_code 16 = .ok (.iload_n 0, 1) := by decide +kernel
theorem own_d47_17 : decode jdk_65_method_131_code 17 = .ok (.invokevirtual 54, 3) := by decide +kernel
theorem own_d47_20 : decode jdk_65_method_131_code 20 = .ok (.ldc_w 337, 3) := by decide +kernel
theorem own_d47_23 : decode jdk_65_method_131_code 23 = .ok (.invokevirtual 50, 3) := by decide +kernel
theorem own_d47_26 : decode jdk_65_method_131_code 26 = .ok (.iload_n 1, 1) := by decide +kernel
theorem own_d47_27 : decode jdk_65_method_131_code 27 = .ok (.invokevirtual 54, 3) := by decide +kernel
theorem own_d47_30 : decode jdk_65_method_131_code 30 = .ok (.invokevirtual 61, 3) := by decide +kernel
theorem own_d47_33 : decode jdk_65_method_131_code 33 = .ok (.invokespecial 65, 3) := by decide +kernel
theorem own_d47_36 : decode jdk_65_method_131_code 36 = .ok (.athrow, 1) := by decide +kernel
theorem own_d47_37 : decode jdk_65_method_131_code 37 = .ok (.return_, 1) := by decide +kernel
theorem own_pn_java_util_Arrays : plainName "java/util/Arrays" = true := by first | (simp [plainName, overriddenIn]; done) | decide +kernel
theorem own_ef_own_d47 (m : MethodId) (x0 : Int32) (x1 : Int32) : entryFrame m #[(.int x0), (.int x1)] 2 = mkF m 0 #[.val (.int x0), .val (.int x1)] [] := by
  first | (simp [entryFrame, mkF, argsToLocals, Value.category]; done) | rfl
set_option maxRecDepth 65536 in
set_option maxHeartbeats 40000000 in
theorem own_chkLen (l : Launch) (Z : State) (a0 : Array Value) (hw : ∀ d ∈ tables_1, d.before a0 Z = true) (i j : Nat) (h0 : Heap) (n0 : Nat) (O : Old Z n0 h0) (hi : i ≤ j) (hn : j < 2147483648) :
    Ctr l Z n0 (⟨"java/util/Arrays", "checkLength", "(II)V"⟩ : MethodName) jdk_65_method_131_code 2 none [] ({ frames := 0, cells := 0, slots := 0, locals := 0 } : Room) #[(.int (Int32.ofNat i)), (.int (Int32.ofNat j))] h0 [] (fun v h => v = none ∧ h0 = h) := by
  refine enter (plainFor_of_name own_pn_java_util_Arrays) (fun m => own_ef_own_d47 m (Int32.ofNat i) (Int32.ofNat j)) O (fun _ q => nomatch q) ?_
  intro p e s m below meth c T w
  refine i_iloadN w own_d47_0 rfl (pc' := 1) rfl ?_
  refine i_iloadN w own_d47_1 rfl (pc' := 2) rfl ?_
  refine i_icmp_ge_Y w (by rw [lt_nat (by omega) (by omega)]; omega) own_d47_2 (pc' := 37) (by decide) ?_
  exact i_ret0 w own_d47_37 rfl ⟨rfl, rfl⟩ (by decide) (by decide)
theorem own_d48_0 : decode jdk_29_method_69_code 0 = .ok (.iload_n 0, 1) := by decide +kernel
theorem own_d48_1 : decode jdk_29_method_69_code 1 = .ok (.iload_n 1, 1) := by decide +kernel
theorem own_d48_2 : decode jdk_29_method_69_code 2 = .ok (.if_icmp .gt 7, 3) := by decide +kernel
theorem own_d48_5 : decode jdk_29_method_69_code 5 = .ok (.iload_n 0, 1) := by decide +kernel
theorem own_d48_6 : decode jdk_29_method_69_code 6 = .ok (.goto 4, 3) := by decide +kernel
theorem own_d48_9 : decode jdk_29_method_69_code 9 = .ok (.iload_n 1, 1) := by decide +kernel
theorem own_d48_10 : decode jdk_29_method_69_code 10 = .ok (.ireturn, 1) := by decide +kernel
theorem own_pf_own_d48 : plainFor (⟨"java/lang/Math", "min", "(II)I"⟩ : MethodName) = true := by decide +kernel
theorem own_pd_pIIqI : parseMethodDescriptor "(II)I" = some ⟨[.int, .int], some .int⟩ := by decide +kernel
theorem own_ef_own_d48 (m : MethodId) (x0 : Int32) (x1 : Int32) : entryFrame m #[(.int x0), (.int x1)] 2 = mkF m 0 #[.val (.int x0), .val (.int x1)] [] := by
  first | (simp [entryFrame, mkF, argsToLocals, Value.category]; done) | rfl
set_option maxRecDepth 65536 in
set_option maxHeartbeats 40000000 in
theorem own_min (l : Launch) (Z : State) (a0 : Array Value) (hw : ∀ d ∈ tables_1, d.before a0 Z = true) (x y : Int32) (h0 : Heap) (n0 : Nat) (O : Old Z n0 h0)  :
    Ctr l Z n0 (⟨"java/lang/Math", "min", "(II)I"⟩ : MethodName) jdk_29_method_69_code 2 (some .int) [] ({ frames := 0, cells := 0, slots := 0, locals := 0 } : Room) #[(.int x), (.int y)] h0 [] (fun v h => v = some (.int (if y < x then y else x)) ∧ h0 = h) := by
  refine enter own_pf_own_d48 (fun m => own_ef_own_d48 m x y) O (fun _ q => nomatch q) ?_
  intro p e s m below meth c T w
  refine i_iloadN w own_d48_0 rfl (pc' := 1) rfl ?_
  refine i_iloadN w own_d48_1 rfl (pc' := 2) rfl ?_
  refine i_icmp_gt w own_d48_2 (pcY := 9) (by decide) (pc' := 5) rfl (fun hc2 => ?_) (fun hc2 => ?_)
  ·
    refine i_iloadN w own_d48_9 rfl (pc' := 10) rfl ?_
    exact i_retI w own_d48_10 rfl ⟨by rw [if_pos hc2], rfl⟩ (by decide) (by decide)
  ·
    refine i_iloadN w own_d48_5 rfl (pc' := 6) rfl ?_
    refine i_goto w own_d48_6 (pc' := 10) (by decide) ?_
    exact i_retI w own_d48_10 rfl ⟨by rw [if_neg hc2], rfl⟩ (by decide) (by decide)
theorem own_d46_0 : decode jdk_65_method_133_code 0 = .ok (.iload_n 1, 1) := by decide +kernel
theorem own_d46_1 : decode jdk_65_method_133_code 1 = .ok (.iload_n 2, 1) := by decide +kernel
theorem own_d46_2 : decode jdk_65_method_133_code 2 = .ok (.invokestatic 343, 3) := by decide +kernel
theorem own_d46_5 : decode jdk_65_method_133_code 5 = .ok (.iload_n 2, 1) := by decide +kernel
theorem own_d46_6 : decode jdk_65_method_133_code 6 = .ok (.iload_n 1, 1) := by decide +kernel
theorem own_d46_7 : decode jdk_65_method_133_code 7 = .ok (.isub, 1) := by decide +kernel
theorem own_d46_8 : decode jdk_65_method_133_code 8 = .ok (.istore_n 3, 1) := by decide +kernel
theorem own_d46_9 : decode jdk_65_method_133_code 9 = .ok (.iload_n 3, 1) := by decide +kernel
theorem own_d46_10 : decode jdk_65_method_133_code 10 = .ok (.newarray .byte, 2) := by decide +kernel
theorem own_d46_12 : decode jdk_65_method_133_code 12 = .ok (.astore 4, 2) := by decide +kernel
theorem own_d46_14 : decode jdk_65_method_133_code 14 = .ok (.aload_n 0, 1) := by decide +kernel
theorem own_d46_15 : decode jdk_65_method_133_code 15 = .ok (.iload_n 1, 1) := by decide +kernel
theorem own_d46_16 : decode jdk_65_method_133_code 16 = .ok (.aload 4, 2) := by decide +kernel
theorem own_d46_18 : decode jdk_65_method_133_code 18 = .ok (.iconst 0, 1) := by decide +kernel
theorem own_d46_19 : decode jdk_65_method_133_code 19 = .ok (.aload_n 0, 1) := by decide +kernel
theorem own_d46_20 : decode jdk_65_method_133_code 20 = .ok (.arraylength, 1) := by decide +kernel
theorem own_d46_21 : decode jdk_65_method_133_code 21 = .ok (.iload_n 1, 1) := by decide +kernel
theorem own_d46_22 : decode jdk_65_method_133_code 22 = .ok (.isub, 1) := by decide +kernel
theorem own_d46_23 : decode jdk_65_method_133_code 23 = .ok (.iload_n 3, 1) := by decide +kernel
theorem own_d46_24 : decode jdk_65_method_133_code 24 = .ok (.invokestatic 304, 3) := by decide +kernel
theorem own_d46_27 : decode jdk_65_method_133_code 27 = .ok (.invokestatic 150, 3) := by decide +kernel
theorem own_d46_30 : decode jdk_65_method_133_code 30 = .ok (.aload 4, 2) := by decide +kernel
theorem own_d46_32 : decode jdk_65_method_133_code 32 = .ok (.areturn, 1) := by decide +kernel
theorem own_pd_pABIIqAB : parseMethodDescriptor "([BII)[B" = some ⟨[(.array .byte), .int, .int], some (.array .byte)⟩ := by decide +kernel
theorem own_ef_own_d46 (m : MethodId) (x0 : Addr) (x1 : Int32) (x2 : Int32) : entryFrame m #[(.ref x0), (.int x1), (.int x2)] 5 = mkF m 0 #[.val (.ref x0), .val (.int x1), .val (.int x2), .unset, .unset] [] := by
  first | (simp [entryFrame, mkF, argsToLocals, Value.category]; done) | rfl
set_option maxRecDepth 65536 in
set_option maxHeartbeats 40000000 in
theorem own_corB (l : Launch) (Z : State) (a0 : Array Value) (hw : ∀ d ∈ tables_1, d.before a0 Z = true) (t : Addr) (ca : ClassId) (vs : List Value) (i j : Nat) (h0 : Heap) (n0 : Nat) (O : Old Z n0 h0) (At : Ary Z h0 t ca .byte vs) (hij : i ≤ j) (hj : j ≤ vs.length) (hc : j - i ≤ 32) :
    Ctr l Z n0 (⟨"java/util/Arrays", "copyOfRangeByte", "([BII)[B"⟩ : MethodName) jdk_65_method_133_code 5 (some (.array .byte)) [] ({ frames := 1, cells := 1, slots := 32, locals := 18 } : Room) #[(.ref t), (.int (Int32.ofNat i)), (.int (Int32.ofNat j))] h0 [] (fun v h => ∃ d cd, v = some (.ref d) ∧ h0.size ≤ d ∧ Ary Z h d cd .byte ((vs.drop i).take (j - i))) := by
  refine enter (plainFor_of_name own_pn_java_util_Arrays) (fun m => own_ef_own_d46 m t (Int32.ofNat i) (Int32.ofNat j)) O (fun _ q => nomatch q) ?_
  intro p e s m below meth c T w
  refine i_iloadN w own_d46_0 rfl (pc' := 1) rfl ?_
  refine i_iloadN w own_d46_1 rfl (pc' := 2) rfl ?_
  refine c_static w (y := (⟨"java/util/Arrays", "checkLength", "(II)V"⟩ : MethodName)) (argsL := [(.int (Int32.ofNat i)), (.int (Int32.ofNat j))]) (st := []) own_d46_2 (hw _ (List.mem_of_getElem? (i := 201) rfl)) (hw _ (List.mem_of_getElem? (i := 202) rfl)) (hw _ (List.mem_of_getElem? (i := 196) rfl)) (hw _ (List.mem_of_getElem? (i := 203) rfl)) (by decide) own_pd_pIIqV rfl (own_chkLen l Z a0 hw i j h0 n0 w.old hij (by have := At.1; omega)) rfl (by decide) (W := 0) (Nat.le_of_eq rfl) (by decide) (by decide) (by decide) (fun _ q => nomatch q) (pc' := 5) rfl ?_
  intro v54 T54 h54 w54 K54 q54
  obtain ⟨rfl, rfl⟩ := q54
  show Goes p e below _ T54 (mkF m 5 #[.val (.ref t), .val (.int (Int32.ofNat i)), .val (.int (Int32.ofNat j)), .unset, .unset] [])
  refine i_iloadN w54 own_d46_5 rfl (pc' := 6) rfl ?_
  refine i_iloadN w54 own_d46_6 rfl (pc' := 7) rfl ?_
  refine i_isub w54 own_d46_7 (pc' := 8) rfl ?_
  rw [sub_nat hij]
  show Goes p e below _ T54 (mkF m 8 #[.val (.ref t), .val (.int (Int32.ofNat i)), .val (.int (Int32.ofNat j)), .unset, .unset] [(.int (Int32.ofNat (j - i)))])
  refine i_istoreN w54 own_d46_8 (l' := #[.val (.ref t), .val (.int (Int32.ofNat i)), .val (.int (Int32.ofNat j)), .val (.int (Int32.ofNat (j - i))), .unset]) rfl (pc' := 9) rfl ?_
  refine i_iloadN w54 own_d46_9 rfl (pc' := 10) rfl ?_
  refine i_newP w54 own_d46_10 (hw _ (List.mem_of_getElem? (i := 34) rfl)) (N := (j - i)) rfl (by omega) (cap := 32) (by omega) (by decide) (by decide) (by decide) (pc' := 12) rfl ?_
  intro d T55 h55 ca_d g_d w55 z_d E55 A_d
  show Goes p e below _ T55 (mkF m 12 #[.val (.ref t), .val (.int (Int32.ofNat i)), .val (.int (Int32.ofNat j)), .val (.int (Int32.ofNat (j - i))), .unset] [(.ref d)])
  have At1 := At.ext E55
  refine i_astore w55 own_d46_12 rfl (l' := #[.val (.ref t), .val (.int (Int32.ofNat i)), .val (.int (Int32.ofNat j)), .val (.int (Int32.ofNat (j - i))), .val (.ref d)]) rfl (pc' := 14) rfl ?_
  refine i_aloadN w55 own_d46_14 rfl rfl (pc' := 15) rfl ?_
  refine i_iloadN w55 own_d46_15 rfl (pc' := 16) rfl ?_
  refine i_aload w55 own_d46_16 rfl rfl (pc' := 18) rfl ?_
  refine i_iconst w55 own_d46_18 (z := (0 : Int32)) (by decide) (pc' := 19) rfl ?_
  refine i_aloadN w55 own_d46_19 rfl rfl (pc' := 20) rfl ?_
  refine i_len w55 own_d46_20 At1 rfl (pc' := 21) rfl ?_
  refine i_iloadN w55 own_d46_21 rfl (pc' := 22) rfl ?_
  refine i_isub w55 own_d46_22 (pc' := 23) rfl ?_
  refine i_iloadN w55 own_d46_23 rfl (pc' := 24) rfl ?_
  rw [sub_nat (by omega)]
  show Goes p e below _ T55 (mkF m 24 #[.val (.ref t), .val (.int (Int32.ofNat i)), .val (.int (Int32.ofNat j)), .val (.int (Int32.ofNat (j - i))), .val (.ref d)] [(.int (Int32.ofNat (j - i))), (.int (Int32.ofNat (vs.length - i))), (.int (0 : Int32)), (.ref d), (.int (Int32.ofNat i)), (.ref t)])
  refine c_static w55 (y := (⟨"java/lang/Math", "min", "(II)I"⟩ : MethodName)) (argsL := [(.int (Int32.ofNat (vs.length - i))), (.int (Int32.ofNat (j - i)))]) (st := [(.int (0 : Int32)), (.ref d), (.int (Int32.ofNat i)), (.ref t)]) own_d46_24 (hw _ (List.mem_of_getElem? (i := 204) rfl)) (hw _ (List.mem_of_getElem? (i := 205) rfl)) (hw _ (List.mem_of_getElem? (i := 206) rfl)) (hw _ (List.mem_of_getElem? (i := 207) rfl)) (by decide) own_pd_pIIqI rfl (own_min l Z a0 hw (Int32.ofNat (vs.length - i)) (Int32.ofNat (j - i)) h55 n0 w55.old ) rfl (by decide) (W := 4) (Nat.le_of_eq rfl) (by decide) (by decide) (by decide) (fun _ q => nomatch q) (pc' := 27) rfl ?_
  intro v57 T57 h57 w57 K57 q57
  obtain ⟨rfl, rfl⟩ := q57
  show Goes p e below _ T57 (mkF m 27 #[.val (.ref t), .val (.int (Int32.ofNat i)), .val (.int (Int32.ofNat j)), .val (.int (Int32.ofNat (j - i))), .val (.ref d)] [(.int (if (Int32.ofNat (j - i)) < (Int32.ofNat (vs.length - i)) then (Int32.ofNat (j - i)) else (Int32.ofNat (vs.length - i)))), (.int (0 : Int32)), (.ref d), (.int (Int32.ofNat i)), (.ref t)])
  rw [show (if Int32.ofNat (j - i) < Int32.ofNat (vs.length - i) then Int32.ofNat (j - i) else Int32.ofNat (vs.length - i)) = Int32.ofNat (j - i) from by have := At.1; split; rfl; rename_i q; rw [lt_nat (by omega) (by omega)] at q; congr 1; omega]
  show Goes p e below _ T57 (mkF m 27 #[.val (.ref t), .val (.int (Int32.ofNat i)), .val (.int (Int32.ofNat j)), .val (.int (Int32.ofNat (j - i))), .val (.ref d)] [(.int (Int32.ofNat (j - i))), (.int (0 : Int32)), (.ref d), (.int (Int32.ofNat i)), (.ref t)])
  refine i_acopy w57 (sp := i) (dp := 0) (nn := j - i) own_d46_27 (hw _ (List.mem_of_getElem? (i := 208) rfl)) (hw _ (List.mem_of_getElem? (i := 211) rfl)) (hw _ (List.mem_of_getElem? (i := 209) rfl)) (hw _ (List.mem_of_getElem? (i := 210) rfl)) At1 A_d rfl (by omega) (by simp) (Or.inr z_d) rfl (by decide) (W := 0) (Nat.le_of_eq rfl) (by decide) (pc' := 30) rfl ?_
  intro T58 h58 w58 K58 Ad
  show Goes p e below _ T58 (mkF m 30 #[.val (.ref t), .val (.int (Int32.ofNat i)), .val (.int (Int32.ofNat j)), .val (.int (Int32.ofNat (j - i))), .val (.ref d)] [])
  rw [show List.take 0 (List.replicate (j - i) (defaultValue (newarray.typeOf .byte))) ++ List.take (j - i) (List.drop i vs) ++ List.drop (0 + (j - i)) (List.replicate (j - i) (defaultValue (newarray.typeOf .byte))) = (vs.drop i).take (j - i) from by simp] at Ad
  refine i_aload w58 own_d46_30 rfl rfl (pc' := 32) rfl ?_
  exact i_retA w58 own_d46_32 rfl rfl rfl ⟨d, ca_d, rfl, z_d, Ad⟩ (by decide) (by decide)
theorem own_d45_0 : decode jdk_65_method_132_code 0 = .ok (.iload_n 1, 1) := by decide +kernel
theorem own_d45_1 : decode jdk_65_method_132_code 1 = .ok (.ifCond .ne 9, 3) := by decide +kernel
theorem own_d45_4 : decode jdk_65_method_132_code 4 = .ok (.iload_n 2, 1) := by decide +kernel
theorem own_d45_5 : decode jdk_65_method_132_code 5 = .ok (.aload_n 0, 1) := by decide +kernel
theorem own_d45_6 : decode jdk_65_method_132_code 6 = .ok (.arraylength, 1) := by decide +kernel
theorem own_d45_7 : decode jdk_65_method_132_code 7 = .ok (.if_icmp .eq 10, 3) := by decide +kernel
theorem own_d45_10 : decode jdk_65_method_132_code 10 = .ok (.aload_n 0, 1) := by decide +kernel
theorem own_d45_11 : decode jdk_65_method_132_code 11 = .ok (.iload_n 1, 1) := by decide +kernel
theorem own_d45_12 : decode jdk_65_method_132_code 12 = .ok (.iload_n 2, 1) := by decide +kernel
theorem own_d45_13 : decode jdk_65_method_132_code 13 = .ok (.invokestatic 339, 3) := by decide +kernel
theorem own_d45_16 : decode jdk_65_method_132_code 16 = .ok (.areturn, 1) := by decide +kernel
theorem own_d45_17 : decode jdk_65_method_132_code 17 = .ok (.aload_n 0, 1) := by decide +kernel
theorem own_d45_18 : decode jdk_65_method_132_code 18 = .ok (.invokevirtual 310, 3) := by decide +kernel
theorem own_d45_21 : decode jdk_65_method_132_code 21 = .ok (.checkcast 311, 3) := by decide +kernel
theorem own_d45_24 : decode jdk_65_method_132_code 24 = .ok (.areturn, 1) := by decide +kernel
theorem own_ef_own_d45 (m : MethodId) (x0 : Addr) (x1 : Int32) (x2 : Int32) : entryFrame m #[(.ref x0), (.int x1), (.int x2)] 3 = mkF m 0 #[.val (.ref x0), .val (.int x1), .val (.int x2)] [] := by
  first | (simp [entryFrame, mkF, argsToLocals, Value.category]; done) | rfl
set_option maxRecDepth 65536 in
set_option maxHeartbeats 40000000 in
theorem own_cor (l : Launch) (Z : State) (a0 : Array Value) (hw : ∀ d ∈ tables_1, d.before a0 Z = true) (t : Addr) (ca : ClassId) (vs : List Value) (i j : Nat) (h0 : Heap) (n0 : Nat) (O : Old Z n0 h0) (At : Ary Z h0 t ca .byte vs) (hij : i ≤ j) (hj : j ≤ vs.length) (hc : j - i ≤ 32) (hne : i = 0 → ¬ j = vs.length) :
    Ctr l Z n0 (⟨"java/util/Arrays", "copyOfRange", "([BII)[B"⟩ : MethodName) jdk_65_method_132_code 3 (some (.array .byte)) [] ({ frames := 2, cells := 1, slots := 32, locals := 34 } : Room) #[(.ref t), (.int (Int32.ofNat i)), (.int (Int32.ofNat j))] h0 [] (fun v h => ∃ d cd, v = some (.ref d) ∧ h0.size ≤ d ∧ Ary Z h d cd .byte ((vs.drop i).take (j - i))) := by
  refine enter (plainFor_of_name own_pn_java_util_Arrays) (fun m => own_ef_own_d45 m t (Int32.ofNat i) (Int32.ofNat j)) O (fun _ q => nomatch q) ?_
  intro p e s m below meth c T w
  have hl31 := At.1
  refine i_iloadN w own_d45_0 rfl (pc' := 1) rfl ?_
  refine i_if_ne w own_d45_1 (pcY := 10) (by decide) (pc' := 4) rfl (fun hc1 => ?_) (fun hc1 => ?_)
  ·
    refine i_aloadN w own_d45_10 rfl rfl (pc' := 11) rfl ?_
    refine i_iloadN w own_d45_11 rfl (pc' := 12) rfl ?_
    refine i_iloadN w own_d45_12 rfl (pc' := 13) rfl ?_
    refine c_static w (y := (⟨"java/util/Arrays", "copyOfRangeByte", "([BII)[B"⟩ : MethodName)) (argsL := [(.ref t), (.int (Int32.ofNat i)), (.int (Int32.ofNat j))]) (st := []) own_d45_13 (hw _ (List.mem_of_getElem? (i := 198) rfl)) (hw _ (List.mem_of_getElem? (i := 199) rfl)) (hw _ (List.mem_of_getElem? (i := 196) rfl)) (hw _ (List.mem_of_getElem? (i := 200) rfl)) (by decide) own_pd_pABIIqAB rfl (own_corB l Z a0 hw t ca vs i j h0 n0 w.old At hij hj hc) rfl (by decide) (W := 0) (Nat.le_of_eq rfl) (by decide) (by decide) (by decide) (fun _ q => nomatch q) (pc' := 16) rfl ?_
    intro v59 T59 h59 w59 K59 q59
    obtain ⟨d, cd, rfl, zd, Ad⟩ := q59
    show Goes p e below _ T59 (mkF m 16 #[.val (.ref t), .val (.int (Int32.ofNat i)), .val (.int (Int32.ofNat j))] [(.ref d)])
    exact i_retA w59 own_d45_16 rfl rfl rfl ⟨d, cd, rfl, zd, Ad⟩ (by decide) (by decide)
  ·
    refine i_iloadN w own_d45_4 rfl (pc' := 5) rfl ?_
    refine i_aloadN w own_d45_5 rfl rfl (pc' := 6) rfl ?_
    refine i_len w own_d45_6 At rfl (pc' := 7) rfl ?_
    refine i_icmp_eq_N w (fun q => hne ((eq_nat (by omega) (by omega)).mp (hc1.trans (show (0 : Int32) = Int32.ofNat 0 from rfl))) ((eq_nat (by omega) At.1).mp q)) own_d45_7 (pc' := 10) rfl ?_
    refine i_aloadN w own_d45_10 rfl rfl (pc' := 11) rfl ?_
    refine i_iloadN w own_d45_11 rfl (pc' := 12) rfl ?_
    refine i_iloadN w own_d45_12 rfl (pc' := 13) rfl ?_
    refine c_static w (y := (⟨"java/util/Arrays", "copyOfRangeByte", "([BII)[B"⟩ : MethodName)) (argsL := [(.ref t), (.int (Int32.ofNat i)), (.int (Int32.ofNat j))]) (st := []) own_d45_13 (hw _ (List.mem_of_getElem? (i := 198) rfl)) (hw _ (List.mem_of_getElem? (i := 199) rfl)) (hw _ (List.mem_of_getElem? (i := 196) rfl)) (hw _ (List.mem_of_getElem? (i := 200) rfl)) (by decide) own_pd_pABIIqAB rfl (own_corB l Z a0 hw t ca vs i j h0 n0 w.old At hij hj hc) rfl (by decide) (W := 0) (Nat.le_of_eq rfl) (by decide) (by decide) (by decide) (fun _ q => nomatch q) (pc' := 16) rfl ?_
    intro v61 T61 h61 w61 K61 q61
    obtain ⟨d, cd, rfl, zd, Ad⟩ := q61
    show Goes p e below _ T61 (mkF m 16 #[.val (.ref t), .val (.int (Int32.ofNat i)), .val (.int (Int32.ofNat j))] [(.ref d)])
    exact i_retA w61 own_d45_16 rfl rfl rfl ⟨d, cd, rfl, zd, Ad⟩ (by decide) (by decide)
/-- the StringBuilder at sb says cs, its array of 16 chars at t -/ 
def SBn (Z : State) (h : Heap) (sb t : Addr) (ct : ClassId) (cs : List Nat) : Prop := Exa Z h sb "java/lang/StringBuilder" ∧ Fld Z h sb "java/lang/AbstractStringBuilder" "value" "[B" (.ref t) ∧ Fld Z h sb "java/lang/AbstractStringBuilder" "coder" "B" (.int 0) ∧ Fld Z h sb "java/lang/AbstractStringBuilder" "count" "I" (.int (Int32.ofNat cs.length)) ∧ Fld Z h sb "java/lang/AbstractStringBuilder" "maybeLatin1" "Z" (.int 0) ∧ Ary Z h t ct .byte (lat cs ++ List.replicate (16 - cs.length) (Value.int 0)) ∧ cs.length ≤ 16 ∧ ∀ c ∈ cs, c < 256
section
variable {Z : State} {h h' : Heap} {sb t : Addr} {ct : ClassId} {cs : List Nat} {ws : List Addr}
theorem SBn.ext (E : Ext h h') (S : SBn Z h sb t ct cs) : SBn Z h' sb t ct cs := ⟨S.1.ext E, S.2.1.ext E, S.2.2.1.ext E, S.2.2.2.1.ext E, S.2.2.2.2.1.ext E, S.2.2.2.2.2.1.ext E, S.2.2.2.2.2.2⟩
theorem SBn.keep (S : SBn Z h sb t ct cs) (K : Keep h h' ws) (q : sb ∉ ws) (r : t ∉ ws) : SBn Z h' sb t ct cs := ⟨S.1.keep K, S.2.1.keep K q, S.2.2.1.keep K q, S.2.2.2.1.keep K q, S.2.2.2.2.1.keep K q, S.2.2.2.2.2.1.keep K r, S.2.2.2.2.2.2⟩
theorem SBn.lt (S : SBn Z h sb t ct cs) : sb < h.size := S.1.lt
theorem SBn.ltT (S : SBn Z h sb t ct cs) : t < h.size := S.2.2.2.2.2.1.lt
end
/-- the StringBuilder at sb says cs, its array of 16 chars at t -/ 
def SBw (Z : State) (h : Heap) (sb t : Addr) (ct : ClassId) (cs : List Nat) : Prop := Exa Z h sb "java/lang/StringBuilder" ∧ Fld Z h sb "java/lang/AbstractStringBuilder" "value" "[B" (.ref t) ∧ Fld Z h sb "java/lang/AbstractStringBuilder" "coder" "B" (.int 1) ∧ Fld Z h sb "java/lang/AbstractStringBuilder" "count" "I" (.int (Int32.ofNat cs.length)) ∧ Fld Z h sb "java/lang/AbstractStringBuilder" "maybeLatin1" "Z" (.int 0) ∧ Ary Z h t ct .byte (wid cs ++ List.replicate (32 - 2 * cs.length) (Value.int 0)) ∧ cs.length ≤ 16 ∧ ∀ c ∈ cs, c < 65536
section
variable {Z : State} {h h' : Heap} {sb t : Addr} {ct : ClassId} {cs : List Nat} {ws : List Addr}
theorem SBw.ext (E : Ext h h') (S : SBw Z h sb t ct cs) : SBw Z h' sb t ct cs := ⟨S.1.ext E, S.2.1.ext E, S.2.2.1.ext E, S.2.2.2.1.ext E, S.2.2.2.2.1.ext E, S.2.2.2.2.2.1.ext E, S.2.2.2.2.2.2⟩
theorem SBw.keep (S : SBw Z h sb t ct cs) (K : Keep h h' ws) (q : sb ∉ ws) (r : t ∉ ws) : SBw Z h' sb t ct cs := ⟨S.1.keep K, S.2.1.keep K q, S.2.2.1.keep K q, S.2.2.2.1.keep K q, S.2.2.2.2.1.keep K q, S.2.2.2.2.2.1.keep K r, S.2.2.2.2.2.2⟩
theorem SBw.lt (S : SBw Z h sb t ct cs) : sb < h.size := S.1.lt
theorem SBw.ltT (S : SBw Z h sb t ct cs) : t < h.size := S.2.2.2.2.2.1.lt
end
def SBu (Z : State) (h : Heap) (sb t : Addr) (ct : ClassId) (cs : List Nat) : Prop := SBn Z h sb t ct cs ∨ (SBw Z h sb t ct cs ∧ ∃ c ∈ cs, 256 ≤ c)
section
variable {Z : State} {h h' : Heap} {sb t : Addr} {ct : ClassId} {cs : List Nat} {ws : List Addr}
theorem SBu.ext (E : Ext h h') (S : SBu Z h sb t ct cs) : SBu Z h' sb t ct cs := S.imp (·.ext E) fun q => ⟨q.1.ext E, q.2⟩
theorem SBu.keep (S : SBu Z h sb t ct cs) (K : Keep h h' ws) (q : sb ∉ ws) (r : t ∉ ws) : SBu Z h' sb t ct cs := S.imp (·.keep K q r) fun z => ⟨z.1.keep K q r, z.2⟩
theorem SBu.lt (S : SBu Z h sb t ct cs) : sb < h.size := S.elim (·.lt) (·.1.lt)
theorem SBu.ltT (S : SBu Z h sb t ct cs) : t < h.size := S.elim (·.ltT) (·.1.ltT)
end
theorem own_set1 {α : Type} (x a : α) (l3 : List α) : ∀ l1 : List α, (l1 ++ x :: l3).set l1.length a = l1 ++ a :: l3
  | [] => rfl
  | y :: l => by simp [own_set1 x a l3 l]
theorem own_set2 {α : Type} (x y a b : α) (l3 : List α) : ∀ l1 : List α, ((l1 ++ x :: y :: l3).set l1.length a).set (l1.length + 1) b = l1 ++ a :: b :: l3
  | [] => rfl
  | z :: l => by simp [own_set2 x y a b l3 l]
theorem own_wid_app (c : Nat) : ∀ xs : List Nat, wid (xs ++ [c]) = wid xs ++ [.int (bv c), .int (bv (c / 256))]
  | [] => rfl
  | y :: ys => by simp [wid, own_wid_app c ys]
theorem own_wput {cs : List Nat} {c : Nat} (h : cs.length < 16) : ((wid cs ++ List.replicate (32 - 2 * cs.length) (Value.int 0)).set (2 * cs.length) (.int (bv c))).set (2 * cs.length + 1) (.int (bv (c / 256))) = wid (cs ++ [c]) ++ List.replicate (32 - 2 * (cs ++ [c]).length) (.int 0) := by
  have e : List.replicate (32 - 2 * cs.length) (Value.int 0) = .int 0 :: .int 0 :: List.replicate (32 - 2 * (cs ++ [c]).length) (.int 0) := by
    rw [show 32 - 2 * cs.length = (32 - 2 * (cs ++ [c]).length) + 1 + 1 by simp; omega, List.replicate_succ, List.replicate_succ]
  have q := own_set2 (Value.int 0) (.int 0) (.int (bv c)) (.int (bv (c / 256))) (List.replicate (32 - 2 * (cs ++ [c]).length) (.int 0)) (wid cs)
  rw [wid_len] at q
  rw [e, q, own_wid_app]; simp
theorem own_wputT {cs : List Nat} {i c : Nat} (hc : cs[i]? = some c) (h : i < 16) : ((wid (cs.take i) ++ List.replicate (32 - 2 * i) (Value.int 0)).set (2 * i) (.int (bv c))).set (2 * i + 1) (.int (bv (c / 256))) = wid (cs.take (i + 1)) ++ List.replicate (32 - 2 * (i + 1)) (.int 0) := by
  obtain ⟨hi, -⟩ := List.getElem?_eq_some_iff.mp hc
  have hl : (cs.take i).length = i := by simp; omega
  have q := own_wput (cs := cs.take i) (c := c) (by omega)
  rw [List.length_append, hl] at q
  rw [take_succ_some hc]; exact q
theorem own_lput {cs : List Nat} {c : Nat} (h : cs.length < 16) : (lat cs ++ List.replicate (16 - cs.length) (Value.int 0)).set cs.length (.int (nar .byte (Int32.ofNat c).toInt8.toInt32)) = lat (cs ++ [c]) ++ List.replicate (16 - (cs ++ [c]).length) (.int 0) := by
  have e : List.replicate (16 - cs.length) (Value.int 0) = .int 0 :: List.replicate (16 - (cs ++ [c]).length) (.int 0) := by
    rw [show 16 - cs.length = (16 - (cs ++ [c]).length) + 1 by simp; omega, List.replicate_succ]
  have q := own_set1 (Value.int 0) (.int (bv c)) (List.replicate (16 - (cs ++ [c]).length) (.int 0)) (lat cs)
  rw [lat_len] at q
  rw [byte_idem, e]
  exact q.trans (by simp [lat])
theorem own_cputT {cs : List Nat} {i c : Nat} (hc : cs[i]? = some c) (h : c < 65536) : (chs (cs.take i) ++ List.replicate (cs.length - i) (Value.int 0)).set i (.int (nar .char (Int32.ofNat c))) = chs (cs.take (i + 1)) ++ List.replicate (cs.length - (i + 1)) (.int 0) := by
  obtain ⟨hi, -⟩ := List.getElem?_eq_some_iff.mp hc
  have hl : (chs (cs.take i)).length = i := by simp [chs_len]; omega
  have q := own_set1 (Value.int 0) (.int (Int32.ofNat c)) (List.replicate (cs.length - (i + 1)) (.int 0)) (chs (cs.take i))
  rw [hl] at q
  rw [char_of_nat h, take_succ_some hc, show cs.length - i = (cs.length - (i + 1)) + 1 by omega, List.replicate_succ, q]
  simp [chs]
theorem own_lenn {cs : List Nat} (h : cs.length ≤ 16) : (lat cs ++ List.replicate (16 - cs.length) (Value.int 0)).length = 16 := by simp [lat_len]; omega
theorem own_lenw {cs : List Nat} (h : cs.length ≤ 16) : (wid cs ++ List.replicate (32 - 2 * cs.length) (Value.int 0)).length = 32 := by simp [wid_len]; omega
theorem own_pren {cs : List Nat} : ((lat cs ++ List.replicate (16 - cs.length) (Value.int 0)).drop 0).take (cs.length - 0) = lat cs := by
  rw [List.drop_zero, Nat.sub_zero]
  conv => lhs; rw [← lat_len cs]
  rw [List.take_left']; rfl
theorem own_prew {cs : List Nat} : ((wid cs ++ List.replicate (32 - 2 * cs.length) (Value.int 0)).drop 0).take (2 * cs.length - 0) = wid cs := by
  rw [List.drop_zero, Nat.sub_zero]
  conv => lhs; rw [← wid_len cs]
  rw [List.take_left']; rfl
theorem own_capn {n : Nat} (h : n ≤ 16) : ¬ (0 : Int32) < Int32.ofNat n - (Int32.ofNat 16 >>> ((0 : Int32) &&& 31)) := by
  rw [shr_zero, Int32.lt_iff_toInt_lt, Int32.toInt_sub, toInt_small (by omega), toInt_small (by omega)]
  show ¬ (0 : Int) < Int.bmod _ _
  rw [Int.bmod_eq_of_le (by omega) (by omega)]; omega
theorem own_capw {n : Nat} (h : n ≤ 16) : ¬ (0 : Int32) < Int32.ofNat n - (Int32.ofNat 32 >>> ((1 : Int32) &&& 31)) := by
  rw [shr1 (by omega), Int32.lt_iff_toInt_lt, Int32.toInt_sub, toInt_small (by omega), toInt_small (by omega)]
  show ¬ (0 : Int) < Int.bmod _ _
  rw [Int.bmod_eq_of_le (by omega) (by omega)]; omega
theorem own_inc (n : Nat) : Int32.ofNat n + (1 : Int32) = Int32.ofNat (n + 1) := add_nat n 1
theorem own_sub0 (x : Int32) : x - (0 : Int32) = x := by simp
theorem own_or0 {a b : Nat} (ha : a < 65536) (hb : b < 65536) : ¬ (Int32.ofNat a ||| (0 : Int32) ||| Int32.ofNat b) < 0 := by
  rw [show (0 : Int32) = Int32.ofNat 0 from rfl, or_nat, or_nat, Nat.or_zero]
  have : a ||| b < 2 ^ 16 := Nat.or_lt_two_pow ha hb
  exact nonneg_ofNat (by omega)
theorem own_d18_0 : decode jdk_68_method_2_code 0 = .ok (.aload_n 0, 1) := by decide +kernel
theorem own_d18_1 : decode jdk_68_method_2_code 1 = .ok (.invokespecial 3, 3) := by decide +kernel
theorem own_d18_4 : decode jdk_68_method_2_code 4 = .ok (.getstatic 18, 3) := by decide +kernel
theorem own_d18_7 : decode jdk_68_method_2_code 7 = .ok (.ifCond .eq 18, 3) := by decide +kernel
theorem own_d18_10 : decode jdk_68_method_2_code 10 = .ok (.aload_n 0, 1) := by decide +kernel
theorem own_d18_11 : decode jdk_68_method_2_code 11 = .ok (.iload_n 1, 1) := by decide +kernel
theorem own_d18_12 : decode jdk_68_method_2_code 12 = .ok (.newarray .byte, 2) := by decide +kernel
theorem own_d18_14 : decode jdk_68_method_2_code 14 = .ok (.putfield 15, 3) := by decide +kernel
theorem own_d18_17 : decode jdk_68_method_2_code 17 = .ok (.aload_n 0, 1) := by decide +kernel
theorem own_d18_18 : decode jdk_68_method_2_code 18 = .ok (.iconst 0, 1) := by decide +kernel
theorem own_d18_19 : decode jdk_68_method_2_code 19 = .ok (.putfield 22, 3) := by decide +kernel
theorem own_d18_22 : decode jdk_68_method_2_code 22 = .ok (.goto 16, 3) := by decide +kernel
theorem own_d18_25 : decode jdk_68_method_2_code 25 = .ok (.aload_n 0, 1) := by decide +kernel
theorem own_d18_26 : decode jdk_68_method_2_code 26 = .ok (.iload_n 1, 1) := by decide +kernel
theorem own_d18_27 : decode jdk_68_method_2_code 27 = .ok (.invokestatic 26, 3) := by decide +kernel
theorem own_d18_30 : decode jdk_68_method_2_code 30 = .ok (.putfield 15, 3) := by decide +kernel
theorem own_d18_33 : decode jdk_68_method_2_code 33 = .ok (.aload_n 0, 1) := by decide +kernel
theorem own_d18_34 : decode jdk_68_method_2_code 34 = .ok (.iconst 1, 1) := by decide +kernel
theorem own_d18_35 : decode jdk_68_method_2_code 35 = .ok (.putfield 22, 3) := by decide +kernel
theorem own_d18_38 : decode jdk_68_method_2_code 38 = .ok (.return_, 1) := by decide +kernel
theorem own_pn_java_lang_AbstractStringBuilder : plainName "java/lang/AbstractStringBuilder" = true := by first | (simp [plainName, overriddenIn]; done) | decide +kernel
theorem own_pd_pIqV : parseMethodDescriptor "(I)V" = some ⟨[.int], none⟩ := by decide +kernel
theorem own_ef_own_d18 (m : MethodId) (x0 : Addr) (x1 : Int32) : entryFrame m #[(.ref x0), (.int x1)] 2 = mkF m 0 #[.val (.ref x0), .val (.int x1)] [] := by
  first | (simp [entryFrame, mkF, argsToLocals, Value.category]; done) | rfl
set_option maxRecDepth 65536 in
set_option maxHeartbeats 40000000 in
theorem own_abInit (l : Launch) (Z : State) (a0 : Array Value) (hw : ∀ d ∈ tables_1, d.before a0 Z = true) (sb : Addr) {v0 c0 : Value} (G1 : Int32) (hG : ¬ G1 = 0) (SG : Sta Z Z.heap "java/lang/String" "COMPACT_STRINGS" "Z" (.int G1)) (h0 : Heap) (n0 : Nat) (O : Old Z n0 h0) (ha : n0 ≤ sb) (Ea : Exa Z h0 sb "java/lang/StringBuilder") (Fv : Fld Z h0 sb "java/lang/AbstractStringBuilder" "value" "[B" v0) (Fc : Fld Z h0 sb "java/lang/AbstractStringBuilder" "coder" "B" c0) (Fn : Fld Z h0 sb "java/lang/AbstractStringBuilder" "count" "I" (.int 0)) (Fm : Fld Z h0 sb "java/lang/AbstractStringBuilder" "maybeLatin1" "Z" (.int 0)) :
    Ctr l Z n0 (⟨"java/lang/AbstractStringBuilder", "<init>", "(I)V"⟩ : MethodName) jdk_68_method_2_code 2 none [] ({ frames := 1, cells := 1, slots := 16, locals := 12 } : Room) #[(.ref sb), (.int (16 : Int32))] h0 [sb] (fun v h => v = none ∧ ∃ t ct, h0.size ≤ t ∧ SBn Z h sb t ct []) := by
  refine enter (plainFor_of_name own_pn_java_lang_AbstractStringBuilder) (fun m => own_ef_own_d18 m sb (16 : Int32)) O (allS ha all0) ?_
  intro p e s m below meth c T w
  refine i_aloadN w own_d18_0 rfl rfl (pc' := 1) rfl ?_
  refine i_initO w own_d18_1 (hw _ (List.mem_of_getElem? (i := 80) rfl)) (hw _ (List.mem_of_getElem? (i := 27) rfl)) (hw _ (List.mem_of_getElem? (i := 28) rfl)) rfl (by decide) (W := 0) (Nat.le_of_eq rfl) (by decide) (pc' := 4) rfl ?_
  intro T63 w63
  show Goes p e below _ T63 (mkF m 4 #[.val (.ref sb), .val (.int (16 : Int32))] [])
  refine i_getS w63 own_d18_4 (hw _ (List.mem_of_getElem? (i := 81) rfl)) SG (pc' := 7) rfl ?_
  intro T64 w64
  refine i_if_eq_N w64 hG own_d18_7 (pc' := 10) rfl ?_
  refine i_aloadN w64 own_d18_10 rfl rfl (pc' := 11) rfl ?_
  refine i_iloadN w64 own_d18_11 rfl (pc' := 12) rfl ?_
  refine i_newP w64 own_d18_12 (hw _ (List.mem_of_getElem? (i := 34) rfl)) (N := 16) rfl (by decide) (cap := 16) (by decide) (by decide) (by decide) (by decide) (pc' := 14) rfl ?_
  intro t T65 h65 ca_t g_t w65 z_t E65 A_t
  show Goes p e below _ T65 (mkF m 14 #[.val (.ref sb), .val (.int (16 : Int32))] [(.ref t), (.ref sb)])
  have Ea1 := Ea.ext E65
  have Fv1 := Fv.ext E65
  have Fc1 := Fc.ext E65
  have Fn1 := Fn.ext E65
  have Fm1 := Fm.ext E65
  have lt1 : sb < t := g_t ▸ Ea.lt
  refine i_putF w65 own_d18_14 (hw _ (List.mem_of_getElem? (i := 82) rfl)) Fv1 Ea1 (Or.inl (hw _ (List.mem_of_getElem? (i := 83) rfl))) (hw _ (List.mem_of_getElem? (i := 69) rfl)) (ty := (.array .byte)) (by decide) rfl rfl (Or.inl (List.mem_singleton.mpr rfl)) (pc' := 17) rfl ?_
  intro T67 h67 w67 W67
  show Goes p e below _ T67 (mkF m 17 #[.val (.ref sb), .val (.int (16 : Int32))] [])
  have Fv2 := Fld.same W67 Fv1
  have Fc2 := Fc1.other W67 (Or.inr (slot_ne (Or.inl (hw _ (List.mem_of_getElem? (i := 85) rfl))) (Or.inl (hw _ (List.mem_of_getElem? (i := 83) rfl))) (by decide) (t := .byte) (t' := (.array .byte)) (by decide) (by decide)))
  have Fn2 := Fn1.other W67 (Or.inr (slot_ne (Or.inl (hw _ (List.mem_of_getElem? (i := 127) rfl))) (Or.inl (hw _ (List.mem_of_getElem? (i := 83) rfl))) (by decide) (t := .int) (t' := (.array .byte)) (by decide) (by decide)))
  have Fm2 := Fm1.other W67 (Or.inr (slot_ne (Or.inl (hw _ (List.mem_of_getElem? (i := 193) rfl))) (Or.inl (hw _ (List.mem_of_getElem? (i := 83) rfl))) (by decide) (t := .boolean) (t' := (.array .byte)) (by decide) (by decide)))
  have Ea2 := Ea1.wr W67
  have At2 := A_t.other W67 (Nat.ne_of_gt lt1)
  refine i_aloadN w67 own_d18_17 rfl rfl (pc' := 18) rfl ?_
  refine i_iconst w67 own_d18_18 (z := (0 : Int32)) (by decide) (pc' := 19) rfl ?_
  refine i_putF w67 own_d18_19 (hw _ (List.mem_of_getElem? (i := 84) rfl)) Fc2 Ea2 (Or.inl (hw _ (List.mem_of_getElem? (i := 85) rfl))) (hw _ (List.mem_of_getElem? (i := 69) rfl)) (ty := .byte) (by decide) rfl rfl (Or.inl (List.mem_singleton.mpr rfl)) (pc' := 22) rfl ?_
  intro T68 h68 w68 W68
  show Goes p e below _ T68 (mkF m 22 #[.val (.ref sb), .val (.int (16 : Int32))] [])
  have Fc3 := Fld.same W68 Fc2
  have Fv3 := Fv2.other W68 (Or.inr (slot_ne (Or.inl (hw _ (List.mem_of_getElem? (i := 83) rfl))) (Or.inl (hw _ (List.mem_of_getElem? (i := 85) rfl))) (by decide) (t := (.array .byte)) (t' := .byte) (by decide) (by decide)))
  have Fn3 := Fn2.other W68 (Or.inr (slot_ne (Or.inl (hw _ (List.mem_of_getElem? (i := 127) rfl))) (Or.inl (hw _ (List.mem_of_getElem? (i := 85) rfl))) (by decide) (t := .int) (t' := .byte) (by decide) (by decide)))
  have Fm3 := Fm2.other W68 (Or.inr (slot_ne (Or.inl (hw _ (List.mem_of_getElem? (i := 193) rfl))) (Or.inl (hw _ (List.mem_of_getElem? (i := 85) rfl))) (by decide) (t := .boolean) (t' := .byte) (by decide) (by decide)))
  have Ea3 := Ea2.wr W68
  have At3 := At2.other W68 (Nat.ne_of_gt lt1)
  refine i_goto w68 own_d18_22 (pc' := 38) (by decide) ?_
  exact i_ret0 w68 own_d18_38 rfl ⟨rfl, t, ca_t, z_t, Ea3, Fv3, Fc3, Fn3, Fm3, At3, Nat.zero_le _, fun c hc => nomatch hc⟩ (by decide) (by decide)
theorem own_d17_0 : decode jdk_67_method_1_code 0 = .ok (.aload_n 0, 1) := by decide +kernel
theorem own_d17_1 : decode jdk_67_method_1_code 1 = .ok (.bipush 16, 2) := by decide +kernel
theorem own_d17_3 : decode jdk_67_method_1_code 3 = .ok (.invokespecial 1, 3) := by decide +kernel
theorem own_d17_6 : decode jdk_67_method_1_code 6 = .ok (.return_, 1) := by decide +kernel
theorem own_pn_java_lang_StringBuilder : plainName "java/lang/StringBuilder" = true := by first | (simp [plainName, overriddenIn]; done) | decide +kernel
theorem own_pd_pqV : parseMethodDescriptor "()V" = some ⟨[], none⟩ := by decide +kernel
theorem own_ef_own_d17 (m : MethodId) (x0 : Addr) : entryFrame m #[(.ref x0)] 1 = mkF m 0 #[.val (.ref x0)] [] := by
  first | (simp [entryFrame, mkF, argsToLocals, Value.category]; done) | rfl
set_option maxRecDepth 65536 in
set_option maxHeartbeats 40000000 in
theorem own_sbInit (l : Launch) (Z : State) (a0 : Array Value) (hw : ∀ d ∈ tables_1, d.before a0 Z = true) (sb : Addr) {v0 c0 : Value} (G1 : Int32) (hG : ¬ G1 = 0) (SG : Sta Z Z.heap "java/lang/String" "COMPACT_STRINGS" "Z" (.int G1)) (h0 : Heap) (n0 : Nat) (O : Old Z n0 h0) (ha : n0 ≤ sb) (Ea : Exa Z h0 sb "java/lang/StringBuilder") (Fv : Fld Z h0 sb "java/lang/AbstractStringBuilder" "value" "[B" v0) (Fc : Fld Z h0 sb "java/lang/AbstractStringBuilder" "coder" "B" c0) (Fn : Fld Z h0 sb "java/lang/AbstractStringBuilder" "count" "I" (.int 0)) (Fm : Fld Z h0 sb "java/lang/AbstractStringBuilder" "maybeLatin1" "Z" (.int 0)) :
    Ctr l Z n0 (⟨"java/lang/StringBuilder", "<init>", "()V"⟩ : MethodName) jdk_67_method_1_code 1 none [] ({ frames := 2, cells := 1, slots := 16, locals := 25 } : Room) #[(.ref sb)] h0 [sb] (fun v h => v = none ∧ ∃ t ct, h0.size ≤ t ∧ SBn Z h sb t ct []) := by
  refine enter (plainFor_of_name own_pn_java_lang_StringBuilder) (fun m => own_ef_own_d17 m sb) O (allS ha all0) ?_
  intro p e s m below meth c T w
  refine i_aloadN w own_d17_0 rfl rfl (pc' := 1) rfl ?_
  refine i_bipush w own_d17_1 (z := (16 : Int32)) (by decide) (pc' := 3) rfl ?_
  refine c_special w (y := (⟨"java/lang/AbstractStringBuilder", "<init>", "(I)V"⟩ : MethodName)) (a := sb) (argsL := [(.int (16 : Int32))]) (st := []) own_d17_3 rfl (hw _ (List.mem_of_getElem? (i := 74) rfl)) (hw _ (List.mem_of_getElem? (i := 75) rfl)) (hw _ (List.mem_of_getElem? (i := 78) rfl)) (hw _ (List.mem_of_getElem? (i := 79) rfl)) (by decide) own_pd_pIqV rfl (own_abInit l Z a0 hw sb G1 hG SG h0 n0 w.old ha Ea Fv Fc Fn Fm) rfl (by decide) (W := 0) (Nat.le_of_eq rfl) (by decide) (by decide) (by decide) (allS (Or.inl (List.mem_singleton.mpr rfl)) all0) (pc' := 6) rfl ?_
  intro v69 T69 h69 w69 K69 q69
  obtain ⟨rfl, t, ct, zt, Sd⟩ := q69
  show Goes p e below _ T69 (mkF m 6 #[.val (.ref sb)] [])
  exact i_ret0 w69 own_d17_6 rfl ⟨rfl, t, ct, zt, Sd⟩ (by decide) (by decide)
theorem own_d29_0 : decode jdk_68_method_9_code 0 = .ok (.aload_n 0, 1) := by decide +kernel
theorem own_d29_1 : decode jdk_68_method_9_code 1 = .ok (.getfield 15, 3) := by decide +kernel
theorem own_d29_4 : decode jdk_68_method_9_code 4 = .ok (.arraylength, 1) := by decide +kernel
theorem own_d29_5 : decode jdk_68_method_9_code 5 = .ok (.aload_n 0, 1) := by decide +kernel
theorem own_d29_6 : decode jdk_68_method_9_code 6 = .ok (.getfield 22, 3) := by decide +kernel
theorem own_d29_9 : decode jdk_68_method_9_code 9 = .ok (.ishr, 1) := by decide +kernel
theorem own_d29_10 : decode jdk_68_method_9_code 10 = .ok (.istore_n 2, 1) := by decide +kernel
theorem own_d29_11 : decode jdk_68_method_9_code 11 = .ok (.iload_n 1, 1) := by decide +kernel
theorem own_d29_12 : decode jdk_68_method_9_code 12 = .ok (.iload_n 2, 1) := by decide +kernel
theorem own_d29_13 : decode jdk_68_method_9_code 13 = .ok (.isub, 1) := by decide +kernel
theorem own_d29_14 : decode jdk_68_method_9_code 14 = .ok (.ifCond .le 24, 3) := by decide +kernel
theorem own_d29_17 : decode jdk_68_method_9_code 17 = .ok (.aload_n 0, 1) := by decide +kernel
theorem own_d29_18 : decode jdk_68_method_9_code 18 = .ok (.aload_n 0, 1) := by decide +kernel
theorem own_d29_19 : decode jdk_68_method_9_code 19 = .ok (.getfield 15, 3) := by decide +kernel
theorem own_d29_22 : decode jdk_68_method_9_code 22 = .ok (.aload_n 0, 1) := by decide +kernel
theorem own_d29_23 : decode jdk_68_method_9_code 23 = .ok (.iload_n 1, 1) := by decide +kernel
theorem own_d29_24 : decode jdk_68_method_9_code 24 = .ok (.invokevirtual 104, 3) := by decide +kernel
theorem own_d29_27 : decode jdk_68_method_9_code 27 = .ok (.aload_n 0, 1) := by decide +kernel
theorem own_d29_28 : decode jdk_68_method_9_code 28 = .ok (.getfield 22, 3) := by decide +kernel
theorem own_d29_31 : decode jdk_68_method_9_code 31 = .ok (.ishl, 1) := by decide +kernel
theorem own_d29_32 : decode jdk_68_method_9_code 32 = .ok (.invokestatic 108, 3) := by decide +kernel
theorem own_d29_35 : decode jdk_68_method_9_code 35 = .ok (.putfield 15, 3) := by decide +kernel
theorem own_d29_38 : decode jdk_68_method_9_code 38 = .ok (.return_, 1) := by decide +kernel
theorem own_ef_own_d29 (m : MethodId) (x0 : Addr) (x1 : Int32) : entryFrame m #[(.ref x0), (.int x1)] 3 = mkF m 0 #[.val (.ref x0), .val (.int x1), .unset] [] := by
  first | (simp [entryFrame, mkF, argsToLocals, Value.category]; done) | rfl
set_option maxRecDepth 65536 in
set_option maxHeartbeats 40000000 in
theorem own_ensuren (l : Launch) (Z : State) (a0 : Array Value) (hw : ∀ d ∈ tables_1, d.before a0 Z = true) (sb t : Addr) (ct : ClassId) (cs : List Nat) (n : Nat) (h0 : Heap) (n0 : Nat) (O : Old Z n0 h0) (S : SBn Z h0 sb t ct cs) (hn : n ≤ 16) :
    Ctr l Z n0 (⟨"java/lang/AbstractStringBuilder", "ensureCapacityInternal", "(I)V"⟩ : MethodName) jdk_68_method_9_code 3 none [] ({ frames := 0, cells := 0, slots := 0, locals := 0 } : Room) #[(.ref sb), (.int (Int32.ofNat n))] h0 [] (fun v h => v = none ∧ h0 = h) := by
  refine enter (plainFor_of_name own_pn_java_lang_AbstractStringBuilder) (fun m => own_ef_own_d29 m sb (Int32.ofNat n)) O (fun _ q => nomatch q) ?_
  intro p e s m below meth c T w
  refine i_aloadN w own_d29_0 rfl rfl (pc' := 1) rfl ?_
  refine i_getF w own_d29_1 (hw _ (List.mem_of_getElem? (i := 82) rfl)) S.2.1 (pc' := 4) rfl ?_
  intro T71 w71
  refine i_len w71 own_d29_4 S.2.2.2.2.2.1 (z := Int32.ofNat 16) (by rw [own_lenn S.2.2.2.2.2.2.1]) (pc' := 5) rfl ?_
  refine i_aloadN w71 own_d29_5 rfl rfl (pc' := 6) rfl ?_
  refine i_getF w71 own_d29_6 (hw _ (List.mem_of_getElem? (i := 84) rfl)) S.2.2.1 (pc' := 9) rfl ?_
  intro T72 w72
  refine i_ishr w72 own_d29_9 (pc' := 10) rfl ?_
  refine i_istoreN w72 own_d29_10 (l' := #[.val (.ref sb), .val (.int (Int32.ofNat n)), .val (.int ((Int32.ofNat 16) >>> ((0 : Int32) &&& 31)))]) rfl (pc' := 11) rfl ?_
  refine i_iloadN w72 own_d29_11 rfl (pc' := 12) rfl ?_
  refine i_iloadN w72 own_d29_12 rfl (pc' := 13) rfl ?_
  refine i_isub w72 own_d29_13 (pc' := 14) rfl ?_
  refine i_if_le_Y w72 (own_capn hn) own_d29_14 (pc' := 38) (by decide) ?_
  exact i_ret0 w72 own_d29_38 rfl ⟨rfl, rfl⟩ (by decide) (by decide)
theorem own_d30_0 : decode jdk_68_method_68_code 0 = .ok (.getstatic 18, 3) := by decide +kernel
theorem own_d30_3 : decode jdk_68_method_68_code 3 = .ok (.ifCond .eq 14, 3) := by decide +kernel
theorem own_d30_6 : decode jdk_68_method_68_code 6 = .ok (.aload_n 0, 1) := by decide +kernel
theorem own_d30_7 : decode jdk_68_method_68_code 7 = .ok (.getfield 22, 3) := by decide +kernel
theorem own_d30_10 : decode jdk_68_method_68_code 10 = .ok (.ifCond .ne 7, 3) := by decide +kernel
theorem own_d30_13 : decode jdk_68_method_68_code 13 = .ok (.iconst 1, 1) := by decide +kernel
theorem own_d30_14 : decode jdk_68_method_68_code 14 = .ok (.goto 4, 3) := by decide +kernel
theorem own_d30_17 : decode jdk_68_method_68_code 17 = .ok (.iconst 0, 1) := by decide +kernel
theorem own_d30_18 : decode jdk_68_method_68_code 18 = .ok (.ireturn, 1) := by decide +kernel
theorem own_ef_own_d30 (m : MethodId) (x0 : Addr) : entryFrame m #[(.ref x0)] 1 = mkF m 0 #[.val (.ref x0)] [] := by
  first | (simp [entryFrame, mkF, argsToLocals, Value.category]; done) | rfl
set_option maxRecDepth 65536 in
set_option maxHeartbeats 40000000 in
theorem own_abLatn (l : Launch) (Z : State) (a0 : Array Value) (hw : ∀ d ∈ tables_1, d.before a0 Z = true) (sb t : Addr) (ct : ClassId) (cs : List Nat) (G1 : Int32) (hG : ¬ G1 = 0) (SG : Sta Z Z.heap "java/lang/String" "COMPACT_STRINGS" "Z" (.int G1)) (h0 : Heap) (n0 : Nat) (O : Old Z n0 h0) (S : SBn Z h0 sb t ct cs) :
    Ctr l Z n0 (⟨"java/lang/AbstractStringBuilder", "isLatin1", "()Z"⟩ : MethodName) jdk_68_method_68_code 1 (some .boolean) [] ({ frames := 0, cells := 0, slots := 0, locals := 0 } : Room) #[(.ref sb)] h0 [] (fun v h => v = some (.int 1) ∧ h0 = h) := by
  refine enter (plainFor_of_name own_pn_java_lang_AbstractStringBuilder) (fun m => own_ef_own_d30 m sb) O (fun _ q => nomatch q) ?_
  intro p e s m below meth c T w
  refine i_getS w own_d30_0 (hw _ (List.mem_of_getElem? (i := 81) rfl)) SG (pc' := 3) rfl ?_
  intro T73 w73
  refine i_if_eq_N w73 hG own_d30_3 (pc' := 6) rfl ?_
  refine i_aloadN w73 own_d30_6 rfl rfl (pc' := 7) rfl ?_
  refine i_getF w73 own_d30_7 (hw _ (List.mem_of_getElem? (i := 84) rfl)) S.2.2.1 (pc' := 10) rfl ?_
  intro T74 w74
  refine i_if_ne_N w74 rfl own_d30_10 (pc' := 13) rfl ?_
  refine i_iconst w74 own_d30_13 (z := (1 : Int32)) (by decide) (pc' := 14) rfl ?_
  refine i_goto w74 own_d30_14 (pc' := 18) (by decide) ?_
  exact i_retN w74 own_d30_18 rfl (by simp) ⟨rfl, rfl⟩ (by decide) (by decide)
set_option maxRecDepth 65536 in
set_option maxHeartbeats 40000000 in
theorem own_uChkB (l : Launch) (Z : State) (a0 : Array Value) (hw : ∀ d ∈ tables_1, d.before a0 Z = true) (t : Addr) (ct : ClassId) (vs : List Value) (i : Nat) (G3 : Value) (hG3 : G3.isRef = true) (SF : Sta Z Z.heap "jdk/internal/util/Preconditions" "SIOOBE_FORMATTER" "Ljava/util/function/BiFunction;" G3) (h0 : Heap) (n0 : Nat) (O : Old Z n0 h0) (At : Ary Z h0 t ct .byte vs) (hi : 2 * i + 1 < vs.length) :
    Ctr l Z n0 (⟨"java/lang/StringUTF16", "checkIndex", "(I[B)V"⟩ : MethodName) jdk_52_method_91_code 2 none [] ({ frames := 2, cells := 0, slots := 0, locals := 27 } : Room) #[(.int (Int32.ofNat i)), (.ref t)] h0 [] (fun v h => v = none ∧ h0 = h) := by
  refine enter (plainFor_of_name own_pn_java_lang_StringUTF16) (fun m => own_ef_own_d36 m (Int32.ofNat i) t) O (fun _ q => nomatch q) ?_
  intro p e s m below meth c T w
  refine i_iloadN w own_d36_0 rfl (pc' := 1) rfl ?_
  refine i_aloadN w own_d36_1 rfl rfl (pc' := 2) rfl ?_
  refine c_static w (y := (⟨"java/lang/StringUTF16", "length", "([B)I"⟩ : MethodName)) (argsL := [(.ref t)]) (st := [(.int (Int32.ofNat i))]) own_d36_2 (hw _ (List.mem_of_getElem? (i := 105) rfl)) (hw _ (List.mem_of_getElem? (i := 106) rfl)) (hw _ (List.mem_of_getElem? (i := 32) rfl)) (hw _ (List.mem_of_getElem? (i := 107) rfl)) (by decide) own_pd_pABqI rfl (own_ulen l Z a0 hw t ct vs h0 n0 w.old At) rfl (by decide) (W := 1) (Nat.le_of_eq rfl) (by decide) (by decide) (by decide) (fun _ q => nomatch q) (pc' := 5) rfl ?_
  intro v75 T75 h75 w75 K75 q75
  obtain ⟨rfl, rfl⟩ := q75
  show Goes p e below _ T75 (mkF m 5 #[.val (.int (Int32.ofNat i)), .val (.ref t)] [(.int (Int32.ofNat (vs.length / 2))), (.int (Int32.ofNat i))])
  refine c_static w75 (y := (⟨"java/lang/String", "checkIndex", "(II)V"⟩ : MethodName)) (argsL := [(.int (Int32.ofNat i)), (.int (Int32.ofNat (vs.length / 2)))]) (st := []) own_d36_5 (hw _ (List.mem_of_getElem? (i := 160) rfl)) (hw _ (List.mem_of_getElem? (i := 161) rfl)) (hw _ (List.mem_of_getElem? (i := 18) rfl)) (hw _ (List.mem_of_getElem? (i := 162) rfl)) (by decide) own_pd_pIIqV rfl (own_sCheck l Z a0 hw i (vs.length / 2) G3 hG3 SF h0 n0 w75.old (by omega) (by have := At.1; omega)) rfl (by decide) (W := 0) (Nat.le_of_eq rfl) (by decide) (by decide) (by decide) (fun _ q => nomatch q) (pc' := 8) rfl ?_
  intro v76 T76 h76 w76 K76 q76
  obtain ⟨rfl, rfl⟩ := q76
  show Goes p e below _ T76 (mkF m 8 #[.val (.int (Int32.ofNat i)), .val (.ref t)] [])
  exact i_ret0 w76 own_d36_8 rfl ⟨rfl, rfl⟩ (by decide) (by decide)
theorem own_d35_0 : decode jdk_52_method_71_code 0 = .ok (.iload_n 1, 1) := by decide +kernel
theorem own_d35_1 : decode jdk_52_method_71_code 1 = .ok (.aload_n 0, 1) := by decide +kernel
theorem own_d35_2 : decode jdk_52_method_71_code 2 = .ok (.invokestatic 67, 3) := by decide +kernel
theorem own_d35_5 : decode jdk_52_method_71_code 5 = .ok (.aload_n 0, 1) := by decide +kernel
theorem own_d35_6 : decode jdk_52_method_71_code 6 = .ok (.iload_n 1, 1) := by decide +kernel
theorem own_d35_7 : decode jdk_52_method_71_code 7 = .ok (.iload_n 2, 1) := by decide +kernel
theorem own_d35_8 : decode jdk_52_method_71_code 8 = .ok (.invokestatic 111, 3) := by decide +kernel
theorem own_d35_11 : decode jdk_52_method_71_code 11 = .ok (.return_, 1) := by decide +kernel
theorem own_ef_own_d35 (m : MethodId) (x0 : Addr) (x1 : Int32) (x2 : Int32) : entryFrame m #[(.ref x0), (.int x1), (.int x2)] 3 = mkF m 0 #[.val (.ref x0), .val (.int x1), .val (.int x2)] [] := by
  first | (simp [entryFrame, mkF, argsToLocals, Value.category]; done) | rfl
set_option maxRecDepth 65536 in
set_option maxHeartbeats 40000000 in
theorem own_putSB (l : Launch) (Z : State) (a0 : Array Value) (hw : ∀ d ∈ tables_1, d.before a0 Z = true) (d : Addr) (cd : ClassId) (bs : List Value) (i k : Nat) (SA : Sta Z Z.heap "java/lang/StringUTF16" "$assertionsDisabled" "Z" (.int 1)) (SHi : Sta Z Z.heap "java/lang/StringUTF16" "HI_BYTE_SHIFT" "I" (.int 0)) (SLo : Sta Z Z.heap "java/lang/StringUTF16" "LO_BYTE_SHIFT" "I" (.int 8)) (G3 : Value) (hG3 : G3.isRef = true) (SF : Sta Z Z.heap "jdk/internal/util/Preconditions" "SIOOBE_FORMATTER" "Ljava/util/function/BiFunction;" G3) (h0 : Heap) (n0 : Nat) (O : Old Z n0 h0) (hd : n0 ≤ d) (hk : k < 65536) (hi : 2 * i + 1 < bs.length) (Ad : Ary Z h0 d cd .byte bs) :
    Ctr l Z n0 (⟨"java/lang/StringUTF16", "putCharSB", "([BII)V"⟩ : MethodName) jdk_52_method_71_code 3 none [] ({ frames := 3, cells := 0, slots := 0, locals := 40 } : Room) #[(.ref d), (.int (Int32.ofNat i)), (.int (Int32.ofNat k))] h0 [d] (fun v h => v = none ∧ Ary Z h d cd .byte ((bs.set (2 * i) (.int (bv k))).set (2 * i + 1) (.int (bv (k / 256))))) := by
  refine enter (plainFor_of_name own_pn_java_lang_StringUTF16) (fun m => own_ef_own_d35 m d (Int32.ofNat i) (Int32.ofNat k)) O (allS hd all0) ?_
  intro p e s m below meth c T w
  refine i_iloadN w own_d35_0 rfl (pc' := 1) rfl ?_
  refine i_aloadN w own_d35_1 rfl rfl (pc' := 2) rfl ?_
  refine c_static w (y := (⟨"java/lang/StringUTF16", "checkIndex", "(I[B)V"⟩ : MethodName)) (argsL := [(.int (Int32.ofNat i)), (.ref d)]) (st := []) own_d35_2 (hw _ (List.mem_of_getElem? (i := 157) rfl)) (hw _ (List.mem_of_getElem? (i := 158) rfl)) (hw _ (List.mem_of_getElem? (i := 32) rfl)) (hw _ (List.mem_of_getElem? (i := 159) rfl)) (by decide) own_pd_pIABqV rfl (own_uChkB l Z a0 hw d cd bs i G3 hG3 SF h0 n0 w.old Ad hi) rfl (by decide) (W := 0) (Nat.le_of_eq rfl) (by decide) (by decide) (by decide) (fun _ q => nomatch q) (pc' := 5) rfl ?_
  intro v77 T77 h77 w77 K77 q77
  obtain ⟨rfl, rfl⟩ := q77
  show Goes p e below _ T77 (mkF m 5 #[.val (.ref d), .val (.int (Int32.ofNat i)), .val (.int (Int32.ofNat k))] [])
  refine i_aloadN w77 own_d35_5 rfl rfl (pc' := 6) rfl ?_
  refine i_iloadN w77 own_d35_6 rfl (pc' := 7) rfl ?_
  refine i_iloadN w77 own_d35_7 rfl (pc' := 8) rfl ?_
  refine c_static w77 (y := (⟨"java/lang/StringUTF16", "putChar", "([BII)V"⟩ : MethodName)) (argsL := [(.ref d), (.int (Int32.ofNat i)), (.int (Int32.ofNat k))]) (st := []) own_d35_8 (hw _ (List.mem_of_getElem? (i := 48) rfl)) (hw _ (List.mem_of_getElem? (i := 49) rfl)) (hw _ (List.mem_of_getElem? (i := 32) rfl)) (hw _ (List.mem_of_getElem? (i := 50) rfl)) (by decide) own_pd_pABIIqV rfl (own_putChar l Z a0 hw d cd bs i k SA SHi SLo h0 n0 w77.old hd hk hi Ad) rfl (by decide) (W := 0) (Nat.le_of_eq rfl) (by decide) (by decide) (by decide) (allS (Or.inl (List.mem_singleton.mpr rfl)) all0) (pc' := 11) rfl ?_
  intro v78 T78 h78 w78 K78 q78
  obtain ⟨rfl, A1⟩ := q78
  show Goes p e below _ T78 (mkF m 11 #[.val (.ref d), .val (.int (Int32.ofNat i)), .val (.int (Int32.ofNat k))] [])
  exact i_ret0 w78 own_d35_11 rfl ⟨rfl, A1⟩ (by decide) (by decide)
theorem own_d26_0 : decode jdk_41_method_13_code 0 = .ok (.iload_n 2, 1) := by decide +kernel
theorem own_d26_1 : decode jdk_41_method_13_code 1 = .ok (.iload_n 0, 1) := by decide +kernel
theorem own_d26_2 : decode jdk_41_method_13_code 2 = .ok (.ior, 1) := by decide +kernel
theorem own_d26_3 : decode jdk_41_method_13_code 3 = .ok (.iload_n 1, 1) := by decide +kernel
theorem own_d26_4 : decode jdk_41_method_13_code 4 = .ok (.ior, 1) := by decide +kernel
theorem own_d26_5 : decode jdk_41_method_13_code 5 = .ok (.ifCond .lt 10, 3) := by decide +kernel
theorem own_d26_8 : decode jdk_41_method_13_code 8 = .ok (.iload_n 1, 1) := by decide +kernel
theorem own_d26_9 : decode jdk_41_method_13_code 9 = .ok (.iload_n 2, 1) := by decide +kernel
theorem own_d26_10 : decode jdk_41_method_13_code 10 = .ok (.iload_n 0, 1) := by decide +kernel
theorem own_d26_11 : decode jdk_41_method_13_code 11 = .ok (.isub, 1) := by decide +kernel
theorem own_d26_12 : decode jdk_41_method_13_code 12 = .ok (.if_icmp .le 11, 3) := by decide +kernel
theorem own_d26_15 : decode jdk_41_method_13_code 15 = .ok (.aload_n 3, 1) := by decide +kernel
theorem own_d26_16 : decode jdk_41_method_13_code 16 = .ok (.iload_n 0, 1) := by decide +kernel
theorem own_d26_17 : decode jdk_41_method_13_code 17 = .ok (.iload_n 1, 1) := by decide +kernel
theorem own_d26_18 : decode jdk_41_method_13_code 18 = .ok (.iload_n 2, 1) := by decide +kernel
theorem own_d26_19 : decode jdk_41_method_13_code 19 = .ok (.invokestatic 103, 3) := by decide +kernel
theorem own_d26_22 : decode jdk_41_method_13_code 22 = .ok (.athrow, 1) := by decide +kernel
theorem own_d26_23 : decode jdk_41_method_13_code 23 = .ok (.iload_n 0, 1) := by decide +kernel
theorem own_d26_24 : decode jdk_41_method_13_code 24 = .ok (.ireturn, 1) := by decide +kernel
theorem own_pd_pIIILjava_util_function_BiFunctioneqI : parseMethodDescriptor "(IIILjava/util/function/BiFunction;)I" = some ⟨[.int, .int, .int, (.object "java/util/function/BiFunction")], some .int⟩ := by decide +kernel
theorem own_ef_own_d26v3 (m : MethodId) (x0 : Int32) (x1 : Int32) (x2 : Int32) (x3 : Value) (hx3 : x3.isRef = true) : entryFrame m #[(.int x0), (.int x1), (.int x2), x3] 4 = mkF m 0 #[.val (.int x0), .val (.int x1), .val (.int x2), .val x3] [] := by
  rcases ref_cases hx3 with rfl | ⟨_, rfl⟩ <;> first | (simp [entryFrame, mkF, argsToLocals, Value.category]; done) | rfl
set_option maxRecDepth 65536 in
set_option maxHeartbeats 40000000 in
theorem own_pSize (l : Launch) (Z : State) (a0 : Array Value) (hw : ∀ d ∈ tables_1, d.before a0 Z = true) (n mm : Nat) (fm : Value) (h0 : Heap) (n0 : Nat) (O : Old Z n0 h0) (hn : n ≤ mm) (hm : mm < 65536) (hfm : fm.isRef = true) :
    Ctr l Z n0 (⟨"jdk/internal/util/Preconditions", "checkFromIndexSize", "(IIILjava/util/function/BiFunction;)I"⟩ : MethodName) jdk_41_method_13_code 4 (some .int) [] ({ frames := 0, cells := 0, slots := 0, locals := 0 } : Room) #[(.int (0 : Int32)), (.int (Int32.ofNat n)), (.int (Int32.ofNat mm)), fm] h0 [] (fun v h => v = some (.int 0) ∧ h0 = h) := by
  refine enter (plainFor_of_name own_pn_jdk_internal_util_Preconditions) (fun m => own_ef_own_d26v3 m (0 : Int32) (Int32.ofNat n) (Int32.ofNat mm) fm hfm) O (fun _ q => nomatch q) ?_
  intro p e s m below meth c T w
  refine i_iloadN w own_d26_0 rfl (pc' := 1) rfl ?_
  refine i_iloadN w own_d26_1 rfl (pc' := 2) rfl ?_
  refine i_ior w own_d26_2 (pc' := 3) rfl ?_
  refine i_iloadN w own_d26_3 rfl (pc' := 4) rfl ?_
  refine i_ior w own_d26_4 (pc' := 5) rfl ?_
  refine i_if_lt_N w (own_or0 hm (by omega)) own_d26_5 (pc' := 8) rfl ?_
  refine i_iloadN w own_d26_8 rfl (pc' := 9) rfl ?_
  refine i_iloadN w own_d26_9 rfl (pc' := 10) rfl ?_
  refine i_iloadN w own_d26_10 rfl (pc' := 11) rfl ?_
  refine i_isub w own_d26_11 (pc' := 12) rfl ?_
  refine i_icmp_le_Y w (by rw [own_sub0, lt_nat (by omega) (by omega)]; omega) own_d26_12 (pc' := 23) (by decide) ?_
  refine i_iloadN w own_d26_23 rfl (pc' := 24) rfl ?_
  exact i_retI w own_d26_24 rfl ⟨rfl, rfl⟩ (by decide) (by decide)
theorem own_d25_0 : decode jdk_42_method_157_code 0 = .ok (.iload_n 0, 1) := by decide +kernel
theorem own_d25_1 : decode jdk_42_method_157_code 1 = .ok (.iload_n 1, 1) := by decide +kernel
theorem own_d25_2 : decode jdk_42_method_157_code 2 = .ok (.iload_n 2, 1) := by decide +kernel
theorem own_d25_3 : decode jdk_42_method_157_code 3 = .ok (.getstatic 1053, 3) := by decide +kernel
theorem own_d25_6 : decode jdk_42_method_157_code 6 = .ok (.invokestatic 1065, 3) := by decide +kernel
theorem own_d25_9 : decode jdk_42_method_157_code 9 = .ok (.ireturn, 1) := by decide +kernel
theorem own_pd_pIIIqI : parseMethodDescriptor "(III)I" = some ⟨[.int, .int, .int], some .int⟩ := by decide +kernel
theorem own_ef_own_d25 (m : MethodId) (x0 : Int32) (x1 : Int32) (x2 : Int32) : entryFrame m #[(.int x0), (.int x1), (.int x2)] 3 = mkF m 0 #[.val (.int x0), .val (.int x1), .val (.int x2)] [] := by
  first | (simp [entryFrame, mkF, argsToLocals, Value.category]; done) | rfl
set_option maxRecDepth 65536 in
set_option maxHeartbeats 40000000 in
theorem own_sBOC (l : Launch) (Z : State) (a0 : Array Value) (hw : ∀ d ∈ tables_1, d.before a0 Z = true) (n mm : Nat) (G3 : Value) (hG3 : G3.isRef = true) (SF : Sta Z Z.heap "jdk/internal/util/Preconditions" "SIOOBE_FORMATTER" "Ljava/util/function/BiFunction;" G3) (h0 : Heap) (n0 : Nat) (O : Old Z n0 h0) (hn : n ≤ mm) (hm : mm < 65536) :
    Ctr l Z n0 (⟨"java/lang/String", "checkBoundsOffCount", "(III)I"⟩ : MethodName) jdk_42_method_157_code 3 (some .int) [] ({ frames := 1, cells := 0, slots := 0, locals := 15 } : Room) #[(.int (0 : Int32)), (.int (Int32.ofNat n)), (.int (Int32.ofNat mm))] h0 [] (fun v h => v = some (.int 0) ∧ h0 = h) := by
  refine enter (plainFor_of_name own_pn_java_lang_String) (fun m => own_ef_own_d25 m (0 : Int32) (Int32.ofNat n) (Int32.ofNat mm)) O (fun _ q => nomatch q) ?_
  intro p e s m below meth c T w
  refine i_iloadN w own_d25_0 rfl (pc' := 1) rfl ?_
  refine i_iloadN w own_d25_1 rfl (pc' := 2) rfl ?_
  refine i_iloadN w own_d25_2 rfl (pc' := 3) rfl ?_
  refine i_getS w own_d25_3 (hw _ (List.mem_of_getElem? (i := 111) rfl)) SF (pc' := 6) rfl ?_
  intro T80 w80
  refine c_static w80 (y := (⟨"jdk/internal/util/Preconditions", "checkFromIndexSize", "(IIILjava/util/function/BiFunction;)I"⟩ : MethodName)) (argsL := [(.int (0 : Int32)), (.int (Int32.ofNat n)), (.int (Int32.ofNat mm)), G3]) (st := []) own_d25_6 (hw _ (List.mem_of_getElem? (i := 113) rfl)) (hw _ (List.mem_of_getElem? (i := 114) rfl)) (hw _ (List.mem_of_getElem? (i := 112) rfl)) (hw _ (List.mem_of_getElem? (i := 115) rfl)) (by decide) own_pd_pIIILjava_util_function_BiFunctioneqI rfl (own_pSize l Z a0 hw n mm G3 h0 n0 w80.old hn hm hG3) rfl (by decide) (W := 0) (Nat.le_of_eq rfl) (by decide) (by decide) (by decide) (fun _ q => nomatch q) (pc' := 9) rfl ?_
  intro v81 T81 h81 w81 K81 q81
  obtain ⟨rfl, rfl⟩ := q81
  show Goes p e below _ T81 (mkF m 9 #[.val (.int (0 : Int32)), .val (.int (Int32.ofNat n)), .val (.int (Int32.ofNat mm))] [(.int (0 : Int32))])
  exact i_retI w81 own_d25_9 rfl ⟨rfl, rfl⟩ (by decide) (by decide)
theorem own_d23_0 : decode jdk_52_method_94_code 0 = .ok (.iload_n 0, 1) := by decide +kernel
theorem own_d23_1 : decode jdk_52_method_94_code 1 = .ok (.iload_n 1, 1) := by decide +kernel
theorem own_d23_2 : decode jdk_52_method_94_code 2 = .ok (.aload_n 2, 1) := by decide +kernel
theorem own_d23_3 : decode jdk_52_method_94_code 3 = .ok (.invokestatic 48, 3) := by decide +kernel
theorem own_d23_6 : decode jdk_52_method_94_code 6 = .ok (.invokestatic 419, 3) := by decide +kernel
theorem own_d23_9 : decode jdk_52_method_94_code 9 = .ok (.pop, 1) := by decide +kernel
theorem own_d23_10 : decode jdk_52_method_94_code 10 = .ok (.return_, 1) := by decide +kernel
theorem own_pd_pIIABqV : parseMethodDescriptor "(II[B)V" = some ⟨[.int, .int, (.array .byte)], none⟩ := by decide +kernel
theorem own_ef_own_d23 (m : MethodId) (x0 : Int32) (x1 : Int32) (x2 : Addr) : entryFrame m #[(.int x0), (.int x1), (.ref x2)] 3 = mkF m 0 #[.val (.int x0), .val (.int x1), .val (.ref x2)] [] := by
  first | (simp [entryFrame, mkF, argsToLocals, Value.category]; done) | rfl
set_option maxRecDepth 65536 in
set_option maxHeartbeats 40000000 in
theorem own_uBOC (l : Launch) (Z : State) (a0 : Array Value) (hw : ∀ d ∈ tables_1, d.before a0 Z = true) (n : Nat) (t : Addr) (ct : ClassId) (vs : List Value) (G3 : Value) (hG3 : G3.isRef = true) (SF : Sta Z Z.heap "jdk/internal/util/Preconditions" "SIOOBE_FORMATTER" "Ljava/util/function/BiFunction;" G3) (h0 : Heap) (n0 : Nat) (O : Old Z n0 h0) (At : Ary Z h0 t ct .byte vs) (hn : n ≤ vs.length / 2) (hv : vs.length < 65536) :
    Ctr l Z n0 (⟨"java/lang/StringUTF16", "checkBoundsOffCount", "(II[B)V"⟩ : MethodName) jdk_52_method_94_code 3 none [] ({ frames := 2, cells := 0, slots := 0, locals := 29 } : Room) #[(.int (0 : Int32)), (.int (Int32.ofNat n)), (.ref t)] h0 [] (fun v h => v = none ∧ h0 = h) := by
  refine enter (plainFor_of_name own_pn_java_lang_StringUTF16) (fun m => own_ef_own_d23 m (0 : Int32) (Int32.ofNat n) t) O (fun _ q => nomatch q) ?_
  intro p e s m below meth c T w
  refine i_iloadN w own_d23_0 rfl (pc' := 1) rfl ?_
  refine i_iloadN w own_d23_1 rfl (pc' := 2) rfl ?_
  refine i_aloadN w own_d23_2 rfl rfl (pc' := 3) rfl ?_
  refine c_static w (y := (⟨"java/lang/StringUTF16", "length", "([B)I"⟩ : MethodName)) (argsL := [(.ref t)]) (st := [(.int (Int32.ofNat n)), (.int (0 : Int32))]) own_d23_3 (hw _ (List.mem_of_getElem? (i := 105) rfl)) (hw _ (List.mem_of_getElem? (i := 106) rfl)) (hw _ (List.mem_of_getElem? (i := 32) rfl)) (hw _ (List.mem_of_getElem? (i := 107) rfl)) (by decide) own_pd_pABqI rfl (own_ulen l Z a0 hw t ct vs h0 n0 w.old At) rfl (by decide) (W := 2) (Nat.le_of_eq rfl) (by decide) (by decide) (by decide) (fun _ q => nomatch q) (pc' := 6) rfl ?_
  intro v82 T82 h82 w82 K82 q82
  obtain ⟨rfl, rfl⟩ := q82
  show Goes p e below _ T82 (mkF m 6 #[.val (.int (0 : Int32)), .val (.int (Int32.ofNat n)), .val (.ref t)] [(.int (Int32.ofNat (vs.length / 2))), (.int (Int32.ofNat n)), (.int (0 : Int32))])
  refine c_static w82 (y := (⟨"java/lang/String", "checkBoundsOffCount", "(III)I"⟩ : MethodName)) (argsL := [(.int (0 : Int32)), (.int (Int32.ofNat n)), (.int (Int32.ofNat (vs.length / 2)))]) (st := []) own_d23_6 (hw _ (List.mem_of_getElem? (i := 108) rfl)) (hw _ (List.mem_of_getElem? (i := 109) rfl)) (hw _ (List.mem_of_getElem? (i := 18) rfl)) (hw _ (List.mem_of_getElem? (i := 110) rfl)) (by decide) own_pd_pIIIqI rfl (own_sBOC l Z a0 hw n (vs.length / 2) G3 hG3 SF h0 n0 w82.old hn (by omega)) rfl (by decide) (W := 0) (Nat.le_of_eq rfl) (by decide) (by decide) (by decide) (fun _ q => nomatch q) (pc' := 9) rfl ?_
  intro v83 T83 h83 w83 K83 q83
  obtain ⟨rfl, rfl⟩ := q83
  show Goes p e below _ T83 (mkF m 9 #[.val (.int (0 : Int32)), .val (.int (Int32.ofNat n)), .val (.ref t)] [(.int (0 : Int32))])
  refine i_pop w83 own_d23_9 rfl (pc' := 10) rfl ?_
  exact i_ret0 w83 own_d23_10 rfl ⟨rfl, rfl⟩ (by decide) (by decide)
theorem own_d34_0 : decode jdk_52_method_86_code 0 = .ok (.iload_n 3, 1) := by decide +kernel
theorem own_d34_1 : decode jdk_52_method_86_code 1 = .ok (.iload 4, 2) := by decide +kernel
theorem own_d34_3 : decode jdk_52_method_86_code 3 = .ok (.aload_n 2, 1) := by decide +kernel
theorem own_d34_4 : decode jdk_52_method_86_code 4 = .ok (.invokestatic 173, 3) := by decide +kernel
theorem own_d34_7 : decode jdk_52_method_86_code 7 = .ok (.iconst 0, 1) := by decide +kernel
theorem own_d34_8 : decode jdk_52_method_86_code 8 = .ok (.istore 5, 2) := by decide +kernel
theorem own_d34_10 : decode jdk_52_method_86_code 10 = .ok (.iload 5, 2) := by decide +kernel
theorem own_d34_12 : decode jdk_52_method_86_code 12 = .ok (.iload 4, 2) := by decide +kernel
theorem own_d34_14 : decode jdk_52_method_86_code 14 = .ok (.if_icmp .ge 27, 3) := by decide +kernel
theorem own_d34_17 : decode jdk_52_method_86_code 17 = .ok (.aload_n 2, 1) := by decide +kernel
theorem own_d34_18 : decode jdk_52_method_86_code 18 = .ok (.iload_n 3, 1) := by decide +kernel
theorem own_d34_19 : decode jdk_52_method_86_code 19 = .ok (.iinc 3 1, 3) := by decide +kernel
theorem own_d34_22 : decode jdk_52_method_86_code 22 = .ok (.aload_n 0, 1) := by decide +kernel
theorem own_d34_23 : decode jdk_52_method_86_code 23 = .ok (.iload_n 1, 1) := by decide +kernel
theorem own_d34_24 : decode jdk_52_method_86_code 24 = .ok (.iinc 1 1, 3) := by decide +kernel
theorem own_d34_27 : decode jdk_52_method_86_code 27 = .ok (.baload, 1) := by decide +kernel
theorem own_d34_28 : decode jdk_52_method_86_code 28 = .ok (.sipush 255, 3) := by decide +kernel
theorem own_d34_31 : decode jdk_52_method_86_code 31 = .ok (.iand, 1) := by decide +kernel
theorem own_d34_32 : decode jdk_52_method_86_code 32 = .ok (.invokestatic 111, 3) := by decide +kernel
theorem own_d34_35 : decode jdk_52_method_86_code 35 = .ok (.iinc 5 1, 3) := by decide +kernel
theorem own_d34_38 : decode jdk_52_method_86_code 38 = .ok (.goto (-28), 3) := by decide +kernel
theorem own_d34_41 : decode jdk_52_method_86_code 41 = .ok (.return_, 1) := by decide +kernel
set_option maxRecDepth 65536 in
set_option maxHeartbeats 40000000 in
theorem own_uInfl_loop (l : Launch) (Z : State) (a0 : Array Value) (hw : ∀ d ∈ tables_1, d.before a0 Z = true) (t u : Addr) (ct cu : ClassId) (cs : List Nat) (SA : Sta Z Z.heap "java/lang/StringUTF16" "$assertionsDisabled" "Z" (.int 1)) (SHi : Sta Z Z.heap "java/lang/StringUTF16" "HI_BYTE_SHIFT" "I" (.int 0)) (SLo : Sta Z Z.heap "java/lang/StringUTF16" "LO_BYTE_SHIFT" "I" (.int 8)) (h0 : Heap) (n0 : Nat) (hu : n0 ≤ u) (htu : t ≠ u) (hL : ∀ c ∈ cs, c < 256) (hn : cs.length ≤ 16) {p : Program} {e : Env} {s : State} {m : MethodId} {args : Array Value} {below : List Frame} {meth : Method} {c : Code} :
    ∀ (j i : Nat) (T : State) (h : Heap), i + j = cs.length → Wk p l e ({ frames := 3, cells := 0, slots := 0, locals := 47 } : Room) s m args below meth c Z "java/lang/StringUTF16" jdk_52_method_86_code 6 none "inflate" n0 h0 [u] T h 0 0 → (Ary Z h t ct .byte (lat cs ++ List.replicate (16 - cs.length) (Value.int 0))) → (Ary Z h u cu .byte (wid (cs.take i) ++ List.replicate (32 - 2 * i) (Value.int 0))) → 
      Goes p e below (PN s n0 h0 [u] (fun v h => v = none ∧ Ary Z h u cu .byte (wid cs ++ List.replicate (32 - 2 * cs.length) (Value.int 0))) 0 0) T (mkF m 10 #[.val (.ref t), .val (.int (Int32.ofNat i)), .val (.ref u), .val (.int (Int32.ofNat i)), .val (.int (Int32.ofNat cs.length)), .val (.int (Int32.ofNat i))] []) := by
  intro j
  induction j with
  | zero =>
    intro i T h hij w At Au
    refine i_iload w own_d34_10 rfl (pc' := 12) rfl ?_
    refine i_iload w own_d34_12 rfl (pc' := 14) rfl ?_
    refine i_icmp_ge_Y w (by rw [show i = cs.length by omega]; exact Int32.lt_irrefl) own_d34_14 (pc' := 41) (by decide) ?_
    exact i_ret0 w own_d34_41 rfl ⟨rfl, by rw [show i = cs.length by omega, List.take_length] at Au; exact Au⟩ (by decide) (by decide)
  | succ j ih =>
    intro i T h hij w At Au
    obtain ⟨ci, hci⟩ : ∃ ci, cs[i]? = some ci := ⟨_, List.getElem?_eq_getElem (by omega)⟩
    have hcb : ci < 256 := hL ci (List.mem_of_getElem? hci)
    refine i_iload w own_d34_10 rfl (pc' := 12) rfl ?_
    refine i_iload w own_d34_12 rfl (pc' := 14) rfl ?_
    refine i_icmp_ge_N w ((lt_nat (by omega) (by omega)).mpr (by omega)) own_d34_14 (pc' := 17) rfl ?_
    refine i_aloadN w own_d34_17 rfl rfl (pc' := 18) rfl ?_
    refine i_iloadN w own_d34_18 rfl (pc' := 19) rfl ?_
    refine i_iinc w own_d34_19 rfl (z := (Int32.ofNat (i + 1))) (inc_nat i) (l' := #[.val (.ref t), .val (.int (Int32.ofNat i)), .val (.ref u), .val (.int (Int32.ofNat (i + 1))), .val (.int (Int32.ofNat cs.length)), .val (.int (Int32.ofNat i))]) rfl (pc' := 22) rfl ?_
    refine i_aloadN w own_d34_22 rfl rfl (pc' := 23) rfl ?_
    refine i_iloadN w own_d34_23 rfl (pc' := 24) rfl ?_
    refine i_iinc w own_d34_24 rfl (z := (Int32.ofNat (i + 1))) (inc_nat i) (l' := #[.val (.ref t), .val (.int (Int32.ofNat (i + 1))), .val (.ref u), .val (.int (Int32.ofNat (i + 1))), .val (.int (Int32.ofNat cs.length)), .val (.int (Int32.ofNat i))]) rfl (pc' := 27) rfl ?_
    refine i_baload w own_d34_27 At rfl (by rw [List.getElem?_append_left (by rw [lat_len]; omega)]; exact lat_at hci) (pc' := 28) rfl ?_
    refine i_sipush w own_d34_28 (z := (255 : Int32)) (by decide) (pc' := 31) rfl ?_
    refine i_iand w own_d34_31 (pc' := 32) rfl ?_
    rw [bv_mask, Nat.mod_eq_of_lt hcb]
    show Goes p e below _ T (mkF m 32 #[.val (.ref t), .val (.int (Int32.ofNat (i + 1))), .val (.ref u), .val (.int (Int32.ofNat (i + 1))), .val (.int (Int32.ofNat cs.length)), .val (.int (Int32.ofNat i))] [(.int (Int32.ofNat ci)), (.int (Int32.ofNat i)), (.ref u)])
    refine c_static w (y := (⟨"java/lang/StringUTF16", "putChar", "([BII)V"⟩ : MethodName)) (argsL := [(.ref u), (.int (Int32.ofNat i)), (.int (Int32.ofNat ci))]) (st := []) own_d34_32 (hw _ (List.mem_of_getElem? (i := 48) rfl)) (hw _ (List.mem_of_getElem? (i := 49) rfl)) (hw _ (List.mem_of_getElem? (i := 32) rfl)) (hw _ (List.mem_of_getElem? (i := 50) rfl)) (by decide) own_pd_pABIIqV rfl (own_putChar l Z a0 hw u cu (wid (cs.take i) ++ List.replicate (32 - 2 * i) (Value.int 0)) i ci SA SHi SLo h n0 w.old hu (by omega) (by simp [wid_len]; omega) Au) rfl (by decide) (W := 0) (Nat.le_of_eq rfl) (by decide) (by decide) (by decide) (allS (Or.inl (List.mem_singleton.mpr rfl)) all0) (pc' := 35) rfl ?_
    intro v84 T84 h84 w84 K84 q84
    obtain ⟨rfl, Au1⟩ := q84
    show Goes p e below _ T84 (mkF m 35 #[.val (.ref t), .val (.int (Int32.ofNat (i + 1))), .val (.ref u), .val (.int (Int32.ofNat (i + 1))), .val (.int (Int32.ofNat cs.length)), .val (.int (Int32.ofNat i))] [])
    rw [own_wputT hci (by omega)] at Au1
    have At1 := At.keep K84 (ninS htu nin0)
    refine i_iinc w84 own_d34_35 rfl (z := (Int32.ofNat (i + 1))) (inc_nat i) (l' := #[.val (.ref t), .val (.int (Int32.ofNat (i + 1))), .val (.ref u), .val (.int (Int32.ofNat (i + 1))), .val (.int (Int32.ofNat cs.length)), .val (.int (Int32.ofNat (i + 1)))]) rfl (pc' := 38) rfl ?_
    refine i_goto w84 own_d34_38 (pc' := 10) (by decide) ?_
    exact ih (i + 1) T84 h84 (by omega) (w84.mono (by decide) (by decide)) At1 Au1
theorem own_pd_pABIABIIqV : parseMethodDescriptor "([BI[BII)V" = some ⟨[(.array .byte), .int, (.array .byte), .int, .int], none⟩ := by decide +kernel
theorem own_ef_own_d34 (m : MethodId) (x0 : Addr) (x1 : Int32) (x2 : Addr) (x3 : Int32) (x4 : Int32) : entryFrame m #[(.ref x0), (.int x1), (.ref x2), (.int x3), (.int x4)] 6 = mkF m 0 #[.val (.ref x0), .val (.int x1), .val (.ref x2), .val (.int x3), .val (.int x4), .unset] [] := by
  first | (simp [entryFrame, mkF, argsToLocals, Value.category]; done) | rfl
set_option maxRecDepth 65536 in
set_option maxHeartbeats 40000000 in
theorem own_uInfl (l : Launch) (Z : State) (a0 : Array Value) (hw : ∀ d ∈ tables_1, d.before a0 Z = true) (t u : Addr) (ct cu : ClassId) (cs : List Nat) (SA : Sta Z Z.heap "java/lang/StringUTF16" "$assertionsDisabled" "Z" (.int 1)) (SHi : Sta Z Z.heap "java/lang/StringUTF16" "HI_BYTE_SHIFT" "I" (.int 0)) (SLo : Sta Z Z.heap "java/lang/StringUTF16" "LO_BYTE_SHIFT" "I" (.int 8)) (G3 : Value) (hG3 : G3.isRef = true) (SF : Sta Z Z.heap "jdk/internal/util/Preconditions" "SIOOBE_FORMATTER" "Ljava/util/function/BiFunction;" G3) (h0 : Heap) (n0 : Nat) (O : Old Z n0 h0) (hu : n0 ≤ u) (htu : t ≠ u) (hL : ∀ c ∈ cs, c < 256) (hn : cs.length ≤ 16) (At : Ary Z h0 t ct .byte (lat cs ++ List.replicate (16 - cs.length) (Value.int 0))) (Au : Ary Z h0 u cu .byte (List.replicate 32 (Value.int 0))) :
    Ctr l Z n0 (⟨"java/lang/StringUTF16", "inflate", "([BI[BII)V"⟩ : MethodName) jdk_52_method_86_code 6 none [] ({ frames := 3, cells := 0, slots := 0, locals := 47 } : Room) #[(.ref t), (.int (0 : Int32)), (.ref u), (.int (0 : Int32)), (.int (Int32.ofNat cs.length))] h0 [u] (fun v h => v = none ∧ Ary Z h u cu .byte (wid cs ++ List.replicate (32 - 2 * cs.length) (Value.int 0))) := by
  refine enter (plainFor_of_name own_pn_java_lang_StringUTF16) (fun m => own_ef_own_d34 m t (0 : Int32) u (0 : Int32) (Int32.ofNat cs.length)) O (allS hu all0) ?_
  intro p e s m below meth c T w
  refine i_iloadN w own_d34_0 rfl (pc' := 1) rfl ?_
  refine i_iload w own_d34_1 rfl (pc' := 3) rfl ?_
  refine i_aloadN w own_d34_3 rfl rfl (pc' := 4) rfl ?_
  refine c_static w (y := (⟨"java/lang/StringUTF16", "checkBoundsOffCount", "(II[B)V"⟩ : MethodName)) (argsL := [(.int (0 : Int32)), (.int (Int32.ofNat cs.length)), (.ref u)]) (st := []) own_d34_4 (hw _ (List.mem_of_getElem? (i := 102) rfl)) (hw _ (List.mem_of_getElem? (i := 103) rfl)) (hw _ (List.mem_of_getElem? (i := 32) rfl)) (hw _ (List.mem_of_getElem? (i := 104) rfl)) (by decide) own_pd_pIIABqV rfl (own_uBOC l Z a0 hw cs.length u cu (List.replicate 32 (Value.int 0)) G3 hG3 SF h0 n0 w.old Au (by simp; omega) (by simp)) rfl (by decide) (W := 0) (Nat.le_of_eq rfl) (by decide) (by decide) (by decide) (fun _ q => nomatch q) (pc' := 7) rfl ?_
  intro v86 T86 h86 w86 K86 q86
  obtain ⟨rfl, rfl⟩ := q86
  show Goes p e below _ T86 (mkF m 7 #[.val (.ref t), .val (.int (0 : Int32)), .val (.ref u), .val (.int (0 : Int32)), .val (.int (Int32.ofNat cs.length)), .unset] [])
  refine i_iconst w86 own_d34_7 (z := (0 : Int32)) (by decide) (pc' := 8) rfl ?_
  refine i_istore w86 own_d34_8 (l' := #[.val (.ref t), .val (.int (0 : Int32)), .val (.ref u), .val (.int (0 : Int32)), .val (.int (Int32.ofNat cs.length)), .val (.int (0 : Int32))]) rfl (pc' := 10) rfl ?_
  exact own_uInfl_loop l Z a0 hw t u ct cu cs SA SHi SLo h0 n0 hu htu hL hn cs.length 0 T86 h0 (by omega) w86 At Au
theorem own_d33_0 : decode jdk_43_method_50_code 0 = .ok (.aload_n 0, 1) := by decide +kernel
theorem own_d33_1 : decode jdk_43_method_50_code 1 = .ok (.iload_n 1, 1) := by decide +kernel
theorem own_d33_2 : decode jdk_43_method_50_code 2 = .ok (.aload_n 2, 1) := by decide +kernel
theorem own_d33_3 : decode jdk_43_method_50_code 3 = .ok (.iload_n 3, 1) := by decide +kernel
theorem own_d33_4 : decode jdk_43_method_50_code 4 = .ok (.iload 4, 2) := by decide +kernel
theorem own_d33_6 : decode jdk_43_method_50_code 6 = .ok (.invokestatic 240, 3) := by decide +kernel
theorem own_d33_9 : decode jdk_43_method_50_code 9 = .ok (.return_, 1) := by decide +kernel
theorem own_ef_own_d33 (m : MethodId) (x0 : Addr) (x1 : Int32) (x2 : Addr) (x3 : Int32) (x4 : Int32) : entryFrame m #[(.ref x0), (.int x1), (.ref x2), (.int x3), (.int x4)] 5 = mkF m 0 #[.val (.ref x0), .val (.int x1), .val (.ref x2), .val (.int x3), .val (.int x4)] [] := by
  first | (simp [entryFrame, mkF, argsToLocals, Value.category]; done) | rfl
set_option maxRecDepth 65536 in
set_option maxHeartbeats 40000000 in
theorem own_lInfl (l : Launch) (Z : State) (a0 : Array Value) (hw : ∀ d ∈ tables_1, d.before a0 Z = true) (t u : Addr) (ct cu : ClassId) (cs : List Nat) (SA : Sta Z Z.heap "java/lang/StringUTF16" "$assertionsDisabled" "Z" (.int 1)) (SHi : Sta Z Z.heap "java/lang/StringUTF16" "HI_BYTE_SHIFT" "I" (.int 0)) (SLo : Sta Z Z.heap "java/lang/StringUTF16" "LO_BYTE_SHIFT" "I" (.int 8)) (G3 : Value) (hG3 : G3.isRef = true) (SF : Sta Z Z.heap "jdk/internal/util/Preconditions" "SIOOBE_FORMATTER" "Ljava/util/function/BiFunction;" G3) (h0 : Heap) (n0 : Nat) (O : Old Z n0 h0) (hu : n0 ≤ u) (htu : t ≠ u) (hL : ∀ c ∈ cs, c < 256) (hn : cs.length ≤ 16) (At : Ary Z h0 t ct .byte (lat cs ++ List.replicate (16 - cs.length) (Value.int 0))) (Au : Ary Z h0 u cu .byte (List.replicate 32 (Value.int 0))) :
    Ctr l Z n0 (⟨"java/lang/StringLatin1", "inflate", "([BI[BII)V"⟩ : MethodName) jdk_43_method_50_code 5 none [] ({ frames := 4, cells := 0, slots := 0, locals := 64 } : Room) #[(.ref t), (.int (0 : Int32)), (.ref u), (.int (0 : Int32)), (.int (Int32.ofNat cs.length))] h0 [u] (fun v h => v = none ∧ Ary Z h u cu .byte (wid cs ++ List.replicate (32 - 2 * cs.length) (Value.int 0))) := by
  refine enter (plainFor_of_name own_pn_java_lang_StringLatin1) (fun m => own_ef_own_d33 m t (0 : Int32) u (0 : Int32) (Int32.ofNat cs.length)) O (allS hu all0) ?_
  intro p e s m below meth c T w
  refine i_aloadN w own_d33_0 rfl rfl (pc' := 1) rfl ?_
  refine i_iloadN w own_d33_1 rfl (pc' := 2) rfl ?_
  refine i_aloadN w own_d33_2 rfl rfl (pc' := 3) rfl ?_
  refine i_iloadN w own_d33_3 rfl (pc' := 4) rfl ?_
  refine i_iload w own_d33_4 rfl (pc' := 6) rfl ?_
  refine c_static w (y := (⟨"java/lang/StringUTF16", "inflate", "([BI[BII)V"⟩ : MethodName)) (argsL := [(.ref t), (.int (0 : Int32)), (.ref u), (.int (0 : Int32)), (.int (Int32.ofNat cs.length))]) (st := []) own_d33_6 (hw _ (List.mem_of_getElem? (i := 151) rfl)) (hw _ (List.mem_of_getElem? (i := 152) rfl)) (hw _ (List.mem_of_getElem? (i := 32) rfl)) (hw _ (List.mem_of_getElem? (i := 153) rfl)) (by decide) own_pd_pABIABIIqV rfl (own_uInfl l Z a0 hw t u ct cu cs SA SHi SLo G3 hG3 SF h0 n0 w.old hu htu hL hn At Au) rfl (by decide) (W := 0) (Nat.le_of_eq rfl) (by decide) (by decide) (by decide) (allS (Or.inl (List.mem_singleton.mpr rfl)) all0) (pc' := 9) rfl ?_
  intro v87 T87 h87 w87 K87 q87
  obtain ⟨rfl, Au1⟩ := q87
  show Goes p e below _ T87 (mkF m 9 #[.val (.ref t), .val (.int (0 : Int32)), .val (.ref u), .val (.int (0 : Int32)), .val (.int (Int32.ofNat cs.length))] [])
  exact i_ret0 w87 own_d33_9 rfl ⟨rfl, Au1⟩ (by decide) (by decide)
theorem own_d32_0 : decode jdk_68_method_11_code 0 = .ok (.aload_n 0, 1) := by decide +kernel
theorem own_d32_1 : decode jdk_68_method_11_code 1 = .ok (.invokevirtual 83, 3) := by decide +kernel
theorem own_d32_4 : decode jdk_68_method_11_code 4 = .ok (.ifCond .ne 4, 3) := by decide +kernel
theorem own_d32_7 : decode jdk_68_method_11_code 7 = .ok (.return_, 1) := by decide +kernel
theorem own_d32_8 : decode jdk_68_method_11_code 8 = .ok (.aload_n 0, 1) := by decide +kernel
theorem own_d32_9 : decode jdk_68_method_11_code 9 = .ok (.getfield 15, 3) := by decide +kernel
theorem own_d32_12 : decode jdk_68_method_11_code 12 = .ok (.arraylength, 1) := by decide +kernel
theorem own_d32_13 : decode jdk_68_method_11_code 13 = .ok (.invokestatic 26, 3) := by decide +kernel
theorem own_d32_16 : decode jdk_68_method_11_code 16 = .ok (.astore_n 1, 1) := by decide +kernel
theorem own_d32_17 : decode jdk_68_method_11_code 17 = .ok (.aload_n 0, 1) := by decide +kernel
theorem own_d32_18 : decode jdk_68_method_11_code 18 = .ok (.getfield 15, 3) := by decide +kernel
theorem own_d32_21 : decode jdk_68_method_11_code 21 = .ok (.iconst 0, 1) := by decide +kernel
theorem own_d32_22 : decode jdk_68_method_11_code 22 = .ok (.aload_n 1, 1) := by decide +kernel
theorem own_d32_23 : decode jdk_68_method_11_code 23 = .ok (.iconst 0, 1) := by decide +kernel
theorem own_d32_24 : decode jdk_68_method_11_code 24 = .ok (.aload_n 0, 1) := by decide +kernel
theorem own_d32_25 : decode jdk_68_method_11_code 25 = .ok (.getfield 79, 3) := by decide +kernel
theorem own_d32_28 : decode jdk_68_method_11_code 28 = .ok (.invokestatic 125, 3) := by decide +kernel
theorem own_d32_31 : decode jdk_68_method_11_code 31 = .ok (.aload_n 0, 1) := by decide +kernel
theorem own_d32_32 : decode jdk_68_method_11_code 32 = .ok (.aload_n 1, 1) := by decide +kernel
theorem own_d32_33 : decode jdk_68_method_11_code 33 = .ok (.putfield 15, 3) := by decide +kernel
theorem own_d32_36 : decode jdk_68_method_11_code 36 = .ok (.aload_n 0, 1) := by decide +kernel
theorem own_d32_37 : decode jdk_68_method_11_code 37 = .ok (.iconst 1, 1) := by decide +kernel
theorem own_d32_38 : decode jdk_68_method_11_code 38 = .ok (.putfield 22, 3) := by decide +kernel
theorem own_d32_41 : decode jdk_68_method_11_code 41 = .ok (.return_, 1) := by decide +kernel
theorem own_ef_own_d32 (m : MethodId) (x0 : Addr) : entryFrame m #[(.ref x0)] 2 = mkF m 0 #[.val (.ref x0), .unset] [] := by
  first | (simp [entryFrame, mkF, argsToLocals, Value.category]; done) | rfl
set_option maxRecDepth 65536 in
set_option maxHeartbeats 40000000 in
theorem own_infl (l : Launch) (Z : State) (a0 : Array Value) (hw : ∀ d ∈ tables_1, d.before a0 Z = true) (sb t : Addr) (ct : ClassId) (cs : List Nat) (G1 : Int32) (hG : ¬ G1 = 0) (SG : Sta Z Z.heap "java/lang/String" "COMPACT_STRINGS" "Z" (.int G1)) (SA : Sta Z Z.heap "java/lang/StringUTF16" "$assertionsDisabled" "Z" (.int 1)) (SHi : Sta Z Z.heap "java/lang/StringUTF16" "HI_BYTE_SHIFT" "I" (.int 0)) (SLo : Sta Z Z.heap "java/lang/StringUTF16" "LO_BYTE_SHIFT" "I" (.int 8)) (G3 : Value) (hG3 : G3.isRef = true) (SF : Sta Z Z.heap "jdk/internal/util/Preconditions" "SIOOBE_FORMATTER" "Ljava/util/function/BiFunction;" G3) (h0 : Heap) (n0 : Nat) (O : Old Z n0 h0) (ha : n0 ≤ sb) (S : SBn Z h0 sb t ct cs) :
    Ctr l Z n0 (⟨"java/lang/AbstractStringBuilder", "inflate", "()V"⟩ : MethodName) jdk_68_method_11_code 2 none [] ({ frames := 5, cells := 1, slots := 32, locals := 80 } : Room) #[(.ref sb)] h0 [sb] (fun v h => v = none ∧ ∃ u cu, h0.size ≤ u ∧ SBw Z h sb u cu cs) := by
  refine enter (plainFor_of_name own_pn_java_lang_AbstractStringBuilder) (fun m => own_ef_own_d32 m sb) O (allS ha all0) ?_
  intro p e s m below meth c T w
  refine i_aloadN w own_d32_0 rfl rfl (pc' := 1) rfl ?_
  refine c_virtual w (y := (⟨"java/lang/AbstractStringBuilder", "isLatin1", "()Z"⟩ : MethodName)) (C := "java/lang/StringBuilder") (a := sb) (argsL := []) (st := []) own_d32_1 (hw _ (List.mem_of_getElem? (i := 133) rfl)) (hw _ (List.mem_of_getElem? (i := 134) rfl)) (hw _ (List.mem_of_getElem? (i := 136) rfl)) (hw _ (List.mem_of_getElem? (i := 135) rfl)) (hw _ (List.mem_of_getElem? (i := 137) rfl)) (hw _ (List.mem_of_getElem? (i := 78) rfl)) (by decide) own_pd_pqZ rfl S.1 (own_abLatn l Z a0 hw sb t ct cs G1 hG SG h0 n0 w.old S) rfl (by decide) (W := 0) (Nat.le_of_eq rfl) (by decide) (by decide) (by decide) (fun _ q => nomatch q) (pc' := 4) rfl ?_
  intro v89 T89 h89 w89 K89 q89
  obtain ⟨rfl, rfl⟩ := q89
  show Goes p e below _ T89 (mkF m 4 #[.val (.ref sb), .unset] [(.int (1 : Int32))])
  refine i_if_ne_Y w89 (by decide) own_d32_4 (pc' := 8) (by decide) ?_
  refine i_aloadN w89 own_d32_8 rfl rfl (pc' := 9) rfl ?_
  refine i_getF w89 own_d32_9 (hw _ (List.mem_of_getElem? (i := 82) rfl)) S.2.1 (pc' := 12) rfl ?_
  intro T90 w90
  refine i_len w90 own_d32_12 S.2.2.2.2.2.1 (z := Int32.ofNat 16) (by rw [own_lenn S.2.2.2.2.2.2.1]) (pc' := 13) rfl ?_
  refine c_static w90 (y := (⟨"java/lang/StringUTF16", "newBytesFor", "(I)[B"⟩ : MethodName)) (argsL := [(.int (Int32.ofNat 16))]) (st := []) own_d32_13 (hw _ (List.mem_of_getElem? (i := 147) rfl)) (hw _ (List.mem_of_getElem? (i := 42) rfl)) (hw _ (List.mem_of_getElem? (i := 32) rfl)) (hw _ (List.mem_of_getElem? (i := 43) rfl)) (by decide) own_pd_pIqAB rfl (own_nbFor l Z a0 hw 16 h0 n0 w90.old (by decide)) rfl (by decide) (W := 0) (Nat.le_of_eq rfl) (by decide) (by decide) (by decide) (fun _ q => nomatch q) (pc' := 16) rfl ?_
  intro v91 T91 h91 w91 K91 q91
  obtain ⟨u, cu, rfl, zu, Au⟩ := q91
  show Goes p e below _ T91 (mkF m 16 #[.val (.ref sb), .unset] [(.ref u)])
  have S1 := S.keep K91 nin0 nin0
  have ltu : t < u := Nat.lt_of_lt_of_le S.ltT zu
  have lsu : sb < u := Nat.lt_of_lt_of_le S.lt zu
  refine i_astoreN w91 own_d32_16 rfl (l' := #[.val (.ref sb), .val (.ref u)]) rfl (pc' := 17) rfl ?_
  refine i_aloadN w91 own_d32_17 rfl rfl (pc' := 18) rfl ?_
  refine i_getF w91 own_d32_18 (hw _ (List.mem_of_getElem? (i := 82) rfl)) S1.2.1 (pc' := 21) rfl ?_
  intro T93 w93
  refine i_iconst w93 own_d32_21 (z := (0 : Int32)) (by decide) (pc' := 22) rfl ?_
  refine i_aloadN w93 own_d32_22 rfl rfl (pc' := 23) rfl ?_
  refine i_iconst w93 own_d32_23 (z := (0 : Int32)) (by decide) (pc' := 24) rfl ?_
  refine i_aloadN w93 own_d32_24 rfl rfl (pc' := 25) rfl ?_
  refine i_getF w93 own_d32_25 (hw _ (List.mem_of_getElem? (i := 126) rfl)) S1.2.2.2.1 (pc' := 28) rfl ?_
  intro T94 w94
  refine c_static w94 (y := (⟨"java/lang/StringLatin1", "inflate", "([BI[BII)V"⟩ : MethodName)) (argsL := [(.ref t), (.int (0 : Int32)), (.ref u), (.int (0 : Int32)), (.int (Int32.ofNat cs.length))]) (st := []) own_d32_28 (hw _ (List.mem_of_getElem? (i := 148) rfl)) (hw _ (List.mem_of_getElem? (i := 149) rfl)) (hw _ (List.mem_of_getElem? (i := 140) rfl)) (hw _ (List.mem_of_getElem? (i := 150) rfl)) (by decide) own_pd_pABIABIIqV rfl (own_lInfl l Z a0 hw t u ct cu cs SA SHi SLo G3 hG3 SF h91 n0 w94.old (Nat.le_trans w94.n0h0 zu) (Nat.ne_of_lt ltu) S.2.2.2.2.2.2.2 S.2.2.2.2.2.2.1 S1.2.2.2.2.2.1 Au) rfl (by decide) (W := 0) (Nat.le_of_eq rfl) (by decide) (by decide) (by decide) (allS (Or.inr zu) all0) (pc' := 31) rfl ?_
  intro v95 T95 h95 w95 K95 q95
  obtain ⟨rfl, Au1⟩ := q95
  show Goes p e below _ T95 (mkF m 31 #[.val (.ref sb), .val (.ref u)] [])
  have Fv1 := S1.2.1.keep K95 (ninS (Nat.ne_of_lt lsu) nin0)
  have Fc1 := S1.2.2.1.keep K95 (ninS (Nat.ne_of_lt lsu) nin0)
  have Fn1 := S1.2.2.2.1.keep K95 (ninS (Nat.ne_of_lt lsu) nin0)
  have Fm1 := S1.2.2.2.2.1.keep K95 (ninS (Nat.ne_of_lt lsu) nin0)
  have Ea1 := S1.1.keep K95
  refine i_aloadN w95 own_d32_31 rfl rfl (pc' := 32) rfl ?_
  refine i_aloadN w95 own_d32_32 rfl rfl (pc' := 33) rfl ?_
  refine i_putF w95 own_d32_33 (hw _ (List.mem_of_getElem? (i := 82) rfl)) Fv1 Ea1 (Or.inl (hw _ (List.mem_of_getElem? (i := 83) rfl))) (hw _ (List.mem_of_getElem? (i := 69) rfl)) (ty := (.array .byte)) (by decide) rfl rfl (Or.inl (List.mem_singleton.mpr rfl)) (pc' := 36) rfl ?_
  intro T97 h97 w97 W97
  show Goes p e below _ T97 (mkF m 36 #[.val (.ref sb), .val (.ref u)] [])
  have Fv2 := Fld.same W97 Fv1
  have Fc2 := Fc1.other W97 (Or.inr (slot_ne (Or.inl (hw _ (List.mem_of_getElem? (i := 85) rfl))) (Or.inl (hw _ (List.mem_of_getElem? (i := 83) rfl))) (by decide) (t := .byte) (t' := (.array .byte)) (by decide) (by decide)))
  have Fn2 := Fn1.other W97 (Or.inr (slot_ne (Or.inl (hw _ (List.mem_of_getElem? (i := 127) rfl))) (Or.inl (hw _ (List.mem_of_getElem? (i := 83) rfl))) (by decide) (t := .int) (t' := (.array .byte)) (by decide) (by decide)))
  have Fm2 := Fm1.other W97 (Or.inr (slot_ne (Or.inl (hw _ (List.mem_of_getElem? (i := 193) rfl))) (Or.inl (hw _ (List.mem_of_getElem? (i := 83) rfl))) (by decide) (t := .boolean) (t' := (.array .byte)) (by decide) (by decide)))
  have Ea2 := Ea1.wr W97
  have Au2 := Au1.other W97 (Nat.ne_of_gt lsu)
  refine i_aloadN w97 own_d32_36 rfl rfl (pc' := 37) rfl ?_
  refine i_iconst w97 own_d32_37 (z := (1 : Int32)) (by decide) (pc' := 38) rfl ?_
  refine i_putF w97 own_d32_38 (hw _ (List.mem_of_getElem? (i := 84) rfl)) Fc2 Ea2 (Or.inl (hw _ (List.mem_of_getElem? (i := 85) rfl))) (hw _ (List.mem_of_getElem? (i := 69) rfl)) (ty := .byte) (by decide) rfl rfl (Or.inl (List.mem_singleton.mpr rfl)) (pc' := 41) rfl ?_
  intro T98 h98 w98 W98
  show Goes p e below _ T98 (mkF m 41 #[.val (.ref sb), .val (.ref u)] [])
  have Fc3 := Fld.same W98 Fc2
  have Fv3 := Fv2.other W98 (Or.inr (slot_ne (Or.inl (hw _ (List.mem_of_getElem? (i := 83) rfl))) (Or.inl (hw _ (List.mem_of_getElem? (i := 85) rfl))) (by decide) (t := (.array .byte)) (t' := .byte) (by decide) (by decide)))
  have Fn3 := Fn2.other W98 (Or.inr (slot_ne (Or.inl (hw _ (List.mem_of_getElem? (i := 127) rfl))) (Or.inl (hw _ (List.mem_of_getElem? (i := 85) rfl))) (by decide) (t := .int) (t' := .byte) (by decide) (by decide)))
  have Fm3 := Fm2.other W98 (Or.inr (slot_ne (Or.inl (hw _ (List.mem_of_getElem? (i := 193) rfl))) (Or.inl (hw _ (List.mem_of_getElem? (i := 85) rfl))) (by decide) (t := .boolean) (t' := .byte) (by decide) (by decide)))
  have Ea3 := Ea2.wr W98
  have Au3 := Au2.other W98 (Nat.ne_of_gt lsu)
  exact i_ret0 w98 own_d32_41 rfl ⟨rfl, u, cu, zu, Ea3, Fv3, Fc3, Fn3, Fm3, Au3, S.2.2.2.2.2.2.1, fun c hc => Nat.lt_trans (S.2.2.2.2.2.2.2 c hc) (by omega)⟩ (by decide) (by decide)
theorem own_d28_0 : decode jdk_68_method_31_code 0 = .ok (.aload_n 0, 1) := by decide +kernel
theorem own_d28_1 : decode jdk_68_method_31_code 1 = .ok (.aload_n 0, 1) := by decide +kernel
theorem own_d28_2 : decode jdk_68_method_31_code 2 = .ok (.getfield 79, 3) := by decide +kernel
theorem own_d28_5 : decode jdk_68_method_31_code 5 = .ok (.iconst 1, 1) := by decide +kernel
theorem own_d28_6 : decode jdk_68_method_31_code 6 = .ok (.iadd, 1) := by decide +kernel
theorem own_d28_7 : decode jdk_68_method_31_code 7 = .ok (.invokevirtual 100, 3) := by decide +kernel
theorem own_d28_10 : decode jdk_68_method_31_code 10 = .ok (.aload_n 0, 1) := by decide +kernel
theorem own_d28_11 : decode jdk_68_method_31_code 11 = .ok (.invokevirtual 83, 3) := by decide +kernel
theorem own_d28_14 : decode jdk_68_method_31_code 14 = .ok (.ifCond .eq 31, 3) := by decide +kernel
theorem own_d28_17 : decode jdk_68_method_31_code 17 = .ok (.iload_n 1, 1) := by decide +kernel
theorem own_d28_18 : decode jdk_68_method_31_code 18 = .ok (.invokestatic 191, 3) := by decide +kernel
theorem own_d28_21 : decode jdk_68_method_31_code 21 = .ok (.ifCond .eq 24, 3) := by decide +kernel
theorem own_d28_24 : decode jdk_68_method_31_code 24 = .ok (.aload_n 0, 1) := by decide +kernel
theorem own_d28_25 : decode jdk_68_method_31_code 25 = .ok (.getfield 15, 3) := by decide +kernel
theorem own_d28_28 : decode jdk_68_method_31_code 28 = .ok (.aload_n 0, 1) := by decide +kernel
theorem own_d28_29 : decode jdk_68_method_31_code 29 = .ok (.dup, 1) := by decide +kernel
theorem own_d28_30 : decode jdk_68_method_31_code 30 = .ok (.getfield 79, 3) := by decide +kernel
theorem own_d28_33 : decode jdk_68_method_31_code 33 = .ok (.dup_x1, 1) := by decide +kernel
theorem own_d28_34 : decode jdk_68_method_31_code 34 = .ok (.iconst 1, 1) := by decide +kernel
theorem own_d28_35 : decode jdk_68_method_31_code 35 = .ok (.iadd, 1) := by decide +kernel
theorem own_d28_36 : decode jdk_68_method_31_code 36 = .ok (.putfield 79, 3) := by decide +kernel
theorem own_d28_39 : decode jdk_68_method_31_code 39 = .ok (.iload_n 1, 1) := by decide +kernel
theorem own_d28_40 : decode jdk_68_method_31_code 40 = .ok (.i2b, 1) := by decide +kernel
theorem own_d28_41 : decode jdk_68_method_31_code 41 = .ok (.bastore, 1) := by decide +kernel
theorem own_d28_42 : decode jdk_68_method_31_code 42 = .ok (.goto 33, 3) := by decide +kernel
theorem own_d28_45 : decode jdk_68_method_31_code 45 = .ok (.aload_n 0, 1) := by decide +kernel
theorem own_d28_46 : decode jdk_68_method_31_code 46 = .ok (.invokevirtual 83, 3) := by decide +kernel
theorem own_d28_49 : decode jdk_68_method_31_code 49 = .ok (.ifCond .eq 7, 3) := by decide +kernel
theorem own_d28_52 : decode jdk_68_method_31_code 52 = .ok (.aload_n 0, 1) := by decide +kernel
theorem own_d28_53 : decode jdk_68_method_31_code 53 = .ok (.invokevirtual 195, 3) := by decide +kernel
theorem own_d28_56 : decode jdk_68_method_31_code 56 = .ok (.aload_n 0, 1) := by decide +kernel
theorem own_d28_57 : decode jdk_68_method_31_code 57 = .ok (.getfield 15, 3) := by decide +kernel
theorem own_d28_60 : decode jdk_68_method_31_code 60 = .ok (.aload_n 0, 1) := by decide +kernel
theorem own_d28_61 : decode jdk_68_method_31_code 61 = .ok (.dup, 1) := by decide +kernel
theorem own_d28_62 : decode jdk_68_method_31_code 62 = .ok (.getfield 79, 3) := by decide +kernel
theorem own_d28_65 : decode jdk_68_method_31_code 65 = .ok (.dup_x1, 1) := by decide +kernel
theorem own_d28_66 : decode jdk_68_method_31_code 66 = .ok (.iconst 1, 1) := by decide +kernel
theorem own_d28_67 : decode jdk_68_method_31_code 67 = .ok (.iadd, 1) := by decide +kernel
theorem own_d28_68 : decode jdk_68_method_31_code 68 = .ok (.putfield 79, 3) := by decide +kernel
theorem own_d28_71 : decode jdk_68_method_31_code 71 = .ok (.iload_n 1, 1) := by decide +kernel
theorem own_d28_72 : decode jdk_68_method_31_code 72 = .ok (.invokestatic 197, 3) := by decide +kernel
theorem own_d28_75 : decode jdk_68_method_31_code 75 = .ok (.aload_n 0, 1) := by decide +kernel
theorem own_d28_76 : decode jdk_68_method_31_code 76 = .ok (.areturn, 1) := by decide +kernel
theorem own_pd_pCqLjava_lang_AbstractStringBuildere : parseMethodDescriptor "(C)Ljava/lang/AbstractStringBuilder;" = some ⟨[.char], some (.object "java/lang/AbstractStringBuilder")⟩ := by decide +kernel
theorem own_ef_own_d28 (m : MethodId) (x0 : Addr) (x1 : Int32) : entryFrame m #[(.ref x0), (.int x1)] 2 = mkF m 0 #[.val (.ref x0), .val (.int x1)] [] := by
  first | (simp [entryFrame, mkF, argsToLocals, Value.category]; done) | rfl
set_option maxRecDepth 65536 in
set_option maxHeartbeats 40000000 in
theorem own_abAppn (l : Launch) (Z : State) (a0 : Array Value) (hw : ∀ d ∈ tables_1, d.before a0 Z = true) (sb t : Addr) (ct : ClassId) (cs : List Nat) (kc : Nat) (G1 : Int32) (hG : ¬ G1 = 0) (SG : Sta Z Z.heap "java/lang/String" "COMPACT_STRINGS" "Z" (.int G1)) (SA : Sta Z Z.heap "java/lang/StringUTF16" "$assertionsDisabled" "Z" (.int 1)) (SHi : Sta Z Z.heap "java/lang/StringUTF16" "HI_BYTE_SHIFT" "I" (.int 0)) (SLo : Sta Z Z.heap "java/lang/StringUTF16" "LO_BYTE_SHIFT" "I" (.int 8)) (G3 : Value) (hG3 : G3.isRef = true) (SF : Sta Z Z.heap "jdk/internal/util/Preconditions" "SIOOBE_FORMATTER" "Ljava/util/function/BiFunction;" G3) (h0 : Heap) (n0 : Nat) (O : Old Z n0 h0) (ha : n0 ≤ sb) (ht : n0 ≤ t) (hbt : sb ≠ t) (S : SBn Z h0 sb t ct cs) (hc : kc < 65536) (hn : cs.length + 1 ≤ 16) :
    Ctr l Z n0 (⟨"java/lang/AbstractStringBuilder", "append", "(C)Ljava/lang/AbstractStringBuilder;"⟩ : MethodName) jdk_68_method_31_code 2 (some (.object "java/lang/AbstractStringBuilder")) [] ({ frames := 6, cells := 1, slots := 32, locals := 93 } : Room) #[(.ref sb), (.int (Int32.ofNat kc))] h0 [sb, t] (fun v h => v = some (.ref sb) ∧ ∃ t' ct', (t' = t ∨ h0.size ≤ t') ∧ SBu Z h sb t' ct' (cs ++ [kc])) := by
  refine enter (plainFor_of_name own_pn_java_lang_AbstractStringBuilder) (fun m => own_ef_own_d28 m sb (Int32.ofNat kc)) O (allS ha (allS ht all0)) ?_
  intro p e s m below meth c T w
  refine i_aloadN w own_d28_0 rfl rfl (pc' := 1) rfl ?_
  refine i_aloadN w own_d28_1 rfl rfl (pc' := 2) rfl ?_
  refine i_getF w own_d28_2 (hw _ (List.mem_of_getElem? (i := 126) rfl)) S.2.2.2.1 (pc' := 5) rfl ?_
  intro T99 w99
  refine i_iconst w99 own_d28_5 (z := (1 : Int32)) (by decide) (pc' := 6) rfl ?_
  refine i_iadd w99 own_d28_6 (pc' := 7) rfl ?_
  rw [own_inc]
  show Goes p e below _ T99 (mkF m 7 #[.val (.ref sb), .val (.int (Int32.ofNat kc))] [(.int (Int32.ofNat (cs.length + 1))), (.ref sb)])
  refine c_virtual w99 (y := (⟨"java/lang/AbstractStringBuilder", "ensureCapacityInternal", "(I)V"⟩ : MethodName)) (C := "java/lang/StringBuilder") (a := sb) (argsL := [(.int (Int32.ofNat (cs.length + 1)))]) (st := []) own_d28_7 (hw _ (List.mem_of_getElem? (i := 128) rfl)) (decl_of (hw _ (List.mem_of_getElem? (i := 129) rfl)) (hw _ (List.mem_of_getElem? (i := 132) rfl))) (hw _ (List.mem_of_getElem? (i := 131) rfl)) (hw _ (List.mem_of_getElem? (i := 129) rfl)) (hw _ (List.mem_of_getElem? (i := 132) rfl)) (hw _ (List.mem_of_getElem? (i := 78) rfl)) (by decide) own_pd_pIqV rfl S.1 (own_ensuren l Z a0 hw sb t ct cs (cs.length + 1) h0 n0 w99.old S hn) rfl (by decide) (W := 0) (Nat.le_of_eq rfl) (by decide) (by decide) (by decide) (fun _ q => nomatch q) (pc' := 10) rfl ?_
  intro v100 T100 h100 w100 K100 q100
  obtain ⟨rfl, rfl⟩ := q100
  show Goes p e below _ T100 (mkF m 10 #[.val (.ref sb), .val (.int (Int32.ofNat kc))] [])
  refine i_aloadN w100 own_d28_10 rfl rfl (pc' := 11) rfl ?_
  refine c_virtual w100 (y := (⟨"java/lang/AbstractStringBuilder", "isLatin1", "()Z"⟩ : MethodName)) (C := "java/lang/StringBuilder") (a := sb) (argsL := []) (st := []) own_d28_11 (hw _ (List.mem_of_getElem? (i := 133) rfl)) (hw _ (List.mem_of_getElem? (i := 134) rfl)) (hw _ (List.mem_of_getElem? (i := 136) rfl)) (hw _ (List.mem_of_getElem? (i := 135) rfl)) (hw _ (List.mem_of_getElem? (i := 137) rfl)) (hw _ (List.mem_of_getElem? (i := 78) rfl)) (by decide) own_pd_pqZ rfl S.1 (own_abLatn l Z a0 hw sb t ct cs G1 hG SG h0 n0 w100.old S) rfl (by decide) (W := 0) (Nat.le_of_eq rfl) (by decide) (by decide) (by decide) (fun _ q => nomatch q) (pc' := 14) rfl ?_
  intro v101 T101 h101 w101 K101 q101
  obtain ⟨rfl, rfl⟩ := q101
  show Goes p e below _ T101 (mkF m 14 #[.val (.ref sb), .val (.int (Int32.ofNat kc))] [(.int (1 : Int32))])
  refine i_if_eq_N w101 (by decide) own_d28_14 (pc' := 17) rfl ?_
  refine i_iloadN w101 own_d28_17 rfl (pc' := 18) rfl ?_
  refine c_static w101 (y := (⟨"java/lang/StringLatin1", "canEncode", "(C)Z"⟩ : MethodName)) (argsL := [(.int (Int32.ofNat kc))]) (st := []) own_d28_18 (hw _ (List.mem_of_getElem? (i := 138) rfl)) (hw _ (List.mem_of_getElem? (i := 139) rfl)) (hw _ (List.mem_of_getElem? (i := 140) rfl)) (hw _ (List.mem_of_getElem? (i := 141) rfl)) (by decide) own_pd_pCqZ rfl (own_canEncC l Z a0 hw (Int32.ofNat kc) h0 n0 w101.old ) rfl (by decide) (W := 0) (Nat.le_of_eq rfl) (by decide) (by decide) (by decide) (fun _ q => nomatch q) (pc' := 21) rfl ?_
  intro v102 T102 h102 w102 K102 q102
  obtain ⟨rfl, rfl⟩ := q102
  show Goes p e below _ T102 (mkF m 21 #[.val (.ref sb), .val (.int (Int32.ofNat kc))] [(.int (if (255 : Int32) < (Int32.ofNat kc) then 0 else 1))])
  by_cases hc2 : kc < 256
  ·
    rw [if_neg ((le255 hc).mpr hc2)]
    show Goes p e below _ T102 (mkF m 21 #[.val (.ref sb), .val (.int (Int32.ofNat kc))] [(.int (1 : Int32))])
    refine i_if_eq_N w102 (by decide) own_d28_21 (pc' := 24) rfl ?_
    refine i_aloadN w102 own_d28_24 rfl rfl (pc' := 25) rfl ?_
    refine i_getF w102 own_d28_25 (hw _ (List.mem_of_getElem? (i := 82) rfl)) S.2.1 (pc' := 28) rfl ?_
    intro T103 w103
    refine i_aloadN w103 own_d28_28 rfl rfl (pc' := 29) rfl ?_
    refine i_dup w103 own_d28_29 rfl (pc' := 30) rfl ?_
    refine i_getF w103 own_d28_30 (hw _ (List.mem_of_getElem? (i := 126) rfl)) S.2.2.2.1 (pc' := 33) rfl ?_
    intro T104 w104
    refine i_dupX1 w104 own_d28_33 rfl rfl (pc' := 34) rfl ?_
    refine i_iconst w104 own_d28_34 (z := (1 : Int32)) (by decide) (pc' := 35) rfl ?_
    refine i_iadd w104 own_d28_35 (pc' := 36) rfl ?_
    rw [own_inc]
    show Goes p e below _ T104 (mkF m 36 #[.val (.ref sb), .val (.int (Int32.ofNat kc))] [(.int (Int32.ofNat (cs.length + 1))), (.ref sb), (.int (Int32.ofNat cs.length)), (.ref t)])
    refine i_putF w104 own_d28_36 (hw _ (List.mem_of_getElem? (i := 126) rfl)) S.2.2.2.1 S.1 (Or.inl (hw _ (List.mem_of_getElem? (i := 127) rfl))) (hw _ (List.mem_of_getElem? (i := 69) rfl)) (ty := .int) (by decide) rfl rfl (Or.inl List.mem_cons_self) (pc' := 39) rfl ?_
    intro T105 h105 w105 W105
    show Goes p e below _ T105 (mkF m 39 #[.val (.ref sb), .val (.int (Int32.ofNat kc))] [(.int (Int32.ofNat cs.length)), (.ref t)])
    have Fn2 := Fld.same W105 S.2.2.2.1
    have Fv2 := S.2.1.other W105 (Or.inr (slot_ne (Or.inl (hw _ (List.mem_of_getElem? (i := 83) rfl))) (Or.inl (hw _ (List.mem_of_getElem? (i := 127) rfl))) (by decide) (t := (.array .byte)) (t' := .int) (by decide) (by decide)))
    have Fc2 := S.2.2.1.other W105 (Or.inr (slot_ne (Or.inl (hw _ (List.mem_of_getElem? (i := 85) rfl))) (Or.inl (hw _ (List.mem_of_getElem? (i := 127) rfl))) (by decide) (t := .byte) (t' := .int) (by decide) (by decide)))
    have Fm2 := S.2.2.2.2.1.other W105 (Or.inr (slot_ne (Or.inl (hw _ (List.mem_of_getElem? (i := 193) rfl))) (Or.inl (hw _ (List.mem_of_getElem? (i := 127) rfl))) (by decide) (t := .boolean) (t' := .int) (by decide) (by decide)))
    have Ea2 := S.1.wr W105
    have At2 := S.2.2.2.2.2.1.other W105 (Ne.symm hbt)
    rw [show cs.length + 1 = (cs ++ [kc]).length by simp] at Fn2
    refine i_iloadN w105 own_d28_39 rfl (pc' := 40) rfl ?_
    refine i_i2b w105 own_d28_40 (pc' := 41) rfl ?_
    refine i_bastore w105 own_d28_41 At2 (i := cs.length) rfl (by rw [own_lenn (by omega)]; omega) (Or.inl (List.mem_cons_of_mem _ (List.mem_singleton.mpr rfl))) (pc' := 42) rfl ?_
    intro T106 h106 w106 K106 A3
    show Goes p e below _ T106 (mkF m 42 #[.val (.ref sb), .val (.int (Int32.ofNat kc))] [])
    rw [own_lput (by omega)] at A3
    have Fv3 := Fv2.keep K106 (ninS hbt nin0)
    have Fc3 := Fc2.keep K106 (ninS hbt nin0)
    have Fn3 := Fn2.keep K106 (ninS hbt nin0)
    have Fm3 := Fm2.keep K106 (ninS hbt nin0)
    have Ea3 := Ea2.keep K106
    refine i_goto w106 own_d28_42 (pc' := 75) (by decide) ?_
    refine i_aloadN w106 own_d28_75 rfl rfl (pc' := 76) rfl ?_
    exact i_retA w106 own_d28_76 rfl rfl rfl ⟨rfl, t, ct, Or.inl rfl, Or.inl ⟨Ea3, Fv3, Fc3, Fn3, Fm3, A3, by simp; omega, fun k hk => (List.mem_append.mp hk).elim (S.2.2.2.2.2.2.2 k) (fun q => by simp at q; omega)⟩⟩ (by decide) (by decide)
  ·
    rw [if_pos ((gt255 hc).mpr (by omega))]
    show Goes p e below _ T102 (mkF m 21 #[.val (.ref sb), .val (.int (Int32.ofNat kc))] [(.int (0 : Int32))])
    refine i_if_eq_Y w102 rfl own_d28_21 (pc' := 45) (by decide) ?_
    refine i_aloadN w102 own_d28_45 rfl rfl (pc' := 46) rfl ?_
    refine c_virtual w102 (y := (⟨"java/lang/AbstractStringBuilder", "isLatin1", "()Z"⟩ : MethodName)) (C := "java/lang/StringBuilder") (a := sb) (argsL := []) (st := []) own_d28_46 (hw _ (List.mem_of_getElem? (i := 133) rfl)) (hw _ (List.mem_of_getElem? (i := 134) rfl)) (hw _ (List.mem_of_getElem? (i := 136) rfl)) (hw _ (List.mem_of_getElem? (i := 135) rfl)) (hw _ (List.mem_of_getElem? (i := 137) rfl)) (hw _ (List.mem_of_getElem? (i := 78) rfl)) (by decide) own_pd_pqZ rfl S.1 (own_abLatn l Z a0 hw sb t ct cs G1 hG SG h0 n0 w102.old S) rfl (by decide) (W := 0) (Nat.le_of_eq rfl) (by decide) (by decide) (by decide) (fun _ q => nomatch q) (pc' := 49) rfl ?_
    intro v108 T108 h108 w108 K108 q108
    obtain ⟨rfl, rfl⟩ := q108
    show Goes p e below _ T108 (mkF m 49 #[.val (.ref sb), .val (.int (Int32.ofNat kc))] [(.int (1 : Int32))])
    refine i_if_eq_N w108 (by decide) own_d28_49 (pc' := 52) rfl ?_
    refine i_aloadN w108 own_d28_52 rfl rfl (pc' := 53) rfl ?_
    refine c_virtual w108 (y := (⟨"java/lang/AbstractStringBuilder", "inflate", "()V"⟩ : MethodName)) (C := "java/lang/StringBuilder") (a := sb) (argsL := []) (st := []) own_d28_53 (hw _ (List.mem_of_getElem? (i := 142) rfl)) (decl_of (hw _ (List.mem_of_getElem? (i := 143) rfl)) (hw _ (List.mem_of_getElem? (i := 146) rfl))) (hw _ (List.mem_of_getElem? (i := 145) rfl)) (hw _ (List.mem_of_getElem? (i := 143) rfl)) (hw _ (List.mem_of_getElem? (i := 146) rfl)) (hw _ (List.mem_of_getElem? (i := 78) rfl)) (by decide) own_pd_pqV rfl S.1 (own_infl l Z a0 hw sb t ct cs G1 hG SG SA SHi SLo G3 hG3 SF h0 n0 w108.old ha S) rfl (by decide) (W := 0) (Nat.le_of_eq rfl) (by decide) (by decide) (by decide) (allS (Or.inl List.mem_cons_self) all0) (pc' := 56) rfl ?_
    intro v109 T109 h109 w109 K109 q109
    obtain ⟨rfl, u, cu, zu, Sw⟩ := q109
    show Goes p e below _ T109 (mkF m 56 #[.val (.ref sb), .val (.int (Int32.ofNat kc))] [])
    have zu0 : h0.size ≤ u := Nat.le_trans w108.le0 zu
    have lsu : sb < u := Nat.lt_of_lt_of_le S.lt zu
    refine i_aloadN w109 own_d28_56 rfl rfl (pc' := 57) rfl ?_
    refine i_getF w109 own_d28_57 (hw _ (List.mem_of_getElem? (i := 82) rfl)) Sw.2.1 (pc' := 60) rfl ?_
    intro T111 w111
    refine i_aloadN w111 own_d28_60 rfl rfl (pc' := 61) rfl ?_
    refine i_dup w111 own_d28_61 rfl (pc' := 62) rfl ?_
    refine i_getF w111 own_d28_62 (hw _ (List.mem_of_getElem? (i := 126) rfl)) Sw.2.2.2.1 (pc' := 65) rfl ?_
    intro T112 w112
    refine i_dupX1 w112 own_d28_65 rfl rfl (pc' := 66) rfl ?_
    refine i_iconst w112 own_d28_66 (z := (1 : Int32)) (by decide) (pc' := 67) rfl ?_
    refine i_iadd w112 own_d28_67 (pc' := 68) rfl ?_
    rw [own_inc]
    show Goes p e below _ T112 (mkF m 68 #[.val (.ref sb), .val (.int (Int32.ofNat kc))] [(.int (Int32.ofNat (cs.length + 1))), (.ref sb), (.int (Int32.ofNat cs.length)), (.ref u)])
    refine i_putF w112 own_d28_68 (hw _ (List.mem_of_getElem? (i := 126) rfl)) Sw.2.2.2.1 Sw.1 (Or.inl (hw _ (List.mem_of_getElem? (i := 127) rfl))) (hw _ (List.mem_of_getElem? (i := 69) rfl)) (ty := .int) (by decide) rfl rfl (Or.inl List.mem_cons_self) (pc' := 71) rfl ?_
    intro T113 h113 w113 W113
    show Goes p e below _ T113 (mkF m 71 #[.val (.ref sb), .val (.int (Int32.ofNat kc))] [(.int (Int32.ofNat cs.length)), (.ref u)])
    have Fn2 := Fld.same W113 Sw.2.2.2.1
    have Fv2 := Sw.2.1.other W113 (Or.inr (slot_ne (Or.inl (hw _ (List.mem_of_getElem? (i := 83) rfl))) (Or.inl (hw _ (List.mem_of_getElem? (i := 127) rfl))) (by decide) (t := (.array .byte)) (t' := .int) (by decide) (by decide)))
    have Fc2 := Sw.2.2.1.other W113 (Or.inr (slot_ne (Or.inl (hw _ (List.mem_of_getElem? (i := 85) rfl))) (Or.inl (hw _ (List.mem_of_getElem? (i := 127) rfl))) (by decide) (t := .byte) (t' := .int) (by decide) (by decide)))
    have Fm2 := Sw.2.2.2.2.1.other W113 (Or.inr (slot_ne (Or.inl (hw _ (List.mem_of_getElem? (i := 193) rfl))) (Or.inl (hw _ (List.mem_of_getElem? (i := 127) rfl))) (by decide) (t := .boolean) (t' := .int) (by decide) (by decide)))
    have Ea2 := Sw.1.wr W113
    have At2 := Sw.2.2.2.2.2.1.other W113 (Nat.ne_of_gt lsu)
    rw [show cs.length + 1 = (cs ++ [kc]).length by simp] at Fn2
    refine i_iloadN w113 own_d28_71 rfl (pc' := 72) rfl ?_
    refine c_static w113 (y := (⟨"java/lang/StringUTF16", "putCharSB", "([BII)V"⟩ : MethodName)) (argsL := [(.ref u), (.int (Int32.ofNat cs.length)), (.int (Int32.ofNat kc))]) (st := []) own_d28_72 (hw _ (List.mem_of_getElem? (i := 154) rfl)) (hw _ (List.mem_of_getElem? (i := 155) rfl)) (hw _ (List.mem_of_getElem? (i := 32) rfl)) (hw _ (List.mem_of_getElem? (i := 156) rfl)) (by decide) own_pd_pABIIqV rfl (own_putSB l Z a0 hw u cu (wid cs ++ List.replicate (32 - 2 * cs.length) (Value.int 0)) cs.length kc SA SHi SLo G3 hG3 SF h113 n0 w113.old (Nat.le_trans w113.n0h0 zu0) hc (by rw [own_lenw (by omega)]; omega) At2) rfl (by decide) (W := 0) (Nat.le_of_eq rfl) (by decide) (by decide) (by decide) (allS (Or.inr zu0) all0) (pc' := 75) rfl ?_
    intro v114 T114 h114 w114 K114 q114
    obtain ⟨rfl, A3⟩ := q114
    show Goes p e below _ T114 (mkF m 75 #[.val (.ref sb), .val (.int (Int32.ofNat kc))] [])
    rw [own_wput (by omega)] at A3
    have Fv3 := Fv2.keep K114 (ninS (Nat.ne_of_lt lsu) nin0)
    have Fc3 := Fc2.keep K114 (ninS (Nat.ne_of_lt lsu) nin0)
    have Fn3 := Fn2.keep K114 (ninS (Nat.ne_of_lt lsu) nin0)
    have Fm3 := Fm2.keep K114 (ninS (Nat.ne_of_lt lsu) nin0)
    have Ea3 := Ea2.keep K114
    refine i_aloadN w114 own_d28_75 rfl rfl (pc' := 76) rfl ?_
    exact i_retA w114 own_d28_76 rfl rfl rfl ⟨rfl, u, cu, Or.inr zu0, Or.inr ⟨⟨Ea3, Fv3, Fc3, Fn3, Fm3, A3, by simp; omega, fun k hk => (List.mem_append.mp hk).elim (Sw.2.2.2.2.2.2.2 k) (fun q => by simp at q; omega)⟩, kc, by simp, by omega⟩⟩ (by decide) (by decide)
theorem own_d27_0 : decode jdk_67_method_14_code 0 = .ok (.aload_n 0, 1) := by decide +kernel
theorem own_d27_1 : decode jdk_67_method_14_code 1 = .ok (.iload_n 1, 1) := by decide +kernel
theorem own_d27_2 : decode jdk_67_method_14_code 2 = .ok (.invokespecial 50, 3) := by decide +kernel
theorem own_d27_5 : decode jdk_67_method_14_code 5 = .ok (.pop, 1) := by decide +kernel
theorem own_d27_6 : decode jdk_67_method_14_code 6 = .ok (.aload_n 0, 1) := by decide +kernel
theorem own_d27_7 : decode jdk_67_method_14_code 7 = .ok (.areturn, 1) := by decide +kernel
theorem own_pd_pCqLjava_lang_StringBuildere : parseMethodDescriptor "(C)Ljava/lang/StringBuilder;" = some ⟨[.char], some (.object "java/lang/StringBuilder")⟩ := by decide +kernel
theorem own_ef_own_d27 (m : MethodId) (x0 : Addr) (x1 : Int32) : entryFrame m #[(.ref x0), (.int x1)] 2 = mkF m 0 #[.val (.ref x0), .val (.int x1)] [] := by
  first | (simp [entryFrame, mkF, argsToLocals, Value.category]; done) | rfl
set_option maxRecDepth 65536 in
set_option maxHeartbeats 40000000 in
theorem own_sbAppn (l : Launch) (Z : State) (a0 : Array Value) (hw : ∀ d ∈ tables_1, d.before a0 Z = true) (sb t : Addr) (ct : ClassId) (cs : List Nat) (kc : Nat) (G1 : Int32) (hG : ¬ G1 = 0) (SG : Sta Z Z.heap "java/lang/String" "COMPACT_STRINGS" "Z" (.int G1)) (SA : Sta Z Z.heap "java/lang/StringUTF16" "$assertionsDisabled" "Z" (.int 1)) (SHi : Sta Z Z.heap "java/lang/StringUTF16" "HI_BYTE_SHIFT" "I" (.int 0)) (SLo : Sta Z Z.heap "java/lang/StringUTF16" "LO_BYTE_SHIFT" "I" (.int 8)) (G3 : Value) (hG3 : G3.isRef = true) (SF : Sta Z Z.heap "jdk/internal/util/Preconditions" "SIOOBE_FORMATTER" "Ljava/util/function/BiFunction;" G3) (h0 : Heap) (n0 : Nat) (O : Old Z n0 h0) (ha : n0 ≤ sb) (ht : n0 ≤ t) (hbt : sb ≠ t) (S : SBn Z h0 sb t ct cs) (hc : kc < 65536) (hn : cs.length + 1 ≤ 16) :
    Ctr l Z n0 (⟨"java/lang/StringBuilder", "append", "(C)Ljava/lang/StringBuilder;"⟩ : MethodName) jdk_67_method_14_code 2 (some (.object "java/lang/StringBuilder")) [] ({ frames := 7, cells := 1, slots := 32, locals := 106 } : Room) #[(.ref sb), (.int (Int32.ofNat kc))] h0 [sb, t] (fun v h => v = some (.ref sb) ∧ ∃ t' ct', (t' = t ∨ h0.size ≤ t') ∧ SBu Z h sb t' ct' (cs ++ [kc])) := by
  refine enter (plainFor_of_name own_pn_java_lang_StringBuilder) (fun m => own_ef_own_d27 m sb (Int32.ofNat kc)) O (allS ha (allS ht all0)) ?_
  intro p e s m below meth c T w
  refine i_aloadN w own_d27_0 rfl rfl (pc' := 1) rfl ?_
  refine i_iloadN w own_d27_1 rfl (pc' := 2) rfl ?_
  refine c_super w (y := (⟨"java/lang/AbstractStringBuilder", "append", "(C)Ljava/lang/AbstractStringBuilder;"⟩ : MethodName)) (C := "java/lang/StringBuilder") (a := sb) (argsL := [(.int (Int32.ofNat kc))]) (st := []) own_d27_2 (by decide) (hw _ (List.mem_of_getElem? (i := 121) rfl)) (hw _ (List.mem_of_getElem? (i := 122) rfl)) (hw _ (List.mem_of_getElem? (i := 78) rfl)) (hw _ (List.mem_of_getElem? (i := 125) rfl)) (hw _ (List.mem_of_getElem? (i := 123) rfl)) (face_of (hw _ (List.mem_of_getElem? (i := 131) rfl)) rfl) (by decide) own_pd_pCqLjava_lang_AbstractStringBuildere rfl S.1 (own_abAppn l Z a0 hw sb t ct cs kc G1 hG SG SA SHi SLo G3 hG3 SF h0 n0 w.old ha ht hbt S hc hn) rfl (by decide) (W := 0) (Nat.le_of_eq rfl) (by decide) (by decide) (by decide) (fun x q => Or.inl q) (pc' := 5) rfl ?_
  intro v116 T116 h116 w116 K116 q116
  obtain ⟨rfl, t', ct', zt', Sd⟩ := q116
  show Goes p e below _ T116 (mkF m 5 #[.val (.ref sb), .val (.int (Int32.ofNat kc))] [(.ref sb)])
  refine i_pop w116 own_d27_5 rfl (pc' := 6) rfl ?_
  refine i_aloadN w116 own_d27_6 rfl rfl (pc' := 7) rfl ?_
  exact i_retA w116 own_d27_7 rfl rfl rfl ⟨rfl, t', ct', zt', Sd⟩ (by decide) (by decide)
set_option maxRecDepth 65536 in
set_option maxHeartbeats 40000000 in
theorem own_ensurew (l : Launch) (Z : State) (a0 : Array Value) (hw : ∀ d ∈ tables_1, d.before a0 Z = true) (sb t : Addr) (ct : ClassId) (cs : List Nat) (n : Nat) (h0 : Heap) (n0 : Nat) (O : Old Z n0 h0) (S : SBw Z h0 sb t ct cs) (hn : n ≤ 16) :
    Ctr l Z n0 (⟨"java/lang/AbstractStringBuilder", "ensureCapacityInternal", "(I)V"⟩ : MethodName) jdk_68_method_9_code 3 none [] ({ frames := 0, cells := 0, slots := 0, locals := 0 } : Room) #[(.ref sb), (.int (Int32.ofNat n))] h0 [] (fun v h => v = none ∧ h0 = h) := by
  refine enter (plainFor_of_name own_pn_java_lang_AbstractStringBuilder) (fun m => own_ef_own_d29 m sb (Int32.ofNat n)) O (fun _ q => nomatch q) ?_
  intro p e s m below meth c T w
  refine i_aloadN w own_d29_0 rfl rfl (pc' := 1) rfl ?_
  refine i_getF w own_d29_1 (hw _ (List.mem_of_getElem? (i := 82) rfl)) S.2.1 (pc' := 4) rfl ?_
  intro T118 w118
  refine i_len w118 own_d29_4 S.2.2.2.2.2.1 (z := Int32.ofNat 32) (by rw [own_lenw S.2.2.2.2.2.2.1]) (pc' := 5) rfl ?_
  refine i_aloadN w118 own_d29_5 rfl rfl (pc' := 6) rfl ?_
  refine i_getF w118 own_d29_6 (hw _ (List.mem_of_getElem? (i := 84) rfl)) S.2.2.1 (pc' := 9) rfl ?_
  intro T119 w119
  refine i_ishr w119 own_d29_9 (pc' := 10) rfl ?_
  refine i_istoreN w119 own_d29_10 (l' := #[.val (.ref sb), .val (.int (Int32.ofNat n)), .val (.int ((Int32.ofNat 32) >>> ((1 : Int32) &&& 31)))]) rfl (pc' := 11) rfl ?_
  refine i_iloadN w119 own_d29_11 rfl (pc' := 12) rfl ?_
  refine i_iloadN w119 own_d29_12 rfl (pc' := 13) rfl ?_
  refine i_isub w119 own_d29_13 (pc' := 14) rfl ?_
  refine i_if_le_Y w119 (own_capw hn) own_d29_14 (pc' := 38) (by decide) ?_
  exact i_ret0 w119 own_d29_38 rfl ⟨rfl, rfl⟩ (by decide) (by decide)
set_option maxRecDepth 65536 in
set_option maxHeartbeats 40000000 in
theorem own_abLatw (l : Launch) (Z : State) (a0 : Array Value) (hw : ∀ d ∈ tables_1, d.before a0 Z = true) (sb t : Addr) (ct : ClassId) (cs : List Nat) (G1 : Int32) (hG : ¬ G1 = 0) (SG : Sta Z Z.heap "java/lang/String" "COMPACT_STRINGS" "Z" (.int G1)) (h0 : Heap) (n0 : Nat) (O : Old Z n0 h0) (S : SBw Z h0 sb t ct cs) :
    Ctr l Z n0 (⟨"java/lang/AbstractStringBuilder", "isLatin1", "()Z"⟩ : MethodName) jdk_68_method_68_code 1 (some .boolean) [] ({ frames := 0, cells := 0, slots := 0, locals := 0 } : Room) #[(.ref sb)] h0 [] (fun v h => v = some (.int 0) ∧ h0 = h) := by
  refine enter (plainFor_of_name own_pn_java_lang_AbstractStringBuilder) (fun m => own_ef_own_d30 m sb) O (fun _ q => nomatch q) ?_
  intro p e s m below meth c T w
  refine i_getS w own_d30_0 (hw _ (List.mem_of_getElem? (i := 81) rfl)) SG (pc' := 3) rfl ?_
  intro T120 w120
  refine i_if_eq_N w120 hG own_d30_3 (pc' := 6) rfl ?_
  refine i_aloadN w120 own_d30_6 rfl rfl (pc' := 7) rfl ?_
  refine i_getF w120 own_d30_7 (hw _ (List.mem_of_getElem? (i := 84) rfl)) S.2.2.1 (pc' := 10) rfl ?_
  intro T121 w121
  refine i_if_ne_Y w121 (by decide) own_d30_10 (pc' := 17) (by decide) ?_
  refine i_iconst w121 own_d30_17 (z := (0 : Int32)) (by decide) (pc' := 18) rfl ?_
  exact i_retN w121 own_d30_18 rfl (by simp) ⟨rfl, rfl⟩ (by decide) (by decide)
set_option maxRecDepth 65536 in
set_option maxHeartbeats 40000000 in
theorem own_abAppw (l : Launch) (Z : State) (a0 : Array Value) (hw : ∀ d ∈ tables_1, d.before a0 Z = true) (sb t : Addr) (ct : ClassId) (cs : List Nat) (kc : Nat) (G1 : Int32) (hG : ¬ G1 = 0) (SG : Sta Z Z.heap "java/lang/String" "COMPACT_STRINGS" "Z" (.int G1)) (SA : Sta Z Z.heap "java/lang/StringUTF16" "$assertionsDisabled" "Z" (.int 1)) (SHi : Sta Z Z.heap "java/lang/StringUTF16" "HI_BYTE_SHIFT" "I" (.int 0)) (SLo : Sta Z Z.heap "java/lang/StringUTF16" "LO_BYTE_SHIFT" "I" (.int 8)) (G3 : Value) (hG3 : G3.isRef = true) (SF : Sta Z Z.heap "jdk/internal/util/Preconditions" "SIOOBE_FORMATTER" "Ljava/util/function/BiFunction;" G3) (h0 : Heap) (n0 : Nat) (O : Old Z n0 h0) (ha : n0 ≤ sb) (ht : n0 ≤ t) (hbt : sb ≠ t) (S : SBw Z h0 sb t ct cs) (hex : ∃ k ∈ cs, 256 ≤ k) (hc : kc < 65536) (hn : cs.length + 1 ≤ 16) :
    Ctr l Z n0 (⟨"java/lang/AbstractStringBuilder", "append", "(C)Ljava/lang/AbstractStringBuilder;"⟩ : MethodName) jdk_68_method_31_code 2 (some (.object "java/lang/AbstractStringBuilder")) [] ({ frames := 4, cells := 0, slots := 0, locals := 54 } : Room) #[(.ref sb), (.int (Int32.ofNat kc))] h0 [sb, t] (fun v h => v = some (.ref sb) ∧ ∃ t' ct', (t' = t ∨ h0.size ≤ t') ∧ SBu Z h sb t' ct' (cs ++ [kc])) := by
  refine enter (plainFor_of_name own_pn_java_lang_AbstractStringBuilder) (fun m => own_ef_own_d28 m sb (Int32.ofNat kc)) O (allS ha (allS ht all0)) ?_
  intro p e s m below meth c T w
  refine i_aloadN w own_d28_0 rfl rfl (pc' := 1) rfl ?_
  refine i_aloadN w own_d28_1 rfl rfl (pc' := 2) rfl ?_
  refine i_getF w own_d28_2 (hw _ (List.mem_of_getElem? (i := 126) rfl)) S.2.2.2.1 (pc' := 5) rfl ?_
  intro T122 w122
  refine i_iconst w122 own_d28_5 (z := (1 : Int32)) (by decide) (pc' := 6) rfl ?_
  refine i_iadd w122 own_d28_6 (pc' := 7) rfl ?_
  rw [own_inc]
  show Goes p e below _ T122 (mkF m 7 #[.val (.ref sb), .val (.int (Int32.ofNat kc))] [(.int (Int32.ofNat (cs.length + 1))), (.ref sb)])
  refine c_virtual w122 (y := (⟨"java/lang/AbstractStringBuilder", "ensureCapacityInternal", "(I)V"⟩ : MethodName)) (C := "java/lang/StringBuilder") (a := sb) (argsL := [(.int (Int32.ofNat (cs.length + 1)))]) (st := []) own_d28_7 (hw _ (List.mem_of_getElem? (i := 128) rfl)) (decl_of (hw _ (List.mem_of_getElem? (i := 129) rfl)) (hw _ (List.mem_of_getElem? (i := 132) rfl))) (hw _ (List.mem_of_getElem? (i := 131) rfl)) (hw _ (List.mem_of_getElem? (i := 129) rfl)) (hw _ (List.mem_of_getElem? (i := 132) rfl)) (hw _ (List.mem_of_getElem? (i := 78) rfl)) (by decide) own_pd_pIqV rfl S.1 (own_ensurew l Z a0 hw sb t ct cs (cs.length + 1) h0 n0 w122.old S hn) rfl (by decide) (W := 0) (Nat.le_of_eq rfl) (by decide) (by decide) (by decide) (fun _ q => nomatch q) (pc' := 10) rfl ?_
  intro v123 T123 h123 w123 K123 q123
  obtain ⟨rfl, rfl⟩ := q123
  show Goes p e below _ T123 (mkF m 10 #[.val (.ref sb), .val (.int (Int32.ofNat kc))] [])
  refine i_aloadN w123 own_d28_10 rfl rfl (pc' := 11) rfl ?_
  refine c_virtual w123 (y := (⟨"java/lang/AbstractStringBuilder", "isLatin1", "()Z"⟩ : MethodName)) (C := "java/lang/StringBuilder") (a := sb) (argsL := []) (st := []) own_d28_11 (hw _ (List.mem_of_getElem? (i := 133) rfl)) (hw _ (List.mem_of_getElem? (i := 134) rfl)) (hw _ (List.mem_of_getElem? (i := 136) rfl)) (hw _ (List.mem_of_getElem? (i := 135) rfl)) (hw _ (List.mem_of_getElem? (i := 137) rfl)) (hw _ (List.mem_of_getElem? (i := 78) rfl)) (by decide) own_pd_pqZ rfl S.1 (own_abLatw l Z a0 hw sb t ct cs G1 hG SG h0 n0 w123.old S) rfl (by decide) (W := 0) (Nat.le_of_eq rfl) (by decide) (by decide) (by decide) (fun _ q => nomatch q) (pc' := 14) rfl ?_
  intro v124 T124 h124 w124 K124 q124
  obtain ⟨rfl, rfl⟩ := q124
  show Goes p e below _ T124 (mkF m 14 #[.val (.ref sb), .val (.int (Int32.ofNat kc))] [(.int (0 : Int32))])
  refine i_if_eq_Y w124 rfl own_d28_14 (pc' := 45) (by decide) ?_
  refine i_aloadN w124 own_d28_45 rfl rfl (pc' := 46) rfl ?_
  refine c_virtual w124 (y := (⟨"java/lang/AbstractStringBuilder", "isLatin1", "()Z"⟩ : MethodName)) (C := "java/lang/StringBuilder") (a := sb) (argsL := []) (st := []) own_d28_46 (hw _ (List.mem_of_getElem? (i := 133) rfl)) (hw _ (List.mem_of_getElem? (i := 134) rfl)) (hw _ (List.mem_of_getElem? (i := 136) rfl)) (hw _ (List.mem_of_getElem? (i := 135) rfl)) (hw _ (List.mem_of_getElem? (i := 137) rfl)) (hw _ (List.mem_of_getElem? (i := 78) rfl)) (by decide) own_pd_pqZ rfl S.1 (own_abLatw l Z a0 hw sb t ct cs G1 hG SG h0 n0 w124.old S) rfl (by decide) (W := 0) (Nat.le_of_eq rfl) (by decide) (by decide) (by decide) (fun _ q => nomatch q) (pc' := 49) rfl ?_
  intro v125 T125 h125 w125 K125 q125
  obtain ⟨rfl, rfl⟩ := q125
  show Goes p e below _ T125 (mkF m 49 #[.val (.ref sb), .val (.int (Int32.ofNat kc))] [(.int (0 : Int32))])
  refine i_if_eq_Y w125 rfl own_d28_49 (pc' := 56) (by decide) ?_
  refine i_aloadN w125 own_d28_56 rfl rfl (pc' := 57) rfl ?_
  refine i_getF w125 own_d28_57 (hw _ (List.mem_of_getElem? (i := 82) rfl)) S.2.1 (pc' := 60) rfl ?_
  intro T126 w126
  refine i_aloadN w126 own_d28_60 rfl rfl (pc' := 61) rfl ?_
  refine i_dup w126 own_d28_61 rfl (pc' := 62) rfl ?_
  refine i_getF w126 own_d28_62 (hw _ (List.mem_of_getElem? (i := 126) rfl)) S.2.2.2.1 (pc' := 65) rfl ?_
  intro T127 w127
  refine i_dupX1 w127 own_d28_65 rfl rfl (pc' := 66) rfl ?_
  refine i_iconst w127 own_d28_66 (z := (1 : Int32)) (by decide) (pc' := 67) rfl ?_
  refine i_iadd w127 own_d28_67 (pc' := 68) rfl ?_
  rw [own_inc]
  show Goes p e below _ T127 (mkF m 68 #[.val (.ref sb), .val (.int (Int32.ofNat kc))] [(.int (Int32.ofNat (cs.length + 1))), (.ref sb), (.int (Int32.ofNat cs.length)), (.ref t)])
  refine i_putF w127 own_d28_68 (hw _ (List.mem_of_getElem? (i := 126) rfl)) S.2.2.2.1 S.1 (Or.inl (hw _ (List.mem_of_getElem? (i := 127) rfl))) (hw _ (List.mem_of_getElem? (i := 69) rfl)) (ty := .int) (by decide) rfl rfl (Or.inl List.mem_cons_self) (pc' := 71) rfl ?_
  intro T128 h128 w128 W128
  show Goes p e below _ T128 (mkF m 71 #[.val (.ref sb), .val (.int (Int32.ofNat kc))] [(.int (Int32.ofNat cs.length)), (.ref t)])
  have Fn2 := Fld.same W128 S.2.2.2.1
  have Fv2 := S.2.1.other W128 (Or.inr (slot_ne (Or.inl (hw _ (List.mem_of_getElem? (i := 83) rfl))) (Or.inl (hw _ (List.mem_of_getElem? (i := 127) rfl))) (by decide) (t := (.array .byte)) (t' := .int) (by decide) (by decide)))
  have Fc2 := S.2.2.1.other W128 (Or.inr (slot_ne (Or.inl (hw _ (List.mem_of_getElem? (i := 85) rfl))) (Or.inl (hw _ (List.mem_of_getElem? (i := 127) rfl))) (by decide) (t := .byte) (t' := .int) (by decide) (by decide)))
  have Fm2 := S.2.2.2.2.1.other W128 (Or.inr (slot_ne (Or.inl (hw _ (List.mem_of_getElem? (i := 193) rfl))) (Or.inl (hw _ (List.mem_of_getElem? (i := 127) rfl))) (by decide) (t := .boolean) (t' := .int) (by decide) (by decide)))
  have Ea2 := S.1.wr W128
  have At2 := S.2.2.2.2.2.1.other W128 (Ne.symm hbt)
  rw [show cs.length + 1 = (cs ++ [kc]).length by simp] at Fn2
  refine i_iloadN w128 own_d28_71 rfl (pc' := 72) rfl ?_
  refine c_static w128 (y := (⟨"java/lang/StringUTF16", "putCharSB", "([BII)V"⟩ : MethodName)) (argsL := [(.ref t), (.int (Int32.ofNat cs.length)), (.int (Int32.ofNat kc))]) (st := []) own_d28_72 (hw _ (List.mem_of_getElem? (i := 154) rfl)) (hw _ (List.mem_of_getElem? (i := 155) rfl)) (hw _ (List.mem_of_getElem? (i := 32) rfl)) (hw _ (List.mem_of_getElem? (i := 156) rfl)) (by decide) own_pd_pABIIqV rfl (own_putSB l Z a0 hw t ct (wid cs ++ List.replicate (32 - 2 * cs.length) (Value.int 0)) cs.length kc SA SHi SLo G3 hG3 SF h128 n0 w128.old ht hc (by rw [own_lenw (by omega)]; omega) At2) rfl (by decide) (W := 0) (Nat.le_of_eq rfl) (by decide) (by decide) (by decide) (allS (Or.inl (List.mem_cons_of_mem _ (List.mem_singleton.mpr rfl))) all0) (pc' := 75) rfl ?_
  intro v129 T129 h129 w129 K129 q129
  obtain ⟨rfl, A3⟩ := q129
  show Goes p e below _ T129 (mkF m 75 #[.val (.ref sb), .val (.int (Int32.ofNat kc))] [])
  rw [own_wput (by omega)] at A3
  have Fv3 := Fv2.keep K129 (ninS hbt nin0)
  have Fc3 := Fc2.keep K129 (ninS hbt nin0)
  have Fn3 := Fn2.keep K129 (ninS hbt nin0)
  have Fm3 := Fm2.keep K129 (ninS hbt nin0)
  have Ea3 := Ea2.keep K129
  refine i_aloadN w129 own_d28_75 rfl rfl (pc' := 76) rfl ?_
  exact i_retA w129 own_d28_76 rfl rfl rfl ⟨rfl, t, ct, Or.inl rfl, Or.inr ⟨⟨Ea3, Fv3, Fc3, Fn3, Fm3, A3, by simp; omega, fun k hk => (List.mem_append.mp hk).elim (S.2.2.2.2.2.2.2 k) (fun q => by simp at q; omega)⟩, hex.imp fun k q => ⟨List.mem_append_left _ q.1, q.2⟩⟩⟩ (by decide) (by decide)
set_option maxRecDepth 65536 in
set_option maxHeartbeats 40000000 in
theorem own_sbAppw (l : Launch) (Z : State) (a0 : Array Value) (hw : ∀ d ∈ tables_1, d.before a0 Z = true) (sb t : Addr) (ct : ClassId) (cs : List Nat) (kc : Nat) (G1 : Int32) (hG : ¬ G1 = 0) (SG : Sta Z Z.heap "java/lang/String" "COMPACT_STRINGS" "Z" (.int G1)) (SA : Sta Z Z.heap "java/lang/StringUTF16" "$assertionsDisabled" "Z" (.int 1)) (SHi : Sta Z Z.heap "java/lang/StringUTF16" "HI_BYTE_SHIFT" "I" (.int 0)) (SLo : Sta Z Z.heap "java/lang/StringUTF16" "LO_BYTE_SHIFT" "I" (.int 8)) (G3 : Value) (hG3 : G3.isRef = true) (SF : Sta Z Z.heap "jdk/internal/util/Preconditions" "SIOOBE_FORMATTER" "Ljava/util/function/BiFunction;" G3) (h0 : Heap) (n0 : Nat) (O : Old Z n0 h0) (ha : n0 ≤ sb) (ht : n0 ≤ t) (hbt : sb ≠ t) (S : SBw Z h0 sb t ct cs) (hex : ∃ k ∈ cs, 256 ≤ k) (hc : kc < 65536) (hn : cs.length + 1 ≤ 16) :
    Ctr l Z n0 (⟨"java/lang/StringBuilder", "append", "(C)Ljava/lang/StringBuilder;"⟩ : MethodName) jdk_67_method_14_code 2 (some (.object "java/lang/StringBuilder")) [] ({ frames := 5, cells := 0, slots := 0, locals := 67 } : Room) #[(.ref sb), (.int (Int32.ofNat kc))] h0 [sb, t] (fun v h => v = some (.ref sb) ∧ ∃ t' ct', (t' = t ∨ h0.size ≤ t') ∧ SBu Z h sb t' ct' (cs ++ [kc])) := by
  refine enter (plainFor_of_name own_pn_java_lang_StringBuilder) (fun m => own_ef_own_d27 m sb (Int32.ofNat kc)) O (allS ha (allS ht all0)) ?_
  intro p e s m below meth c T w
  refine i_aloadN w own_d27_0 rfl rfl (pc' := 1) rfl ?_
  refine i_iloadN w own_d27_1 rfl (pc' := 2) rfl ?_
  refine c_super w (y := (⟨"java/lang/AbstractStringBuilder", "append", "(C)Ljava/lang/AbstractStringBuilder;"⟩ : MethodName)) (C := "java/lang/StringBuilder") (a := sb) (argsL := [(.int (Int32.ofNat kc))]) (st := []) own_d27_2 (by decide) (hw _ (List.mem_of_getElem? (i := 121) rfl)) (hw _ (List.mem_of_getElem? (i := 122) rfl)) (hw _ (List.mem_of_getElem? (i := 78) rfl)) (hw _ (List.mem_of_getElem? (i := 125) rfl)) (hw _ (List.mem_of_getElem? (i := 123) rfl)) (face_of (hw _ (List.mem_of_getElem? (i := 131) rfl)) rfl) (by decide) own_pd_pCqLjava_lang_AbstractStringBuildere rfl S.1 (own_abAppw l Z a0 hw sb t ct cs kc G1 hG SG SA SHi SLo G3 hG3 SF h0 n0 w.old ha ht hbt S hex hc hn) rfl (by decide) (W := 0) (Nat.le_of_eq rfl) (by decide) (by decide) (by decide) (fun x q => Or.inl q) (pc' := 5) rfl ?_
  intro v131 T131 h131 w131 K131 q131
  obtain ⟨rfl, t', ct', zt', Sd⟩ := q131
  show Goes p e below _ T131 (mkF m 5 #[.val (.ref sb), .val (.int (Int32.ofNat kc))] [(.ref sb)])
  refine i_pop w131 own_d27_5 rfl (pc' := 6) rfl ?_
  refine i_aloadN w131 own_d27_6 rfl rfl (pc' := 7) rfl ?_
  exact i_retA w131 own_d27_7 rfl rfl rfl ⟨rfl, t', ct', zt', Sd⟩ (by decide) (by decide)
theorem own_d42_0 : decode jdk_68_method_64_code 0 = .ok (.aload_n 0, 1) := by decide +kernel
theorem own_d42_1 : decode jdk_68_method_64_code 1 = .ok (.getfield 15, 3) := by decide +kernel
theorem own_d42_4 : decode jdk_68_method_64_code 4 = .ok (.areturn, 1) := by decide +kernel
theorem own_pd_pqAB : parseMethodDescriptor "()[B" = some ⟨[], some (.array .byte)⟩ := by decide +kernel
theorem own_ef_own_d42 (m : MethodId) (x0 : Addr) : entryFrame m #[(.ref x0)] 1 = mkF m 0 #[.val (.ref x0)] [] := by
  first | (simp [entryFrame, mkF, argsToLocals, Value.category]; done) | rfl
set_option maxRecDepth 65536 in
set_option maxHeartbeats 40000000 in
theorem own_getValuen (l : Launch) (Z : State) (a0 : Array Value) (hw : ∀ d ∈ tables_1, d.before a0 Z = true) (sb t : Addr) (ct : ClassId) (cs : List Nat)  (h0 : Heap) (n0 : Nat) (O : Old Z n0 h0) (S : SBn Z h0 sb t ct cs) :
    Ctr l Z n0 (⟨"java/lang/AbstractStringBuilder", "getValue", "()[B"⟩ : MethodName) jdk_68_method_64_code 1 (some (.array .byte)) [] ({ frames := 0, cells := 0, slots := 0, locals := 0 } : Room) #[(.ref sb)] h0 [] (fun v h => v = some (.ref t) ∧ h0 = h) := by
  refine enter (plainFor_of_name own_pn_java_lang_AbstractStringBuilder) (fun m => own_ef_own_d42 m sb) O (fun _ q => nomatch q) ?_
  intro p e s m below meth c T w
  refine i_aloadN w own_d42_0 rfl rfl (pc' := 1) rfl ?_
  refine i_getF w own_d42_1 (hw _ (List.mem_of_getElem? (i := 82) rfl)) S.2.1 (pc' := 4) rfl ?_
  intro T133 w133
  exact i_retA w133 own_d42_4 rfl rfl rfl ⟨rfl, rfl⟩ (by decide) (by decide)
theorem own_d44_0 : decode jdk_68_method_6_code 0 = .ok (.aload_n 0, 1) := by decide +kernel
theorem own_d44_1 : decode jdk_68_method_6_code 1 = .ok (.getfield 79, 3) := by decide +kernel
theorem own_d44_4 : decode jdk_68_method_6_code 4 = .ok (.ireturn, 1) := by decide +kernel
theorem own_ef_own_d44 (m : MethodId) (x0 : Addr) : entryFrame m #[(.ref x0)] 1 = mkF m 0 #[.val (.ref x0)] [] := by
  first | (simp [entryFrame, mkF, argsToLocals, Value.category]; done) | rfl
set_option maxRecDepth 65536 in
set_option maxHeartbeats 40000000 in
theorem own_abLenn (l : Launch) (Z : State) (a0 : Array Value) (hw : ∀ d ∈ tables_1, d.before a0 Z = true) (sb t : Addr) (ct : ClassId) (cs : List Nat)  (h0 : Heap) (n0 : Nat) (O : Old Z n0 h0) (S : SBn Z h0 sb t ct cs) :
    Ctr l Z n0 (⟨"java/lang/AbstractStringBuilder", "length", "()I"⟩ : MethodName) jdk_68_method_6_code 1 (some .int) [] ({ frames := 0, cells := 0, slots := 0, locals := 0 } : Room) #[(.ref sb)] h0 [] (fun v h => v = some (.int (Int32.ofNat cs.length)) ∧ h0 = h) := by
  refine enter (plainFor_of_name own_pn_java_lang_AbstractStringBuilder) (fun m => own_ef_own_d44 m sb) O (fun _ q => nomatch q) ?_
  intro p e s m below meth c T w
  refine i_aloadN w own_d44_0 rfl rfl (pc' := 1) rfl ?_
  refine i_getF w own_d44_1 (hw _ (List.mem_of_getElem? (i := 126) rfl)) S.2.2.2.1 (pc' := 4) rfl ?_
  intro T134 w134
  exact i_retI w134 own_d44_4 rfl ⟨rfl, rfl⟩ (by decide) (by decide)
theorem own_d43_0 : decode jdk_67_method_93_code 0 = .ok (.aload_n 0, 1) := by decide +kernel
theorem own_d43_1 : decode jdk_67_method_93_code 1 = .ok (.invokespecial 343, 3) := by decide +kernel
theorem own_d43_4 : decode jdk_67_method_93_code 4 = .ok (.ireturn, 1) := by decide +kernel
theorem own_ef_own_d43 (m : MethodId) (x0 : Addr) : entryFrame m #[(.ref x0)] 1 = mkF m 0 #[.val (.ref x0)] [] := by
  first | (simp [entryFrame, mkF, argsToLocals, Value.category]; done) | rfl
set_option maxRecDepth 65536 in
set_option maxHeartbeats 40000000 in
theorem own_sbLenn (l : Launch) (Z : State) (a0 : Array Value) (hw : ∀ d ∈ tables_1, d.before a0 Z = true) (sb t : Addr) (ct : ClassId) (cs : List Nat)  (h0 : Heap) (n0 : Nat) (O : Old Z n0 h0) (S : SBn Z h0 sb t ct cs) :
    Ctr l Z n0 (⟨"java/lang/StringBuilder", "length", "()I"⟩ : MethodName) jdk_67_method_93_code 1 (some .int) [] ({ frames := 1, cells := 0, slots := 0, locals := 12 } : Room) #[(.ref sb)] h0 [] (fun v h => v = some (.int (Int32.ofNat cs.length)) ∧ h0 = h) := by
  refine enter (plainFor_of_name own_pn_java_lang_StringBuilder) (fun m => own_ef_own_d43 m sb) O (fun _ q => nomatch q) ?_
  intro p e s m below meth c T w
  refine i_aloadN w own_d43_0 rfl rfl (pc' := 1) rfl ?_
  refine c_super w (y := (⟨"java/lang/AbstractStringBuilder", "length", "()I"⟩ : MethodName)) (C := "java/lang/StringBuilder") (a := sb) (argsL := []) (st := []) own_d43_1 (by decide) (hw _ (List.mem_of_getElem? (i := 189) rfl)) (hw _ (List.mem_of_getElem? (i := 185) rfl)) (hw _ (List.mem_of_getElem? (i := 78) rfl)) (hw _ (List.mem_of_getElem? (i := 190) rfl)) (hw _ (List.mem_of_getElem? (i := 123) rfl)) (face_of (hw _ (List.mem_of_getElem? (i := 131) rfl)) rfl) (by decide) own_pd_pqI rfl S.1 (own_abLenn l Z a0 hw sb t ct cs h0 n0 w.old S) rfl (by decide) (W := 0) (Nat.le_of_eq rfl) (by decide) (by decide) (by decide) (fun _ q => nomatch q) (pc' := 4) rfl ?_
  intro v135 T135 h135 w135 K135 q135
  obtain ⟨rfl, rfl⟩ := q135
  show Goes p e below _ T135 (mkF m 4 #[.val (.ref sb)] [(.int (Int32.ofNat cs.length))])
  exact i_retI w135 own_d43_4 rfl ⟨rfl, rfl⟩ (by decide) (by decide)
theorem own_d41_0 : decode jdk_42_method_150_code 0 = .ok (.aload_n 0, 1) := by decide +kernel
theorem own_d41_1 : decode jdk_42_method_150_code 1 = .ok (.invokespecial 1, 3) := by decide +kernel
theorem own_d41_4 : decode jdk_42_method_150_code 4 = .ok (.aload_n 1, 1) := by decide +kernel
theorem own_d41_5 : decode jdk_42_method_150_code 5 = .ok (.invokevirtual 552, 3) := by decide +kernel
theorem own_d41_8 : decode jdk_42_method_150_code 8 = .ok (.astore_n 3, 1) := by decide +kernel
theorem own_d41_9 : decode jdk_42_method_150_code 9 = .ok (.aload_n 1, 1) := by decide +kernel
theorem own_d41_10 : decode jdk_42_method_150_code 10 = .ok (.invokevirtual 549, 3) := by decide +kernel
theorem own_d41_13 : decode jdk_42_method_150_code 13 = .ok (.istore 4, 2) := by decide +kernel
theorem own_d41_15 : decode jdk_42_method_150_code 15 = .ok (.aload_n 1, 1) := by decide +kernel
theorem own_d41_16 : decode jdk_42_method_150_code 16 = .ok (.invokevirtual 1047, 3) := by decide +kernel
theorem own_d41_19 : decode jdk_42_method_150_code 19 = .ok (.ifCond .eq 22, 3) := by decide +kernel
theorem own_d41_22 : decode jdk_42_method_150_code 22 = .ok (.aload_n 0, 1) := by decide +kernel
theorem own_d41_23 : decode jdk_42_method_150_code 23 = .ok (.iconst 0, 1) := by decide +kernel
theorem own_d41_24 : decode jdk_42_method_150_code 24 = .ok (.putfield 15, 3) := by decide +kernel
theorem own_d41_27 : decode jdk_42_method_150_code 27 = .ok (.aload_n 0, 1) := by decide +kernel
theorem own_d41_28 : decode jdk_42_method_150_code 28 = .ok (.aload_n 3, 1) := by decide +kernel
theorem own_d41_29 : decode jdk_42_method_150_code 29 = .ok (.iconst 0, 1) := by decide +kernel
theorem own_d41_30 : decode jdk_42_method_150_code 30 = .ok (.iload 4, 2) := by decide +kernel
theorem own_d41_32 : decode jdk_42_method_150_code 32 = .ok (.invokestatic 54, 3) := by decide +kernel
theorem own_d41_35 : decode jdk_42_method_150_code 35 = .ok (.putfield 9, 3) := by decide +kernel
theorem own_d41_38 : decode jdk_42_method_150_code 38 = .ok (.goto 59, 3) := by decide +kernel
theorem own_d41_41 : decode jdk_42_method_150_code 41 = .ok (.getstatic 38, 3) := by decide +kernel
theorem own_d41_44 : decode jdk_42_method_150_code 44 = .ok (.ifCond .eq 35, 3) := by decide +kernel
theorem own_d41_47 : decode jdk_42_method_150_code 47 = .ok (.aload_n 1, 1) := by decide +kernel
theorem own_d41_48 : decode jdk_42_method_150_code 48 = .ok (.getfield 1048, 3) := by decide +kernel
theorem own_d41_51 : decode jdk_42_method_150_code 51 = .ok (.ifCond .eq 28, 3) := by decide +kernel
theorem own_d41_54 : decode jdk_42_method_150_code 54 = .ok (.aload_n 0, 1) := by decide +kernel
theorem own_d41_55 : decode jdk_42_method_150_code 55 = .ok (.aload_n 3, 1) := by decide +kernel
theorem own_d41_56 : decode jdk_42_method_150_code 56 = .ok (.iconst 0, 1) := by decide +kernel
theorem own_d41_57 : decode jdk_42_method_150_code 57 = .ok (.iload 4, 2) := by decide +kernel
theorem own_d41_59 : decode jdk_42_method_150_code 59 = .ok (.invokestatic 1051, 3) := by decide +kernel
theorem own_d41_62 : decode jdk_42_method_150_code 62 = .ok (.putfield 9, 3) := by decide +kernel
theorem own_d41_65 : decode jdk_42_method_150_code 65 = .ok (.aload_n 0, 1) := by decide +kernel
theorem own_d41_66 : decode jdk_42_method_150_code 66 = .ok (.aload_n 0, 1) := by decide +kernel
theorem own_d41_67 : decode jdk_42_method_150_code 67 = .ok (.getfield 9, 3) := by decide +kernel
theorem own_d41_70 : decode jdk_42_method_150_code 70 = .ok (.iload 4, 2) := by decide +kernel
theorem own_d41_72 : decode jdk_42_method_150_code 72 = .ok (.invokestatic 47, 3) := by decide +kernel
theorem own_d41_75 : decode jdk_42_method_150_code 75 = .ok (.putfield 15, 3) := by decide +kernel
theorem own_d41_78 : decode jdk_42_method_150_code 78 = .ok (.return_, 1) := by decide +kernel
theorem own_d41_79 : decode jdk_42_method_150_code 79 = .ok (.aload_n 0, 1) := by decide +kernel
theorem own_d41_80 : decode jdk_42_method_150_code 80 = .ok (.iconst 1, 1) := by decide +kernel
theorem own_d41_81 : decode jdk_42_method_150_code 81 = .ok (.putfield 15, 3) := by decide +kernel
theorem own_d41_84 : decode jdk_42_method_150_code 84 = .ok (.aload_n 0, 1) := by decide +kernel
theorem own_d41_85 : decode jdk_42_method_150_code 85 = .ok (.aload_n 3, 1) := by decide +kernel
theorem own_d41_86 : decode jdk_42_method_150_code 86 = .ok (.iconst 0, 1) := by decide +kernel
theorem own_d41_87 : decode jdk_42_method_150_code 87 = .ok (.iload 4, 2) := by decide +kernel
theorem own_d41_89 : decode jdk_42_method_150_code 89 = .ok (.iconst 1, 1) := by decide +kernel
theorem own_d41_90 : decode jdk_42_method_150_code 90 = .ok (.ishl, 1) := by decide +kernel
theorem own_d41_91 : decode jdk_42_method_150_code 91 = .ok (.invokestatic 54, 3) := by decide +kernel
theorem own_d41_94 : decode jdk_42_method_150_code 94 = .ok (.putfield 9, 3) := by decide +kernel
theorem own_d41_97 : decode jdk_42_method_150_code 97 = .ok (.return_, 1) := by decide +kernel
theorem own_pd_pLjava_lang_AbstractStringBuildereLjava_lang_VoideqV : parseMethodDescriptor "(Ljava/lang/AbstractStringBuilder;Ljava/lang/Void;)V" = some ⟨[(.object "java/lang/AbstractStringBuilder"), (.object "java/lang/Void")], none⟩ := by decide +kernel
theorem own_ef_own_d41n2 (m : MethodId) (x0 : Addr) (x1 : Addr) : entryFrame m #[(.ref x0), (.ref x1), .null] 5 = mkF m 0 #[.val (.ref x0), .val (.ref x1), .val .null, .unset, .unset] [] := by
  first | (simp [entryFrame, mkF, argsToLocals, Value.category]; done) | rfl
set_option maxRecDepth 65536 in
set_option maxHeartbeats 40000000 in
theorem own_strABn (l : Launch) (Z : State) (a0 : Array Value) (hw : ∀ d ∈ tables_1, d.before a0 Z = true) (a : Addr) (sb t : Addr) (ct : ClassId) (cs : List Nat) {v0 c0 : Value} (G1 : Int32) (hG : ¬ G1 = 0) (SG : Sta Z Z.heap "java/lang/String" "COMPACT_STRINGS" "Z" (.int G1)) (h0 : Heap) (n0 : Nat) (O : Old Z n0 h0) (ha : n0 ≤ a) (hta : t ≠ a) (Ea : Exa Z h0 a ST) (Fv : Fld Z h0 a ST "value" "[B" v0) (Fc : Fld Z h0 a ST "coder" "B" c0) (S : SBn Z h0 sb t ct cs) (hn : cs.length < 16) :
    Ctr l Z n0 (⟨"java/lang/String", "<init>", "(Ljava/lang/AbstractStringBuilder;Ljava/lang/Void;)V"⟩ : MethodName) jdk_42_method_150_code 5 none [] ({ frames := 3, cells := 1, slots := 32, locals := 49 } : Room) #[(.ref a), (.ref sb), .null] h0 [a] (fun v h => v = none ∧ ∃ d cd, Str Z h a d cd cs) := by
  refine enter (plainFor_of_name own_pn_java_lang_String) (fun m => own_ef_own_d41n2 m a sb) O (allS ha all0) ?_
  intro p e s m below meth c T w
  refine i_aloadN w own_d41_0 rfl rfl (pc' := 1) rfl ?_
  refine i_initO w own_d41_1 (hw _ (List.mem_of_getElem? (i := 26) rfl)) (hw _ (List.mem_of_getElem? (i := 27) rfl)) (hw _ (List.mem_of_getElem? (i := 28) rfl)) rfl (by decide) (W := 0) (Nat.le_of_eq rfl) (by decide) (pc' := 4) rfl ?_
  intro T136 w136
  show Goes p e below _ T136 (mkF m 4 #[.val (.ref a), .val (.ref sb), .val .null, .unset, .unset] [])
  refine i_aloadN w136 own_d41_4 rfl rfl (pc' := 5) rfl ?_
  refine c_virtual w136 (y := (⟨"java/lang/AbstractStringBuilder", "getValue", "()[B"⟩ : MethodName)) (C := "java/lang/StringBuilder") (a := sb) (argsL := []) (st := []) own_d41_5 (hw _ (List.mem_of_getElem? (i := 178) rfl)) (hw _ (List.mem_of_getElem? (i := 179) rfl)) (hw _ (List.mem_of_getElem? (i := 181) rfl)) (hw _ (List.mem_of_getElem? (i := 180) rfl)) (hw _ (List.mem_of_getElem? (i := 182) rfl)) (hw _ (List.mem_of_getElem? (i := 78) rfl)) (by decide) own_pd_pqAB rfl S.1 (own_getValuen l Z a0 hw sb t ct cs h0 n0 w136.old S) rfl (by decide) (W := 0) (Nat.le_of_eq rfl) (by decide) (by decide) (by decide) (fun _ q => nomatch q) (pc' := 8) rfl ?_
  intro v137 T137 h137 w137 K137 q137
  obtain ⟨rfl, rfl⟩ := q137
  show Goes p e below _ T137 (mkF m 8 #[.val (.ref a), .val (.ref sb), .val .null, .unset, .unset] [(.ref t)])
  refine i_astoreN w137 own_d41_8 rfl (l' := #[.val (.ref a), .val (.ref sb), .val .null, .val (.ref t), .unset]) rfl (pc' := 9) rfl ?_
  refine i_aloadN w137 own_d41_9 rfl rfl (pc' := 10) rfl ?_
  refine c_virtualZ w137 (y := (⟨"java/lang/StringBuilder", "length", "()I"⟩ : MethodName)) (C := "java/lang/StringBuilder") (a := sb) (argsL := []) (st := []) own_d41_10 (hw _ (List.mem_of_getElem? (i := 183) rfl)) (hw _ (List.mem_of_getElem? (i := 184) rfl)) (face_of (hw _ (List.mem_of_getElem? (i := 131) rfl)) rfl) rfl (by decide) (hw _ (List.mem_of_getElem? (i := 186) rfl)) (hw _ (List.mem_of_getElem? (i := 187) rfl)) (hw _ (List.mem_of_getElem? (i := 188) rfl)) (hw _ (List.mem_of_getElem? (i := 70) rfl)) (by decide) own_pd_pqI rfl S.1 (own_sbLenn l Z a0 hw sb t ct cs h0 n0 w137.old S) rfl (by decide) (W := 0) (Nat.le_of_eq rfl) (by decide) (by decide) (by decide) (fun _ q => nomatch q) (pc' := 13) rfl ?_
  intro v138 T138 h138 w138 K138 q138
  obtain ⟨rfl, rfl⟩ := q138
  show Goes p e below _ T138 (mkF m 13 #[.val (.ref a), .val (.ref sb), .val .null, .val (.ref t), .unset] [(.int (Int32.ofNat cs.length))])
  refine i_istore w138 own_d41_13 (l' := #[.val (.ref a), .val (.ref sb), .val .null, .val (.ref t), .val (.int (Int32.ofNat cs.length))]) rfl (pc' := 15) rfl ?_
  refine i_aloadN w138 own_d41_15 rfl rfl (pc' := 16) rfl ?_
  refine c_virtual w138 (y := (⟨"java/lang/AbstractStringBuilder", "isLatin1", "()Z"⟩ : MethodName)) (C := "java/lang/StringBuilder") (a := sb) (argsL := []) (st := []) own_d41_16 (hw _ (List.mem_of_getElem? (i := 191) rfl)) (hw _ (List.mem_of_getElem? (i := 134) rfl)) (hw _ (List.mem_of_getElem? (i := 136) rfl)) (hw _ (List.mem_of_getElem? (i := 135) rfl)) (hw _ (List.mem_of_getElem? (i := 137) rfl)) (hw _ (List.mem_of_getElem? (i := 78) rfl)) (by decide) own_pd_pqZ rfl S.1 (own_abLatn l Z a0 hw sb t ct cs G1 hG SG h0 n0 w138.old S) rfl (by decide) (W := 0) (Nat.le_of_eq rfl) (by decide) (by decide) (by decide) (fun _ q => nomatch q) (pc' := 19) rfl ?_
  intro v139 T139 h139 w139 K139 q139
  obtain ⟨rfl, rfl⟩ := q139
  show Goes p e below _ T139 (mkF m 19 #[.val (.ref a), .val (.ref sb), .val .null, .val (.ref t), .val (.int (Int32.ofNat cs.length))] [(.int (1 : Int32))])
  refine i_if_eq_N w139 (by decide) own_d41_19 (pc' := 22) rfl ?_
  refine i_aloadN w139 own_d41_22 rfl rfl (pc' := 23) rfl ?_
  refine i_iconst w139 own_d41_23 (z := (0 : Int32)) (by decide) (pc' := 24) rfl ?_
  refine i_putF w139 own_d41_24 (hw _ (List.mem_of_getElem? (i := 60) rfl)) Fc Ea (Or.inr ⟨(hw _ (List.mem_of_getElem? (i := 61) rfl)), rfl, rfl⟩) (hw _ (List.mem_of_getElem? (i := 17) rfl)) (ty := .byte) (by decide) rfl rfl (Or.inl (List.mem_singleton.mpr rfl)) (pc' := 27) rfl ?_
  intro T140 h140 w140 W140
  show Goes p e below _ T140 (mkF m 27 #[.val (.ref a), .val (.ref sb), .val .null, .val (.ref t), .val (.int (Int32.ofNat cs.length))] [])
  have Fc1 := Fld.same W140 Fc
  have Fv1 := Fv.other W140 (Or.inr (slot_ne (Or.inr (hw _ (List.mem_of_getElem? (i := 63) rfl))) (Or.inr (hw _ (List.mem_of_getElem? (i := 61) rfl))) (by decide) (t := (.array .byte)) (t' := .byte) (by decide) (by decide)))
  have Ea1 := Ea.wr W140
  have At1 := S.2.2.2.2.2.1.other W140 hta
  refine i_aloadN w140 own_d41_27 rfl rfl (pc' := 28) rfl ?_
  refine i_aloadN w140 own_d41_28 rfl rfl (pc' := 29) rfl ?_
  refine i_iconst w140 own_d41_29 (z := (0 : Int32)) (by decide) (pc' := 30) rfl ?_
  refine i_iload w140 own_d41_30 rfl (pc' := 32) rfl ?_
  refine c_static w140 (y := (⟨"java/util/Arrays", "copyOfRange", "([BII)[B"⟩ : MethodName)) (argsL := [(.ref t), (.int (0 : Int32)), (.int (Int32.ofNat cs.length))]) (st := [(.ref a)]) own_d41_32 (hw _ (List.mem_of_getElem? (i := 194) rfl)) (hw _ (List.mem_of_getElem? (i := 195) rfl)) (hw _ (List.mem_of_getElem? (i := 196) rfl)) (hw _ (List.mem_of_getElem? (i := 197) rfl)) (by decide) own_pd_pABIIqAB rfl (own_cor l Z a0 hw t ct _ 0 cs.length h140 n0 w140.old At1 (Nat.zero_le _) (by rw [own_lenn (by omega)]; omega) (by omega) (fun _ => by rw [own_lenn (by omega)]; omega)) rfl (by decide) (W := 1) (Nat.le_of_eq rfl) (by decide) (by decide) (by decide) (fun _ q => nomatch q) (pc' := 35) rfl ?_
  intro v141 T141 h141 w141 K141 q141
  obtain ⟨d, cd, rfl, zd, Ad⟩ := q141
  show Goes p e below _ T141 (mkF m 35 #[.val (.ref a), .val (.ref sb), .val .null, .val (.ref t), .val (.int (Int32.ofNat cs.length))] [(.ref d), (.ref a)])
  rw [own_pren] at Ad
  have Fc2 := Fc1.keep K141 nin0
  have Fv2 := Fv1.keep K141 nin0
  have Ea2 := Ea1.keep K141
  have lad : a < d := Nat.lt_of_lt_of_le Ea1.lt zd
  refine i_putF w141 own_d41_35 (hw _ (List.mem_of_getElem? (i := 62) rfl)) Fv2 Ea2 (Or.inr ⟨(hw _ (List.mem_of_getElem? (i := 63) rfl)), rfl, rfl⟩) (hw _ (List.mem_of_getElem? (i := 17) rfl)) (ty := (.array .byte)) (by decide) rfl rfl (Or.inl (List.mem_singleton.mpr rfl)) (pc' := 38) rfl ?_
  intro T143 h143 w143 W143
  show Goes p e below _ T143 (mkF m 38 #[.val (.ref a), .val (.ref sb), .val .null, .val (.ref t), .val (.int (Int32.ofNat cs.length))] [])
  have Fv3 := Fld.same W143 Fv2
  have Fc3 := Fc2.other W143 (Or.inr (slot_ne (Or.inr (hw _ (List.mem_of_getElem? (i := 61) rfl))) (Or.inr (hw _ (List.mem_of_getElem? (i := 63) rfl))) (by decide) (t := .byte) (t' := (.array .byte)) (by decide) (by decide)))
  have Ea3 := Ea2.wr W143
  have Ad3 := Ad.other W143 (Nat.ne_of_gt lad)
  refine i_goto w143 own_d41_38 (pc' := 97) (by decide) ?_
  exact i_ret0 w143 own_d41_97 rfl ⟨rfl, d, cd, Or.inl ⟨Ea3, Fv3, Fc3, Ad3, S.2.2.2.2.2.2.2⟩⟩ (by decide) (by decide)
theorem own_d40_0 : decode jdk_42_method_53_code 0 = .ok (.aload_n 0, 1) := by decide +kernel
theorem own_d40_1 : decode jdk_42_method_53_code 1 = .ok (.aload_n 1, 1) := by decide +kernel
theorem own_d40_2 : decode jdk_42_method_53_code 2 = .ok (.aconst_null, 1) := by decide +kernel
theorem own_d40_3 : decode jdk_42_method_53_code 3 = .ok (.invokespecial 489, 3) := by decide +kernel
theorem own_d40_6 : decode jdk_42_method_53_code 6 = .ok (.return_, 1) := by decide +kernel
theorem own_pd_pLjava_lang_StringBuildereqV : parseMethodDescriptor "(Ljava/lang/StringBuilder;)V" = some ⟨[(.object "java/lang/StringBuilder")], none⟩ := by decide +kernel
theorem own_ef_own_d40 (m : MethodId) (x0 : Addr) (x1 : Addr) : entryFrame m #[(.ref x0), (.ref x1)] 2 = mkF m 0 #[.val (.ref x0), .val (.ref x1)] [] := by
  first | (simp [entryFrame, mkF, argsToLocals, Value.category]; done) | rfl
set_option maxRecDepth 65536 in
set_option maxHeartbeats 40000000 in
theorem own_strSBn (l : Launch) (Z : State) (a0 : Array Value) (hw : ∀ d ∈ tables_1, d.before a0 Z = true) (a : Addr) (sb t : Addr) (ct : ClassId) (cs : List Nat) {v0 c0 : Value} (G1 : Int32) (hG : ¬ G1 = 0) (SG : Sta Z Z.heap "java/lang/String" "COMPACT_STRINGS" "Z" (.int G1)) (h0 : Heap) (n0 : Nat) (O : Old Z n0 h0) (ha : n0 ≤ a) (hta : t ≠ a) (Ea : Exa Z h0 a ST) (Fv : Fld Z h0 a ST "value" "[B" v0) (Fc : Fld Z h0 a ST "coder" "B" c0) (S : SBn Z h0 sb t ct cs) (hn : cs.length < 16) :
    Ctr l Z n0 (⟨"java/lang/String", "<init>", "(Ljava/lang/StringBuilder;)V"⟩ : MethodName) jdk_42_method_53_code 2 none [] ({ frames := 4, cells := 1, slots := 32, locals := 65 } : Room) #[(.ref a), (.ref sb)] h0 [a] (fun v h => v = none ∧ ∃ d cd, Str Z h a d cd cs) := by
  refine enter (plainFor_of_name own_pn_java_lang_String) (fun m => own_ef_own_d40 m a sb) O (allS ha all0) ?_
  intro p e s m below meth c T w
  refine i_aloadN w own_d40_0 rfl rfl (pc' := 1) rfl ?_
  refine i_aloadN w own_d40_1 rfl rfl (pc' := 2) rfl ?_
  refine i_aconstNull w own_d40_2 (pc' := 3) rfl ?_
  refine c_special w (y := (⟨"java/lang/String", "<init>", "(Ljava/lang/AbstractStringBuilder;Ljava/lang/Void;)V"⟩ : MethodName)) (a := a) (argsL := [(.ref sb), .null]) (st := []) own_d40_3 rfl (hw _ (List.mem_of_getElem? (i := 175) rfl)) (hw _ (List.mem_of_getElem? (i := 176) rfl)) (hw _ (List.mem_of_getElem? (i := 18) rfl)) (hw _ (List.mem_of_getElem? (i := 177) rfl)) (by decide) own_pd_pLjava_lang_AbstractStringBuildereLjava_lang_VoideqV rfl (own_strABn l Z a0 hw a sb t ct cs G1 hG SG h0 n0 w.old ha hta Ea Fv Fc S hn) rfl (by decide) (W := 0) (Nat.le_of_eq rfl) (by decide) (by decide) (by decide) (allS (Or.inl (List.mem_singleton.mpr rfl)) all0) (pc' := 6) rfl ?_
  intro v144 T144 h144 w144 K144 q144
  obtain ⟨rfl, d, cd, Sa⟩ := q144
  show Goes p e below _ T144 (mkF m 6 #[.val (.ref a), .val (.ref sb)] [])
  exact i_ret0 w144 own_d40_6 rfl ⟨rfl, d, cd, Sa⟩ (by decide) (by decide)
theorem own_d39_0 : decode jdk_67_method_42_code 0 = .ok (.new 18, 3) := by decide +kernel
theorem own_d39_3 : decode jdk_67_method_42_code 3 = .ok (.dup, 1) := by decide +kernel
theorem own_d39_4 : decode jdk_67_method_42_code 4 = .ok (.aload_n 0, 1) := by decide +kernel
theorem own_d39_5 : decode jdk_67_method_42_code 5 = .ok (.invokespecial 137, 3) := by decide +kernel
theorem own_d39_8 : decode jdk_67_method_42_code 8 = .ok (.areturn, 1) := by decide +kernel
theorem own_pd_pqLjava_lang_Stringe : parseMethodDescriptor "()Ljava/lang/String;" = some ⟨[], some (.object "java/lang/String")⟩ := by decide +kernel
theorem own_ef_own_d39 (m : MethodId) (x0 : Addr) : entryFrame m #[(.ref x0)] 1 = mkF m 0 #[.val (.ref x0)] [] := by
  first | (simp [entryFrame, mkF, argsToLocals, Value.category]; done) | rfl
set_option maxRecDepth 65536 in
set_option maxHeartbeats 40000000 in
theorem own_sbToSn (l : Launch) (Z : State) (a0 : Array Value) (hw : ∀ d ∈ tables_1, d.before a0 Z = true) (sb t : Addr) (ct : ClassId) (cs : List Nat) (G1 : Int32) (hG : ¬ G1 = 0) (SG : Sta Z Z.heap "java/lang/String" "COMPACT_STRINGS" "Z" (.int G1)) (h0 : Heap) (n0 : Nat) (O : Old Z n0 h0) (S : SBn Z h0 sb t ct cs) (hn : cs.length < 16) :
    Ctr l Z n0 (⟨"java/lang/StringBuilder", "toString", "()Ljava/lang/String;"⟩ : MethodName) jdk_67_method_42_code 1 (some (.object "java/lang/String")) [] ({ frames := 5, cells := 2, slots := 36, locals := 79 } : Room) #[(.ref sb)] h0 [] (fun v h => ∃ a d cd, v = some (.ref a) ∧ h0.size ≤ a ∧ Str Z h a d cd cs) := by
  refine enter (plainFor_of_name own_pn_java_lang_StringBuilder) (fun m => own_ef_own_d39 m sb) O (fun _ q => nomatch q) ?_
  intro p e s m below meth c T w
  refine i_new w own_d39_0 (hw _ (List.mem_of_getElem? (i := 171) rfl)) (hw _ (List.mem_of_getElem? (i := 17) rfl)) (hw _ (List.mem_of_getElem? (i := 18) rfl)) (by decide) (by decide) (pc' := 3) rfl ?_
  intro a T146 h146 g_a w146 z_a E146 A_a D_a
  show Goes p e below _ T146 (mkF m 3 #[.val (.ref sb)] [(.ref a)])
  have Fv : Fld Z h146 a ST "value" "[B" .null := D_a (Or.inr (hw _ (List.mem_of_getElem? (i := 63) rfl))) (ty := .array .byte) (by decide)
  have Fc : Fld Z h146 a ST "coder" "B" (.int 0) := D_a (Or.inr (hw _ (List.mem_of_getElem? (i := 61) rfl))) (ty := .byte) (by decide)
  have S1 := S.ext E146
  refine i_dup w146 own_d39_3 rfl (pc' := 4) rfl ?_
  refine i_aloadN w146 own_d39_4 rfl rfl (pc' := 5) rfl ?_
  refine c_special w146 (y := (⟨"java/lang/String", "<init>", "(Ljava/lang/StringBuilder;)V"⟩ : MethodName)) (a := a) (argsL := [(.ref sb)]) (st := [(.ref a)]) own_d39_5 rfl (hw _ (List.mem_of_getElem? (i := 172) rfl)) (hw _ (List.mem_of_getElem? (i := 173) rfl)) (hw _ (List.mem_of_getElem? (i := 18) rfl)) (hw _ (List.mem_of_getElem? (i := 174) rfl)) (by decide) own_pd_pLjava_lang_StringBuildereqV rfl (own_strSBn l Z a0 hw a sb t ct cs G1 hG SG h146 n0 w146.old (Nat.le_trans w146.n0h0 z_a) (Nat.ne_of_lt (g_a ▸ S.ltT)) A_a Fv Fc S1 hn) rfl (by decide) (W := 1) (Nat.le_of_eq rfl) (by decide) (by decide) (by decide) (allS (Or.inr z_a) all0) (pc' := 8) rfl ?_
  intro v148 T148 h148 w148 K148 q148
  obtain ⟨rfl, d, cd, Sa⟩ := q148
  show Goes p e below _ T148 (mkF m 8 #[.val (.ref sb)] [(.ref a)])
  exact i_retA w148 own_d39_8 rfl rfl rfl ⟨a, d, cd, rfl, z_a, Sa⟩ (by decide) (by decide)
set_option maxRecDepth 65536 in
set_option maxHeartbeats 40000000 in
theorem own_getValuew (l : Launch) (Z : State) (a0 : Array Value) (hw : ∀ d ∈ tables_1, d.before a0 Z = true) (sb t : Addr) (ct : ClassId) (cs : List Nat)  (h0 : Heap) (n0 : Nat) (O : Old Z n0 h0) (S : SBw Z h0 sb t ct cs) :
    Ctr l Z n0 (⟨"java/lang/AbstractStringBuilder", "getValue", "()[B"⟩ : MethodName) jdk_68_method_64_code 1 (some (.array .byte)) [] ({ frames := 0, cells := 0, slots := 0, locals := 0 } : Room) #[(.ref sb)] h0 [] (fun v h => v = some (.ref t) ∧ h0 = h) := by
  refine enter (plainFor_of_name own_pn_java_lang_AbstractStringBuilder) (fun m => own_ef_own_d42 m sb) O (fun _ q => nomatch q) ?_
  intro p e s m below meth c T w
  refine i_aloadN w own_d42_0 rfl rfl (pc' := 1) rfl ?_
  refine i_getF w own_d42_1 (hw _ (List.mem_of_getElem? (i := 82) rfl)) S.2.1 (pc' := 4) rfl ?_
  intro T150 w150
  exact i_retA w150 own_d42_4 rfl rfl rfl ⟨rfl, rfl⟩ (by decide) (by decide)
set_option maxRecDepth 65536 in
set_option maxHeartbeats 40000000 in
theorem own_abLenw (l : Launch) (Z : State) (a0 : Array Value) (hw : ∀ d ∈ tables_1, d.before a0 Z = true) (sb t : Addr) (ct : ClassId) (cs : List Nat)  (h0 : Heap) (n0 : Nat) (O : Old Z n0 h0) (S : SBw Z h0 sb t ct cs) :
    Ctr l Z n0 (⟨"java/lang/AbstractStringBuilder", "length", "()I"⟩ : MethodName) jdk_68_method_6_code 1 (some .int) [] ({ frames := 0, cells := 0, slots := 0, locals := 0 } : Room) #[(.ref sb)] h0 [] (fun v h => v = some (.int (Int32.ofNat cs.length)) ∧ h0 = h) := by
  refine enter (plainFor_of_name own_pn_java_lang_AbstractStringBuilder) (fun m => own_ef_own_d44 m sb) O (fun _ q => nomatch q) ?_
  intro p e s m below meth c T w
  refine i_aloadN w own_d44_0 rfl rfl (pc' := 1) rfl ?_
  refine i_getF w own_d44_1 (hw _ (List.mem_of_getElem? (i := 126) rfl)) S.2.2.2.1 (pc' := 4) rfl ?_
  intro T151 w151
  exact i_retI w151 own_d44_4 rfl ⟨rfl, rfl⟩ (by decide) (by decide)
set_option maxRecDepth 65536 in
set_option maxHeartbeats 40000000 in
theorem own_sbLenw (l : Launch) (Z : State) (a0 : Array Value) (hw : ∀ d ∈ tables_1, d.before a0 Z = true) (sb t : Addr) (ct : ClassId) (cs : List Nat)  (h0 : Heap) (n0 : Nat) (O : Old Z n0 h0) (S : SBw Z h0 sb t ct cs) :
    Ctr l Z n0 (⟨"java/lang/StringBuilder", "length", "()I"⟩ : MethodName) jdk_67_method_93_code 1 (some .int) [] ({ frames := 1, cells := 0, slots := 0, locals := 12 } : Room) #[(.ref sb)] h0 [] (fun v h => v = some (.int (Int32.ofNat cs.length)) ∧ h0 = h) := by
  refine enter (plainFor_of_name own_pn_java_lang_StringBuilder) (fun m => own_ef_own_d43 m sb) O (fun _ q => nomatch q) ?_
  intro p e s m below meth c T w
  refine i_aloadN w own_d43_0 rfl rfl (pc' := 1) rfl ?_
  refine c_super w (y := (⟨"java/lang/AbstractStringBuilder", "length", "()I"⟩ : MethodName)) (C := "java/lang/StringBuilder") (a := sb) (argsL := []) (st := []) own_d43_1 (by decide) (hw _ (List.mem_of_getElem? (i := 189) rfl)) (hw _ (List.mem_of_getElem? (i := 185) rfl)) (hw _ (List.mem_of_getElem? (i := 78) rfl)) (hw _ (List.mem_of_getElem? (i := 190) rfl)) (hw _ (List.mem_of_getElem? (i := 123) rfl)) (face_of (hw _ (List.mem_of_getElem? (i := 131) rfl)) rfl) (by decide) own_pd_pqI rfl S.1 (own_abLenw l Z a0 hw sb t ct cs h0 n0 w.old S) rfl (by decide) (W := 0) (Nat.le_of_eq rfl) (by decide) (by decide) (by decide) (fun _ q => nomatch q) (pc' := 4) rfl ?_
  intro v152 T152 h152 w152 K152 q152
  obtain ⟨rfl, rfl⟩ := q152
  show Goes p e below _ T152 (mkF m 4 #[.val (.ref sb)] [(.int (Int32.ofNat cs.length))])
  exact i_retI w152 own_d43_4 rfl ⟨rfl, rfl⟩ (by decide) (by decide)
set_option maxRecDepth 65536 in
set_option maxHeartbeats 40000000 in
theorem own_strABw (l : Launch) (Z : State) (a0 : Array Value) (hw : ∀ d ∈ tables_1, d.before a0 Z = true) (a : Addr) (sb t : Addr) (ct : ClassId) (cs : List Nat) {v0 c0 : Value} (G1 : Int32) (hG : ¬ G1 = 0) (SG : Sta Z Z.heap "java/lang/String" "COMPACT_STRINGS" "Z" (.int G1)) (h0 : Heap) (n0 : Nat) (O : Old Z n0 h0) (ha : n0 ≤ a) (hta : t ≠ a) (Ea : Exa Z h0 a ST) (Fv : Fld Z h0 a ST "value" "[B" v0) (Fc : Fld Z h0 a ST "coder" "B" c0) (S : SBw Z h0 sb t ct cs) (hex : ∃ k ∈ cs, 256 ≤ k) (hn : cs.length < 16) :
    Ctr l Z n0 (⟨"java/lang/String", "<init>", "(Ljava/lang/AbstractStringBuilder;Ljava/lang/Void;)V"⟩ : MethodName) jdk_42_method_150_code 5 none [] ({ frames := 3, cells := 1, slots := 32, locals := 49 } : Room) #[(.ref a), (.ref sb), .null] h0 [a] (fun v h => v = none ∧ ∃ d cd, Str Z h a d cd cs) := by
  refine enter (plainFor_of_name own_pn_java_lang_String) (fun m => own_ef_own_d41n2 m a sb) O (allS ha all0) ?_
  intro p e s m below meth c T w
  refine i_aloadN w own_d41_0 rfl rfl (pc' := 1) rfl ?_
  refine i_initO w own_d41_1 (hw _ (List.mem_of_getElem? (i := 26) rfl)) (hw _ (List.mem_of_getElem? (i := 27) rfl)) (hw _ (List.mem_of_getElem? (i := 28) rfl)) rfl (by decide) (W := 0) (Nat.le_of_eq rfl) (by decide) (pc' := 4) rfl ?_
  intro T153 w153
  show Goes p e below _ T153 (mkF m 4 #[.val (.ref a), .val (.ref sb), .val .null, .unset, .unset] [])
  refine i_aloadN w153 own_d41_4 rfl rfl (pc' := 5) rfl ?_
  refine c_virtual w153 (y := (⟨"java/lang/AbstractStringBuilder", "getValue", "()[B"⟩ : MethodName)) (C := "java/lang/StringBuilder") (a := sb) (argsL := []) (st := []) own_d41_5 (hw _ (List.mem_of_getElem? (i := 178) rfl)) (hw _ (List.mem_of_getElem? (i := 179) rfl)) (hw _ (List.mem_of_getElem? (i := 181) rfl)) (hw _ (List.mem_of_getElem? (i := 180) rfl)) (hw _ (List.mem_of_getElem? (i := 182) rfl)) (hw _ (List.mem_of_getElem? (i := 78) rfl)) (by decide) own_pd_pqAB rfl S.1 (own_getValuew l Z a0 hw sb t ct cs h0 n0 w153.old S) rfl (by decide) (W := 0) (Nat.le_of_eq rfl) (by decide) (by decide) (by decide) (fun _ q => nomatch q) (pc' := 8) rfl ?_
  intro v154 T154 h154 w154 K154 q154
  obtain ⟨rfl, rfl⟩ := q154
  show Goes p e below _ T154 (mkF m 8 #[.val (.ref a), .val (.ref sb), .val .null, .unset, .unset] [(.ref t)])
  refine i_astoreN w154 own_d41_8 rfl (l' := #[.val (.ref a), .val (.ref sb), .val .null, .val (.ref t), .unset]) rfl (pc' := 9) rfl ?_
  refine i_aloadN w154 own_d41_9 rfl rfl (pc' := 10) rfl ?_
  refine c_virtualZ w154 (y := (⟨"java/lang/StringBuilder", "length", "()I"⟩ : MethodName)) (C := "java/lang/StringBuilder") (a := sb) (argsL := []) (st := []) own_d41_10 (hw _ (List.mem_of_getElem? (i := 183) rfl)) (hw _ (List.mem_of_getElem? (i := 184) rfl)) (face_of (hw _ (List.mem_of_getElem? (i := 131) rfl)) rfl) rfl (by decide) (hw _ (List.mem_of_getElem? (i := 186) rfl)) (hw _ (List.mem_of_getElem? (i := 187) rfl)) (hw _ (List.mem_of_getElem? (i := 188) rfl)) (hw _ (List.mem_of_getElem? (i := 70) rfl)) (by decide) own_pd_pqI rfl S.1 (own_sbLenw l Z a0 hw sb t ct cs h0 n0 w154.old S) rfl (by decide) (W := 0) (Nat.le_of_eq rfl) (by decide) (by decide) (by decide) (fun _ q => nomatch q) (pc' := 13) rfl ?_
  intro v155 T155 h155 w155 K155 q155
  obtain ⟨rfl, rfl⟩ := q155
  show Goes p e below _ T155 (mkF m 13 #[.val (.ref a), .val (.ref sb), .val .null, .val (.ref t), .unset] [(.int (Int32.ofNat cs.length))])
  refine i_istore w155 own_d41_13 (l' := #[.val (.ref a), .val (.ref sb), .val .null, .val (.ref t), .val (.int (Int32.ofNat cs.length))]) rfl (pc' := 15) rfl ?_
  refine i_aloadN w155 own_d41_15 rfl rfl (pc' := 16) rfl ?_
  refine c_virtual w155 (y := (⟨"java/lang/AbstractStringBuilder", "isLatin1", "()Z"⟩ : MethodName)) (C := "java/lang/StringBuilder") (a := sb) (argsL := []) (st := []) own_d41_16 (hw _ (List.mem_of_getElem? (i := 191) rfl)) (hw _ (List.mem_of_getElem? (i := 134) rfl)) (hw _ (List.mem_of_getElem? (i := 136) rfl)) (hw _ (List.mem_of_getElem? (i := 135) rfl)) (hw _ (List.mem_of_getElem? (i := 137) rfl)) (hw _ (List.mem_of_getElem? (i := 78) rfl)) (by decide) own_pd_pqZ rfl S.1 (own_abLatw l Z a0 hw sb t ct cs G1 hG SG h0 n0 w155.old S) rfl (by decide) (W := 0) (Nat.le_of_eq rfl) (by decide) (by decide) (by decide) (fun _ q => nomatch q) (pc' := 19) rfl ?_
  intro v156 T156 h156 w156 K156 q156
  obtain ⟨rfl, rfl⟩ := q156
  show Goes p e below _ T156 (mkF m 19 #[.val (.ref a), .val (.ref sb), .val .null, .val (.ref t), .val (.int (Int32.ofNat cs.length))] [(.int (0 : Int32))])
  refine i_if_eq_Y w156 rfl own_d41_19 (pc' := 41) (by decide) ?_
  refine i_getS w156 own_d41_41 (hw _ (List.mem_of_getElem? (i := 29) rfl)) SG (pc' := 44) rfl ?_
  intro T157 w157
  refine i_if_eq_N w157 hG own_d41_44 (pc' := 47) rfl ?_
  refine i_aloadN w157 own_d41_47 rfl rfl (pc' := 48) rfl ?_
  refine i_getF w157 own_d41_48 (hw _ (List.mem_of_getElem? (i := 192) rfl)) S.2.2.2.2.1 (pc' := 51) rfl ?_
  intro T158 w158
  refine i_if_eq_Y w158 rfl own_d41_51 (pc' := 79) (by decide) ?_
  refine i_aloadN w158 own_d41_79 rfl rfl (pc' := 80) rfl ?_
  refine i_iconst w158 own_d41_80 (z := (1 : Int32)) (by decide) (pc' := 81) rfl ?_
  refine i_putF w158 own_d41_81 (hw _ (List.mem_of_getElem? (i := 60) rfl)) Fc Ea (Or.inr ⟨(hw _ (List.mem_of_getElem? (i := 61) rfl)), rfl, rfl⟩) (hw _ (List.mem_of_getElem? (i := 17) rfl)) (ty := .byte) (by decide) rfl rfl (Or.inl (List.mem_singleton.mpr rfl)) (pc' := 84) rfl ?_
  intro T159 h159 w159 W159
  show Goes p e below _ T159 (mkF m 84 #[.val (.ref a), .val (.ref sb), .val .null, .val (.ref t), .val (.int (Int32.ofNat cs.length))] [])
  have Fc1 := Fld.same W159 Fc
  have Fv1 := Fv.other W159 (Or.inr (slot_ne (Or.inr (hw _ (List.mem_of_getElem? (i := 63) rfl))) (Or.inr (hw _ (List.mem_of_getElem? (i := 61) rfl))) (by decide) (t := (.array .byte)) (t' := .byte) (by decide) (by decide)))
  have Ea1 := Ea.wr W159
  have At1 := S.2.2.2.2.2.1.other W159 hta
  refine i_aloadN w159 own_d41_84 rfl rfl (pc' := 85) rfl ?_
  refine i_aloadN w159 own_d41_85 rfl rfl (pc' := 86) rfl ?_
  refine i_iconst w159 own_d41_86 (z := (0 : Int32)) (by decide) (pc' := 87) rfl ?_
  refine i_iload w159 own_d41_87 rfl (pc' := 89) rfl ?_
  refine i_iconst w159 own_d41_89 (z := (1 : Int32)) (by decide) (pc' := 90) rfl ?_
  refine i_ishl w159 own_d41_90 (pc' := 91) rfl ?_
  rw [shl1]
  show Goes p e below _ T159 (mkF m 91 #[.val (.ref a), .val (.ref sb), .val .null, .val (.ref t), .val (.int (Int32.ofNat cs.length))] [(.int (Int32.ofNat (2 * cs.length))), (.int (0 : Int32)), (.ref t), (.ref a)])
  refine c_static w159 (y := (⟨"java/util/Arrays", "copyOfRange", "([BII)[B"⟩ : MethodName)) (argsL := [(.ref t), (.int (0 : Int32)), (.int (Int32.ofNat (2 * cs.length)))]) (st := [(.ref a)]) own_d41_91 (hw _ (List.mem_of_getElem? (i := 194) rfl)) (hw _ (List.mem_of_getElem? (i := 195) rfl)) (hw _ (List.mem_of_getElem? (i := 196) rfl)) (hw _ (List.mem_of_getElem? (i := 197) rfl)) (by decide) own_pd_pABIIqAB rfl (own_cor l Z a0 hw t ct _ 0 (2 * cs.length) h159 n0 w159.old At1 (Nat.zero_le _) (by rw [own_lenw (by omega)]; omega) (by omega) (fun _ => by rw [own_lenw (by omega)]; omega)) rfl (by decide) (W := 1) (Nat.le_of_eq rfl) (by decide) (by decide) (by decide) (fun _ q => nomatch q) (pc' := 94) rfl ?_
  intro v160 T160 h160 w160 K160 q160
  obtain ⟨d, cd, rfl, zd, Ad⟩ := q160
  show Goes p e below _ T160 (mkF m 94 #[.val (.ref a), .val (.ref sb), .val .null, .val (.ref t), .val (.int (Int32.ofNat cs.length))] [(.ref d), (.ref a)])
  rw [own_prew] at Ad
  have Fc2 := Fc1.keep K160 nin0
  have Fv2 := Fv1.keep K160 nin0
  have Ea2 := Ea1.keep K160
  have lad : a < d := Nat.lt_of_lt_of_le Ea1.lt zd
  refine i_putF w160 own_d41_94 (hw _ (List.mem_of_getElem? (i := 62) rfl)) Fv2 Ea2 (Or.inr ⟨(hw _ (List.mem_of_getElem? (i := 63) rfl)), rfl, rfl⟩) (hw _ (List.mem_of_getElem? (i := 17) rfl)) (ty := (.array .byte)) (by decide) rfl rfl (Or.inl (List.mem_singleton.mpr rfl)) (pc' := 97) rfl ?_
  intro T162 h162 w162 W162
  show Goes p e below _ T162 (mkF m 97 #[.val (.ref a), .val (.ref sb), .val .null, .val (.ref t), .val (.int (Int32.ofNat cs.length))] [])
  have Fv3 := Fld.same W162 Fv2
  have Fc3 := Fc2.other W162 (Or.inr (slot_ne (Or.inr (hw _ (List.mem_of_getElem? (i := 61) rfl))) (Or.inr (hw _ (List.mem_of_getElem? (i := 63) rfl))) (by decide) (t := .byte) (t' := (.array .byte)) (by decide) (by decide)))
  have Ea3 := Ea2.wr W162
  have Ad3 := Ad.other W162 (Nat.ne_of_gt lad)
  exact i_ret0 w162 own_d41_97 rfl ⟨rfl, d, cd, Or.inr ⟨Ea3, Fv3, Fc3, Ad3, S.2.2.2.2.2.2.2, hex⟩⟩ (by decide) (by decide)
set_option maxRecDepth 65536 in
set_option maxHeartbeats 40000000 in
theorem own_strSBw (l : Launch) (Z : State) (a0 : Array Value) (hw : ∀ d ∈ tables_1, d.before a0 Z = true) (a : Addr) (sb t : Addr) (ct : ClassId) (cs : List Nat) {v0 c0 : Value} (G1 : Int32) (hG : ¬ G1 = 0) (SG : Sta Z Z.heap "java/lang/String" "COMPACT_STRINGS" "Z" (.int G1)) (h0 : Heap) (n0 : Nat) (O : Old Z n0 h0) (ha : n0 ≤ a) (hta : t ≠ a) (Ea : Exa Z h0 a ST) (Fv : Fld Z h0 a ST "value" "[B" v0) (Fc : Fld Z h0 a ST "coder" "B" c0) (S : SBw Z h0 sb t ct cs) (hex : ∃ k ∈ cs, 256 ≤ k) (hn : cs.length < 16) :
    Ctr l Z n0 (⟨"java/lang/String", "<init>", "(Ljava/lang/StringBuilder;)V"⟩ : MethodName) jdk_42_method_53_code 2 none [] ({ frames := 4, cells := 1, slots := 32, locals := 65 } : Room) #[(.ref a), (.ref sb)] h0 [a] (fun v h => v = none ∧ ∃ d cd, Str Z h a d cd cs) := by
  refine enter (plainFor_of_name own_pn_java_lang_String) (fun m => own_ef_own_d40 m a sb) O (allS ha all0) ?_
  intro p e s m below meth c T w
  refine i_aloadN w own_d40_0 rfl rfl (pc' := 1) rfl ?_
  refine i_aloadN w own_d40_1 rfl rfl (pc' := 2) rfl ?_
  refine i_aconstNull w own_d40_2 (pc' := 3) rfl ?_
  refine c_special w (y := (⟨"java/lang/String", "<init>", "(Ljava/lang/AbstractStringBuilder;Ljava/lang/Void;)V"⟩ : MethodName)) (a := a) (argsL := [(.ref sb), .null]) (st := []) own_d40_3 rfl (hw _ (List.mem_of_getElem? (i := 175) rfl)) (hw _ (List.mem_of_getElem? (i := 176) rfl)) (hw _ (List.mem_of_getElem? (i := 18) rfl)) (hw _ (List.mem_of_getElem? (i := 177) rfl)) (by decide) own_pd_pLjava_lang_AbstractStringBuildereLjava_lang_VoideqV rfl (own_strABw l Z a0 hw a sb t ct cs G1 hG SG h0 n0 w.old ha hta Ea Fv Fc S hex hn) rfl (by decide) (W := 0) (Nat.le_of_eq rfl) (by decide) (by decide) (by decide) (allS (Or.inl (List.mem_singleton.mpr rfl)) all0) (pc' := 6) rfl ?_
  intro v163 T163 h163 w163 K163 q163
  obtain ⟨rfl, d, cd, Sa⟩ := q163
  show Goes p e below _ T163 (mkF m 6 #[.val (.ref a), .val (.ref sb)] [])
  exact i_ret0 w163 own_d40_6 rfl ⟨rfl, d, cd, Sa⟩ (by decide) (by decide)
set_option maxRecDepth 65536 in
set_option maxHeartbeats 40000000 in
theorem own_sbToSw (l : Launch) (Z : State) (a0 : Array Value) (hw : ∀ d ∈ tables_1, d.before a0 Z = true) (sb t : Addr) (ct : ClassId) (cs : List Nat) (G1 : Int32) (hG : ¬ G1 = 0) (SG : Sta Z Z.heap "java/lang/String" "COMPACT_STRINGS" "Z" (.int G1)) (h0 : Heap) (n0 : Nat) (O : Old Z n0 h0) (S : SBw Z h0 sb t ct cs) (hex : ∃ k ∈ cs, 256 ≤ k) (hn : cs.length < 16) :
    Ctr l Z n0 (⟨"java/lang/StringBuilder", "toString", "()Ljava/lang/String;"⟩ : MethodName) jdk_67_method_42_code 1 (some (.object "java/lang/String")) [] ({ frames := 5, cells := 2, slots := 36, locals := 79 } : Room) #[(.ref sb)] h0 [] (fun v h => ∃ a d cd, v = some (.ref a) ∧ h0.size ≤ a ∧ Str Z h a d cd cs) := by
  refine enter (plainFor_of_name own_pn_java_lang_StringBuilder) (fun m => own_ef_own_d39 m sb) O (fun _ q => nomatch q) ?_
  intro p e s m below meth c T w
  refine i_new w own_d39_0 (hw _ (List.mem_of_getElem? (i := 171) rfl)) (hw _ (List.mem_of_getElem? (i := 17) rfl)) (hw _ (List.mem_of_getElem? (i := 18) rfl)) (by decide) (by decide) (pc' := 3) rfl ?_
  intro a T165 h165 g_a w165 z_a E165 A_a D_a
  show Goes p e below _ T165 (mkF m 3 #[.val (.ref sb)] [(.ref a)])
  have Fv : Fld Z h165 a ST "value" "[B" .null := D_a (Or.inr (hw _ (List.mem_of_getElem? (i := 63) rfl))) (ty := .array .byte) (by decide)
  have Fc : Fld Z h165 a ST "coder" "B" (.int 0) := D_a (Or.inr (hw _ (List.mem_of_getElem? (i := 61) rfl))) (ty := .byte) (by decide)
  have S1 := S.ext E165
  refine i_dup w165 own_d39_3 rfl (pc' := 4) rfl ?_
  refine i_aloadN w165 own_d39_4 rfl rfl (pc' := 5) rfl ?_
  refine c_special w165 (y := (⟨"java/lang/String", "<init>", "(Ljava/lang/StringBuilder;)V"⟩ : MethodName)) (a := a) (argsL := [(.ref sb)]) (st := [(.ref a)]) own_d39_5 rfl (hw _ (List.mem_of_getElem? (i := 172) rfl)) (hw _ (List.mem_of_getElem? (i := 173) rfl)) (hw _ (List.mem_of_getElem? (i := 18) rfl)) (hw _ (List.mem_of_getElem? (i := 174) rfl)) (by decide) own_pd_pLjava_lang_StringBuildereqV rfl (own_strSBw l Z a0 hw a sb t ct cs G1 hG SG h165 n0 w165.old (Nat.le_trans w165.n0h0 z_a) (Nat.ne_of_lt (g_a ▸ S.ltT)) A_a Fv Fc S1 hex hn) rfl (by decide) (W := 1) (Nat.le_of_eq rfl) (by decide) (by decide) (by decide) (allS (Or.inr z_a) all0) (pc' := 8) rfl ?_
  intro v167 T167 h167 w167 K167 q167
  obtain ⟨rfl, d, cd, Sa⟩ := q167
  show Goes p e below _ T167 (mkF m 8 #[.val (.ref sb)] [(.ref a)])
  exact i_retA w167 own_d39_8 rfl rfl rfl ⟨a, d, cd, rfl, z_a, Sa⟩ (by decide) (by decide)
theorem own_d50_0 : decode jdk_43_method_49_code 0 = .ok (.iconst 0, 1) := by decide +kernel
theorem own_d50_1 : decode jdk_43_method_49_code 1 = .ok (.istore 5, 2) := by decide +kernel
theorem own_d50_3 : decode jdk_43_method_49_code 3 = .ok (.iload 5, 2) := by decide +kernel
theorem own_d50_5 : decode jdk_43_method_49_code 5 = .ok (.iload 4, 2) := by decide +kernel
theorem own_d50_7 : decode jdk_43_method_49_code 7 = .ok (.if_icmp .ge 26, 3) := by decide +kernel
theorem own_d50_10 : decode jdk_43_method_49_code 10 = .ok (.aload_n 2, 1) := by decide +kernel
theorem own_d50_11 : decode jdk_43_method_49_code 11 = .ok (.iload_n 3, 1) := by decide +kernel
theorem own_d50_12 : decode jdk_43_method_49_code 12 = .ok (.iinc 3 1, 3) := by decide +kernel
theorem own_d50_15 : decode jdk_43_method_49_code 15 = .ok (.aload_n 0, 1) := by decide +kernel
theorem own_d50_16 : decode jdk_43_method_49_code 16 = .ok (.iload_n 1, 1) := by decide +kernel
theorem own_d50_17 : decode jdk_43_method_49_code 17 = .ok (.iinc 1 1, 3) := by decide +kernel
theorem own_d50_20 : decode jdk_43_method_49_code 20 = .ok (.baload, 1) := by decide +kernel
theorem own_d50_21 : decode jdk_43_method_49_code 21 = .ok (.sipush 255, 3) := by decide +kernel
theorem own_d50_24 : decode jdk_43_method_49_code 24 = .ok (.iand, 1) := by decide +kernel
theorem own_d50_25 : decode jdk_43_method_49_code 25 = .ok (.i2c, 1) := by decide +kernel
theorem own_d50_26 : decode jdk_43_method_49_code 26 = .ok (.castore, 1) := by decide +kernel
theorem own_d50_27 : decode jdk_43_method_49_code 27 = .ok (.iinc 5 1, 3) := by decide +kernel
theorem own_d50_30 : decode jdk_43_method_49_code 30 = .ok (.goto (-27), 3) := by decide +kernel
theorem own_d50_33 : decode jdk_43_method_49_code 33 = .ok (.return_, 1) := by decide +kernel
set_option maxRecDepth 65536 in
set_option maxHeartbeats 40000000 in
theorem own_lCh_loop (l : Launch) (Z : State) (a0 : Array Value) (hw : ∀ d ∈ tables_1, d.before a0 Z = true) (t d : Addr) (ct cd : ClassId) (cs : List Nat) (h0 : Heap) (n0 : Nat) (hd : n0 ≤ d) (htd : t ≠ d) (hL : ∀ c ∈ cs, c < 256) (hn : cs.length ≤ 16) {p : Program} {e : Env} {s : State} {m : MethodId} {args : Array Value} {below : List Frame} {meth : Method} {c : Code} :
    ∀ (j i : Nat) (T : State) (h : Heap), i + j = cs.length → Wk p l e ({ frames := 0, cells := 0, slots := 0, locals := 0 } : Room) s m args below meth c Z "java/lang/StringLatin1" jdk_43_method_49_code 6 none "inflate" n0 h0 [d] T h 0 0 → (Ary Z h t ct .byte (lat cs)) → (Ary Z h d cd .char (chs (cs.take i) ++ List.replicate (cs.length - i) (Value.int 0))) → 
      Goes p e below (PN s n0 h0 [d] (fun v h => v = none ∧ Ary Z h d cd .char (chs cs)) 0 0) T (mkF m 3 #[.val (.ref t), .val (.int (Int32.ofNat i)), .val (.ref d), .val (.int (Int32.ofNat i)), .val (.int (Int32.ofNat cs.length)), .val (.int (Int32.ofNat i))] []) := by
  intro j
  induction j with
  | zero =>
    intro i T h hij w At Ad
    refine i_iload w own_d50_3 rfl (pc' := 5) rfl ?_
    refine i_iload w own_d50_5 rfl (pc' := 7) rfl ?_
    refine i_icmp_ge_Y w (by rw [show i = cs.length by omega]; exact Int32.lt_irrefl) own_d50_7 (pc' := 33) (by decide) ?_
    exact i_ret0 w own_d50_33 rfl ⟨rfl, by rw [show i = cs.length by omega, List.take_length, Nat.sub_self] at Ad; simpa using Ad⟩ (by decide) (by decide)
  | succ j ih =>
    intro i T h hij w At Ad
    obtain ⟨ci, hci⟩ : ∃ ci, cs[i]? = some ci := ⟨_, List.getElem?_eq_getElem (by omega)⟩
    have hcb : ci < 256 := hL ci (List.mem_of_getElem? hci)
    refine i_iload w own_d50_3 rfl (pc' := 5) rfl ?_
    refine i_iload w own_d50_5 rfl (pc' := 7) rfl ?_
    refine i_icmp_ge_N w ((lt_nat (by omega) (by omega)).mpr (by omega)) own_d50_7 (pc' := 10) rfl ?_
    refine i_aloadN w own_d50_10 rfl rfl (pc' := 11) rfl ?_
    refine i_iloadN w own_d50_11 rfl (pc' := 12) rfl ?_
    refine i_iinc w own_d50_12 rfl (z := (Int32.ofNat (i + 1))) (inc_nat i) (l' := #[.val (.ref t), .val (.int (Int32.ofNat i)), .val (.ref d), .val (.int (Int32.ofNat (i + 1))), .val (.int (Int32.ofNat cs.length)), .val (.int (Int32.ofNat i))]) rfl (pc' := 15) rfl ?_
    refine i_aloadN w own_d50_15 rfl rfl (pc' := 16) rfl ?_
    refine i_iloadN w own_d50_16 rfl (pc' := 17) rfl ?_
    refine i_iinc w own_d50_17 rfl (z := (Int32.ofNat (i + 1))) (inc_nat i) (l' := #[.val (.ref t), .val (.int (Int32.ofNat (i + 1))), .val (.ref d), .val (.int (Int32.ofNat (i + 1))), .val (.int (Int32.ofNat cs.length)), .val (.int (Int32.ofNat i))]) rfl (pc' := 20) rfl ?_
    refine i_baload w own_d50_20 At rfl (lat_at hci) (pc' := 21) rfl ?_
    refine i_sipush w own_d50_21 (z := (255 : Int32)) (by decide) (pc' := 24) rfl ?_
    refine i_iand w own_d50_24 (pc' := 25) rfl ?_
    refine i_i2c w own_d50_25 (pc' := 26) rfl ?_
    rw [bv_char hcb]
    show Goes p e below _ T (mkF m 26 #[.val (.ref t), .val (.int (Int32.ofNat (i + 1))), .val (.ref d), .val (.int (Int32.ofNat (i + 1))), .val (.int (Int32.ofNat cs.length)), .val (.int (Int32.ofNat i))] [(.int (Int32.ofNat ci)), (.int (Int32.ofNat i)), (.ref d)])
    refine i_castore w own_d50_26 Ad (i := i) rfl (by simp [chs_len]; omega) (Or.inl (List.mem_singleton.mpr rfl)) (pc' := 27) rfl ?_
    intro T169 h169 w169 K169 Ad1
    show Goes p e below _ T169 (mkF m 27 #[.val (.ref t), .val (.int (Int32.ofNat (i + 1))), .val (.ref d), .val (.int (Int32.ofNat (i + 1))), .val (.int (Int32.ofNat cs.length)), .val (.int (Int32.ofNat i))] [])
    rw [own_cputT hci (by omega)] at Ad1
    have At1 := At.keep K169 (ninS htd nin0)
    refine i_iinc w169 own_d50_27 rfl (z := (Int32.ofNat (i + 1))) (inc_nat i) (l' := #[.val (.ref t), .val (.int (Int32.ofNat (i + 1))), .val (.ref d), .val (.int (Int32.ofNat (i + 1))), .val (.int (Int32.ofNat cs.length)), .val (.int (Int32.ofNat (i + 1)))]) rfl (pc' := 30) rfl ?_
    refine i_goto w169 own_d50_30 (pc' := 3) (by decide) ?_
    exact ih (i + 1) T169 h169 (by omega) w169 At1 Ad1
theorem own_pd_pABIACIIqV : parseMethodDescriptor "([BI[CII)V" = some ⟨[(.array .byte), .int, (.array .char), .int, .int], none⟩ := by decide +kernel
theorem own_ef_own_d50 (m : MethodId) (x0 : Addr) (x1 : Int32) (x2 : Addr) (x3 : Int32) (x4 : Int32) : entryFrame m #[(.ref x0), (.int x1), (.ref x2), (.int x3), (.int x4)] 6 = mkF m 0 #[.val (.ref x0), .val (.int x1), .val (.ref x2), .val (.int x3), .val (.int x4), .unset] [] := by
  first | (simp [entryFrame, mkF, argsToLocals, Value.category]; done) | rfl
set_option maxRecDepth 65536 in
set_option maxHeartbeats 40000000 in
theorem own_lCh (l : Launch) (Z : State) (a0 : Array Value) (hw : ∀ d ∈ tables_1, d.before a0 Z = true) (t d : Addr) (ct cd : ClassId) (cs : List Nat) (h0 : Heap) (n0 : Nat) (O : Old Z n0 h0) (hd : n0 ≤ d) (htd : t ≠ d) (hL : ∀ c ∈ cs, c < 256) (hn : cs.length ≤ 16) (At : Ary Z h0 t ct .byte (lat cs)) (Ad : Ary Z h0 d cd .char (List.replicate cs.length (Value.int 0))) :
    Ctr l Z n0 (⟨"java/lang/StringLatin1", "inflate", "([BI[CII)V"⟩ : MethodName) jdk_43_method_49_code 6 none [] ({ frames := 0, cells := 0, slots := 0, locals := 0 } : Room) #[(.ref t), (.int (0 : Int32)), (.ref d), (.int (0 : Int32)), (.int (Int32.ofNat cs.length))] h0 [d] (fun v h => v = none ∧ Ary Z h d cd .char (chs cs)) := by
  refine enter (plainFor_of_name own_pn_java_lang_StringLatin1) (fun m => own_ef_own_d50 m t (0 : Int32) d (0 : Int32) (Int32.ofNat cs.length)) O (allS hd all0) ?_
  intro p e s m below meth c T w
  refine i_iconst w own_d50_0 (z := (0 : Int32)) (by decide) (pc' := 1) rfl ?_
  refine i_istore w own_d50_1 (l' := #[.val (.ref t), .val (.int (0 : Int32)), .val (.ref d), .val (.int (0 : Int32)), .val (.int (Int32.ofNat cs.length)), .val (.int (0 : Int32))]) rfl (pc' := 3) rfl ?_
  exact own_lCh_loop l Z a0 hw t d ct cd cs h0 n0 hd htd hL hn cs.length 0 T h0 (by omega) w At Ad
theorem own_d49_0 : decode jdk_43_method_9_code 0 = .ok (.aload_n 0, 1) := by decide +kernel
theorem own_d49_1 : decode jdk_43_method_9_code 1 = .ok (.arraylength, 1) := by decide +kernel
theorem own_d49_2 : decode jdk_43_method_9_code 2 = .ok (.newarray .char, 2) := by decide +kernel
theorem own_d49_4 : decode jdk_43_method_9_code 4 = .ok (.astore_n 1, 1) := by decide +kernel
theorem own_d49_5 : decode jdk_43_method_9_code 5 = .ok (.aload_n 0, 1) := by decide +kernel
theorem own_d49_6 : decode jdk_43_method_9_code 6 = .ok (.iconst 0, 1) := by decide +kernel
theorem own_d49_7 : decode jdk_43_method_9_code 7 = .ok (.aload_n 1, 1) := by decide +kernel
theorem own_d49_8 : decode jdk_43_method_9_code 8 = .ok (.iconst 0, 1) := by decide +kernel
theorem own_d49_9 : decode jdk_43_method_9_code 9 = .ok (.aload_n 0, 1) := by decide +kernel
theorem own_d49_10 : decode jdk_43_method_9_code 10 = .ok (.arraylength, 1) := by decide +kernel
theorem own_d49_11 : decode jdk_43_method_9_code 11 = .ok (.invokestatic 13, 3) := by decide +kernel
theorem own_d49_14 : decode jdk_43_method_9_code 14 = .ok (.aload_n 1, 1) := by decide +kernel
theorem own_d49_15 : decode jdk_43_method_9_code 15 = .ok (.areturn, 1) := by decide +kernel
theorem own_pd_pABqAC : parseMethodDescriptor "([B)[C" = some ⟨[(.array .byte)], some (.array .char)⟩ := by decide +kernel
theorem own_ef_own_d49 (m : MethodId) (x0 : Addr) : entryFrame m #[(.ref x0)] 2 = mkF m 0 #[.val (.ref x0), .unset] [] := by
  first | (simp [entryFrame, mkF, argsToLocals, Value.category]; done) | rfl
set_option maxRecDepth 65536 in
set_option maxHeartbeats 40000000 in
theorem own_lToCh (l : Launch) (Z : State) (a0 : Array Value) (hw : ∀ d ∈ tables_1, d.before a0 Z = true) (t : Addr) (ct : ClassId) (cs : List Nat) (h0 : Heap) (n0 : Nat) (O : Old Z n0 h0) (hL : ∀ c ∈ cs, c < 256) (hn : cs.length ≤ 16) (At : Ary Z h0 t ct .byte (lat cs)) :
    Ctr l Z n0 (⟨"java/lang/StringLatin1", "toChars", "([B)[C"⟩ : MethodName) jdk_43_method_9_code 2 (some (.array .char)) [] ({ frames := 1, cells := 1, slots := 16, locals := 17 } : Room) #[(.ref t)] h0 [] (fun v h => ∃ d cd, v = some (.ref d) ∧ h0.size ≤ d ∧ Ary Z h d cd .char (chs cs)) := by
  refine enter (plainFor_of_name own_pn_java_lang_StringLatin1) (fun m => own_ef_own_d49 m t) O (fun _ q => nomatch q) ?_
  intro p e s m below meth c T w
  refine i_aloadN w own_d49_0 rfl rfl (pc' := 1) rfl ?_
  refine i_len w own_d49_1 At (z := Int32.ofNat cs.length) (by rw [lat_len]) (pc' := 2) rfl ?_
  refine i_newP w own_d49_2 (hw _ (List.mem_of_getElem? (i := 0) rfl)) (N := cs.length) rfl (by omega) (cap := 16) hn (by decide) (by decide) (by decide) (pc' := 4) rfl ?_
  intro d T171 h171 ca_d g_d w171 z_d E171 A_d
  show Goes p e below _ T171 (mkF m 4 #[.val (.ref t), .unset] [(.ref d)])
  have At1 := At.ext E171
  have ltd : t < d := g_d ▸ At.lt
  refine i_astoreN w171 own_d49_4 rfl (l' := #[.val (.ref t), .val (.ref d)]) rfl (pc' := 5) rfl ?_
  refine i_aloadN w171 own_d49_5 rfl rfl (pc' := 6) rfl ?_
  refine i_iconst w171 own_d49_6 (z := (0 : Int32)) (by decide) (pc' := 7) rfl ?_
  refine i_aloadN w171 own_d49_7 rfl rfl (pc' := 8) rfl ?_
  refine i_iconst w171 own_d49_8 (z := (0 : Int32)) (by decide) (pc' := 9) rfl ?_
  refine i_aloadN w171 own_d49_9 rfl rfl (pc' := 10) rfl ?_
  refine i_len w171 own_d49_10 At1 (z := Int32.ofNat cs.length) (by rw [lat_len]) (pc' := 11) rfl ?_
  refine c_static w171 (y := (⟨"java/lang/StringLatin1", "inflate", "([BI[CII)V"⟩ : MethodName)) (argsL := [(.ref t), (.int (0 : Int32)), (.ref d), (.int (0 : Int32)), (.int (Int32.ofNat cs.length))]) (st := []) own_d49_11 (hw _ (List.mem_of_getElem? (i := 218) rfl)) (hw _ (List.mem_of_getElem? (i := 219) rfl)) (hw _ (List.mem_of_getElem? (i := 140) rfl)) (hw _ (List.mem_of_getElem? (i := 220) rfl)) (by decide) own_pd_pABIACIIqV rfl (own_lCh l Z a0 hw t d ct ca_d cs h171 n0 w171.old (Nat.le_trans w171.n0h0 z_d) (Nat.ne_of_lt ltd) hL hn At1 A_d) rfl (by decide) (W := 0) (Nat.le_of_eq rfl) (by decide) (by decide) (by decide) (allS (Or.inr z_d) all0) (pc' := 14) rfl ?_
  intro v173 T173 h173 w173 K173 q173
  obtain ⟨rfl, Ad⟩ := q173
  show Goes p e below _ T173 (mkF m 14 #[.val (.ref t), .val (.ref d)] [])
  refine i_aloadN w173 own_d49_14 rfl rfl (pc' := 15) rfl ?_
  exact i_retA w173 own_d49_15 rfl rfl rfl ⟨d, ca_d, rfl, z_d, Ad⟩ (by decide) (by decide)
theorem own_d22_0 : decode jdk_52_method_26_code 0 = .ok (.iload_n 1, 1) := by decide +kernel
theorem own_d22_1 : decode jdk_52_method_26_code 1 = .ok (.iload_n 2, 1) := by decide +kernel
theorem own_d22_2 : decode jdk_52_method_26_code 2 = .ok (.if_icmp .ge 11, 3) := by decide +kernel
theorem own_d22_5 : decode jdk_52_method_26_code 5 = .ok (.iload_n 1, 1) := by decide +kernel
theorem own_d22_6 : decode jdk_52_method_26_code 6 = .ok (.iload_n 2, 1) := by decide +kernel
theorem own_d22_7 : decode jdk_52_method_26_code 7 = .ok (.iload_n 1, 1) := by decide +kernel
theorem own_d22_8 : decode jdk_52_method_26_code 8 = .ok (.isub, 1) := by decide +kernel
theorem own_d22_9 : decode jdk_52_method_26_code 9 = .ok (.aload_n 0, 1) := by decide +kernel
theorem own_d22_10 : decode jdk_52_method_26_code 10 = .ok (.invokestatic 173, 3) := by decide +kernel
theorem own_d22_13 : decode jdk_52_method_26_code 13 = .ok (.iload_n 1, 1) := by decide +kernel
theorem own_d22_14 : decode jdk_52_method_26_code 14 = .ok (.istore 5, 2) := by decide +kernel
theorem own_d22_16 : decode jdk_52_method_26_code 16 = .ok (.iload 5, 2) := by decide +kernel
theorem own_d22_18 : decode jdk_52_method_26_code 18 = .ok (.iload_n 2, 1) := by decide +kernel
theorem own_d22_19 : decode jdk_52_method_26_code 19 = .ok (.if_icmp .ge 22, 3) := by decide +kernel
theorem own_d22_22 : decode jdk_52_method_26_code 22 = .ok (.aload_n 3, 1) := by decide +kernel
theorem own_d22_23 : decode jdk_52_method_26_code 23 = .ok (.iload 4, 2) := by decide +kernel
theorem own_d22_25 : decode jdk_52_method_26_code 25 = .ok (.iinc 4 1, 3) := by decide +kernel
theorem own_d22_28 : decode jdk_52_method_26_code 28 = .ok (.aload_n 0, 1) := by decide +kernel
theorem own_d22_29 : decode jdk_52_method_26_code 29 = .ok (.iload 5, 2) := by decide +kernel
theorem own_d22_31 : decode jdk_52_method_26_code 31 = .ok (.invokestatic 71, 3) := by decide +kernel
theorem own_d22_34 : decode jdk_52_method_26_code 34 = .ok (.castore, 1) := by decide +kernel
theorem own_d22_35 : decode jdk_52_method_26_code 35 = .ok (.iinc 5 1, 3) := by decide +kernel
theorem own_d22_38 : decode jdk_52_method_26_code 38 = .ok (.goto (-22), 3) := by decide +kernel
theorem own_d22_41 : decode jdk_52_method_26_code 41 = .ok (.return_, 1) := by decide +kernel
set_option maxRecDepth 65536 in
set_option maxHeartbeats 40000000 in
theorem own_uCh_loop (l : Launch) (Z : State) (a0 : Array Value) (hw : ∀ d ∈ tables_1, d.before a0 Z = true) (t d : Addr) (ct cd : ClassId) (cs : List Nat) (SA : Sta Z Z.heap "java/lang/StringUTF16" "$assertionsDisabled" "Z" (.int 1)) (SHi : Sta Z Z.heap "java/lang/StringUTF16" "HI_BYTE_SHIFT" "I" (.int 0)) (SLo : Sta Z Z.heap "java/lang/StringUTF16" "LO_BYTE_SHIFT" "I" (.int 8)) (h0 : Heap) (n0 : Nat) (hd : n0 ≤ d) (htd : t ≠ d) (hL : ∀ c ∈ cs, c < 65536) (hn : cs.length ≤ 16) {p : Program} {e : Env} {s : State} {m : MethodId} {args : Array Value} {below : List Frame} {meth : Method} {c : Code} :
    ∀ (j i : Nat) (T : State) (h : Heap), i + j = cs.length → Wk p l e ({ frames := 3, cells := 0, slots := 0, locals := 47 } : Room) s m args below meth c Z "java/lang/StringUTF16" jdk_52_method_26_code 6 none "getChars" n0 h0 [d] T h 0 0 → (Ary Z h t ct .byte (wid cs)) → (Ary Z h d cd .char (chs (cs.take i) ++ List.replicate (cs.length - i) (Value.int 0))) → 
      Goes p e below (PN s n0 h0 [d] (fun v h => v = none ∧ Ary Z h d cd .char (chs cs)) 0 0) T (mkF m 16 #[.val (.ref t), .val (.int (0 : Int32)), .val (.int (Int32.ofNat cs.length)), .val (.ref d), .val (.int (Int32.ofNat i)), .val (.int (Int32.ofNat i))] []) := by
  intro j
  induction j with
  | zero =>
    intro i T h hij w At Ad
    refine i_iload w own_d22_16 rfl (pc' := 18) rfl ?_
    refine i_iloadN w own_d22_18 rfl (pc' := 19) rfl ?_
    refine i_icmp_ge_Y w (by rw [show i = cs.length by omega]; exact Int32.lt_irrefl) own_d22_19 (pc' := 41) (by decide) ?_
    exact i_ret0 w own_d22_41 rfl ⟨rfl, by rw [show i = cs.length by omega, List.take_length, Nat.sub_self] at Ad; simpa using Ad⟩ (by decide) (by decide)
  | succ j ih =>
    intro i T h hij w At Ad
    obtain ⟨ci, hci⟩ : ∃ ci, cs[i]? = some ci := ⟨_, List.getElem?_eq_getElem (by omega)⟩
    have hcb : ci < 65536 := hL ci (List.mem_of_getElem? hci)
    refine i_iload w own_d22_16 rfl (pc' := 18) rfl ?_
    refine i_iloadN w own_d22_18 rfl (pc' := 19) rfl ?_
    refine i_icmp_ge_N w ((lt_nat (by omega) (by omega)).mpr (by omega)) own_d22_19 (pc' := 22) rfl ?_
    refine i_aloadN w own_d22_22 rfl rfl (pc' := 23) rfl ?_
    refine i_iload w own_d22_23 rfl (pc' := 25) rfl ?_
    refine i_iinc w own_d22_25 rfl (z := (Int32.ofNat (i + 1))) (inc_nat i) (l' := #[.val (.ref t), .val (.int (0 : Int32)), .val (.int (Int32.ofNat cs.length)), .val (.ref d), .val (.int (Int32.ofNat (i + 1))), .val (.int (Int32.ofNat i))]) rfl (pc' := 28) rfl ?_
    refine i_aloadN w own_d22_28 rfl rfl (pc' := 29) rfl ?_
    refine i_iload w own_d22_29 rfl (pc' := 31) rfl ?_
    refine c_static w (y := (⟨"java/lang/StringUTF16", "getChar", "([BI)C"⟩ : MethodName)) (argsL := [(.ref t), (.int (Int32.ofNat i))]) (st := [(.int (Int32.ofNat i)), (.ref d)]) own_d22_31 (hw _ (List.mem_of_getElem? (i := 54) rfl)) (hw _ (List.mem_of_getElem? (i := 55) rfl)) (hw _ (List.mem_of_getElem? (i := 32) rfl)) (hw _ (List.mem_of_getElem? (i := 56) rfl)) (by decide) own_pd_pABIqC rfl (own_getChar l Z a0 hw t ct cs i ci SA SHi SLo h n0 w.old At hci hcb) rfl (by decide) (W := 2) (Nat.le_of_eq rfl) (by decide) (by decide) (by decide) (fun _ q => nomatch q) (pc' := 34) rfl ?_
    intro v175 T175 h175 w175 K175 q175
    obtain ⟨rfl, rfl⟩ := q175
    show Goes p e below _ T175 (mkF m 34 #[.val (.ref t), .val (.int (0 : Int32)), .val (.int (Int32.ofNat cs.length)), .val (.ref d), .val (.int (Int32.ofNat (i + 1))), .val (.int (Int32.ofNat i))] [(.int (Int32.ofNat ci)), (.int (Int32.ofNat i)), (.ref d)])
    refine i_castore w175 own_d22_34 Ad (i := i) rfl (by simp [chs_len]; omega) (Or.inl (List.mem_singleton.mpr rfl)) (pc' := 35) rfl ?_
    intro T176 h176 w176 K176 Ad1
    show Goes p e below _ T176 (mkF m 35 #[.val (.ref t), .val (.int (0 : Int32)), .val (.int (Int32.ofNat cs.length)), .val (.ref d), .val (.int (Int32.ofNat (i + 1))), .val (.int (Int32.ofNat i))] [])
    rw [own_cputT hci hcb] at Ad1
    have At1 := At.keep K176 (ninS htd nin0)
    refine i_iinc w176 own_d22_35 rfl (z := (Int32.ofNat (i + 1))) (inc_nat i) (l' := #[.val (.ref t), .val (.int (0 : Int32)), .val (.int (Int32.ofNat cs.length)), .val (.ref d), .val (.int (Int32.ofNat (i + 1))), .val (.int (Int32.ofNat (i + 1)))]) rfl (pc' := 38) rfl ?_
    refine i_goto w176 own_d22_38 (pc' := 16) (by decide) ?_
    exact ih (i + 1) T176 h176 (by omega) w176 At1 Ad1
theorem own_pd_pABIIACIqV : parseMethodDescriptor "([BII[CI)V" = some ⟨[(.array .byte), .int, .int, (.array .char), .int], none⟩ := by decide +kernel
theorem own_ef_own_d22 (m : MethodId) (x0 : Addr) (x1 : Int32) (x2 : Int32) (x3 : Addr) (x4 : Int32) : entryFrame m #[(.ref x0), (.int x1), (.int x2), (.ref x3), (.int x4)] 6 = mkF m 0 #[.val (.ref x0), .val (.int x1), .val (.int x2), .val (.ref x3), .val (.int x4), .unset] [] := by
  first | (simp [entryFrame, mkF, argsToLocals, Value.category]; done) | rfl
set_option maxRecDepth 65536 in
set_option maxHeartbeats 40000000 in
theorem own_uCh (l : Launch) (Z : State) (a0 : Array Value) (hw : ∀ d ∈ tables_1, d.before a0 Z = true) (t d : Addr) (ct cd : ClassId) (cs : List Nat) (SA : Sta Z Z.heap "java/lang/StringUTF16" "$assertionsDisabled" "Z" (.int 1)) (SHi : Sta Z Z.heap "java/lang/StringUTF16" "HI_BYTE_SHIFT" "I" (.int 0)) (SLo : Sta Z Z.heap "java/lang/StringUTF16" "LO_BYTE_SHIFT" "I" (.int 8)) (G3 : Value) (hG3 : G3.isRef = true) (SF : Sta Z Z.heap "jdk/internal/util/Preconditions" "SIOOBE_FORMATTER" "Ljava/util/function/BiFunction;" G3) (h0 : Heap) (n0 : Nat) (O : Old Z n0 h0) (hd : n0 ≤ d) (htd : t ≠ d) (hL : ∀ c ∈ cs, c < 65536) (h1 : 0 < cs.length) (hn : cs.length ≤ 16) (At : Ary Z h0 t ct .byte (wid cs)) (Ad : Ary Z h0 d cd .char (List.replicate cs.length (Value.int 0))) :
    Ctr l Z n0 (⟨"java/lang/StringUTF16", "getChars", "([BII[CI)V"⟩ : MethodName) jdk_52_method_26_code 6 none [] ({ frames := 3, cells := 0, slots := 0, locals := 47 } : Room) #[(.ref t), (.int (0 : Int32)), (.int (Int32.ofNat cs.length)), (.ref d), (.int (0 : Int32))] h0 [d] (fun v h => v = none ∧ Ary Z h d cd .char (chs cs)) := by
  refine enter (plainFor_of_name own_pn_java_lang_StringUTF16) (fun m => own_ef_own_d22 m t (0 : Int32) (Int32.ofNat cs.length) d (0 : Int32)) O (allS hd all0) ?_
  intro p e s m below meth c T w
  refine i_iloadN w own_d22_0 rfl (pc' := 1) rfl ?_
  refine i_iloadN w own_d22_1 rfl (pc' := 2) rfl ?_
  refine i_icmp_ge_N w (by rw [show (0 : Int32) = Int32.ofNat 0 from rfl, lt_nat (by omega) (by omega)]; omega) own_d22_2 (pc' := 5) rfl ?_
  refine i_iloadN w own_d22_5 rfl (pc' := 6) rfl ?_
  refine i_iloadN w own_d22_6 rfl (pc' := 7) rfl ?_
  refine i_iloadN w own_d22_7 rfl (pc' := 8) rfl ?_
  refine i_isub w own_d22_8 (pc' := 9) rfl ?_
  refine i_aloadN w own_d22_9 rfl rfl (pc' := 10) rfl ?_
  rw [own_sub0]
  show Goes p e below _ T (mkF m 10 #[.val (.ref t), .val (.int (0 : Int32)), .val (.int (Int32.ofNat cs.length)), .val (.ref d), .val (.int (0 : Int32)), .unset] [(.ref t), (.int (Int32.ofNat cs.length)), (.int (0 : Int32))])
  refine c_static w (y := (⟨"java/lang/StringUTF16", "checkBoundsOffCount", "(II[B)V"⟩ : MethodName)) (argsL := [(.int (0 : Int32)), (.int (Int32.ofNat cs.length)), (.ref t)]) (st := []) own_d22_10 (hw _ (List.mem_of_getElem? (i := 102) rfl)) (hw _ (List.mem_of_getElem? (i := 103) rfl)) (hw _ (List.mem_of_getElem? (i := 32) rfl)) (hw _ (List.mem_of_getElem? (i := 104) rfl)) (by decide) own_pd_pIIABqV rfl (own_uBOC l Z a0 hw cs.length t ct (wid cs) G3 hG3 SF h0 n0 w.old At (by rw [wid_len]; omega) (by rw [wid_len]; omega)) rfl (by decide) (W := 0) (Nat.le_of_eq rfl) (by decide) (by decide) (by decide) (fun _ q => nomatch q) (pc' := 13) rfl ?_
  intro v178 T178 h178 w178 K178 q178
  obtain ⟨rfl, rfl⟩ := q178
  show Goes p e below _ T178 (mkF m 13 #[.val (.ref t), .val (.int (0 : Int32)), .val (.int (Int32.ofNat cs.length)), .val (.ref d), .val (.int (0 : Int32)), .unset] [])
  refine i_iloadN w178 own_d22_13 rfl (pc' := 14) rfl ?_
  refine i_istore w178 own_d22_14 (l' := #[.val (.ref t), .val (.int (0 : Int32)), .val (.int (Int32.ofNat cs.length)), .val (.ref d), .val (.int (0 : Int32)), .val (.int (0 : Int32))]) rfl (pc' := 16) rfl ?_
  exact own_uCh_loop l Z a0 hw t d ct cd cs SA SHi SLo h0 n0 hd htd hL hn cs.length 0 T178 h0 (by omega) w178 At Ad
theorem own_d21_0 : decode jdk_52_method_13_code 0 = .ok (.aload_n 0, 1) := by decide +kernel
theorem own_d21_1 : decode jdk_52_method_13_code 1 = .ok (.arraylength, 1) := by decide +kernel
theorem own_d21_2 : decode jdk_52_method_13_code 2 = .ok (.iconst 1, 1) := by decide +kernel
theorem own_d21_3 : decode jdk_52_method_13_code 3 = .ok (.ishr, 1) := by decide +kernel
theorem own_d21_4 : decode jdk_52_method_13_code 4 = .ok (.newarray .char, 2) := by decide +kernel
theorem own_d21_6 : decode jdk_52_method_13_code 6 = .ok (.astore_n 1, 1) := by decide +kernel
theorem own_d21_7 : decode jdk_52_method_13_code 7 = .ok (.aload_n 0, 1) := by decide +kernel
theorem own_d21_8 : decode jdk_52_method_13_code 8 = .ok (.iconst 0, 1) := by decide +kernel
theorem own_d21_9 : decode jdk_52_method_13_code 9 = .ok (.aload_n 1, 1) := by decide +kernel
theorem own_d21_10 : decode jdk_52_method_13_code 10 = .ok (.arraylength, 1) := by decide +kernel
theorem own_d21_11 : decode jdk_52_method_13_code 11 = .ok (.aload_n 1, 1) := by decide +kernel
theorem own_d21_12 : decode jdk_52_method_13_code 12 = .ok (.iconst 0, 1) := by decide +kernel
theorem own_d21_13 : decode jdk_52_method_13_code 13 = .ok (.invokestatic 103, 3) := by decide +kernel
theorem own_d21_16 : decode jdk_52_method_13_code 16 = .ok (.aload_n 1, 1) := by decide +kernel
theorem own_d21_17 : decode jdk_52_method_13_code 17 = .ok (.areturn, 1) := by decide +kernel
theorem own_ef_own_d21 (m : MethodId) (x0 : Addr) : entryFrame m #[(.ref x0)] 2 = mkF m 0 #[.val (.ref x0), .unset] [] := by
  first | (simp [entryFrame, mkF, argsToLocals, Value.category]; done) | rfl
set_option maxRecDepth 65536 in
set_option maxHeartbeats 40000000 in
theorem own_uToCh (l : Launch) (Z : State) (a0 : Array Value) (hw : ∀ d ∈ tables_1, d.before a0 Z = true) (t : Addr) (ct : ClassId) (cs : List Nat) (SA : Sta Z Z.heap "java/lang/StringUTF16" "$assertionsDisabled" "Z" (.int 1)) (SHi : Sta Z Z.heap "java/lang/StringUTF16" "HI_BYTE_SHIFT" "I" (.int 0)) (SLo : Sta Z Z.heap "java/lang/StringUTF16" "LO_BYTE_SHIFT" "I" (.int 8)) (G3 : Value) (hG3 : G3.isRef = true) (SF : Sta Z Z.heap "jdk/internal/util/Preconditions" "SIOOBE_FORMATTER" "Ljava/util/function/BiFunction;" G3) (h0 : Heap) (n0 : Nat) (O : Old Z n0 h0) (hL : ∀ c ∈ cs, c < 65536) (h1 : 0 < cs.length) (hn : cs.length ≤ 16) (At : Ary Z h0 t ct .byte (wid cs)) :
    Ctr l Z n0 (⟨"java/lang/StringUTF16", "toChars", "([B)[C"⟩ : MethodName) jdk_52_method_13_code 2 (some (.array .char)) [] ({ frames := 4, cells := 1, slots := 16, locals := 64 } : Room) #[(.ref t)] h0 [] (fun v h => ∃ d cd, v = some (.ref d) ∧ h0.size ≤ d ∧ Ary Z h d cd .char (chs cs)) := by
  refine enter (plainFor_of_name own_pn_java_lang_StringUTF16) (fun m => own_ef_own_d21 m t) O (fun _ q => nomatch q) ?_
  intro p e s m below meth c T w
  refine i_aloadN w own_d21_0 rfl rfl (pc' := 1) rfl ?_
  refine i_len w own_d21_1 At (z := Int32.ofNat (2 * cs.length)) (by rw [wid_len]) (pc' := 2) rfl ?_
  refine i_iconst w own_d21_2 (z := (1 : Int32)) (by decide) (pc' := 3) rfl ?_
  refine i_ishr w own_d21_3 (pc' := 4) rfl ?_
  rw [shr1 (by omega), show 2 * cs.length / 2 = cs.length by omega]
  show Goes p e below _ T (mkF m 4 #[.val (.ref t), .unset] [(.int (Int32.ofNat cs.length))])
  refine i_newP w own_d21_4 (hw _ (List.mem_of_getElem? (i := 0) rfl)) (N := cs.length) rfl (by omega) (cap := 16) hn (by decide) (by decide) (by decide) (pc' := 6) rfl ?_
  intro d T179 h179 ca_d g_d w179 z_d E179 A_d
  show Goes p e below _ T179 (mkF m 6 #[.val (.ref t), .unset] [(.ref d)])
  have At1 := At.ext E179
  have ltd : t < d := g_d ▸ At.lt
  refine i_astoreN w179 own_d21_6 rfl (l' := #[.val (.ref t), .val (.ref d)]) rfl (pc' := 7) rfl ?_
  refine i_aloadN w179 own_d21_7 rfl rfl (pc' := 8) rfl ?_
  refine i_iconst w179 own_d21_8 (z := (0 : Int32)) (by decide) (pc' := 9) rfl ?_
  refine i_aloadN w179 own_d21_9 rfl rfl (pc' := 10) rfl ?_
  refine i_len w179 own_d21_10 A_d (z := Int32.ofNat cs.length) (by rw [List.length_replicate]) (pc' := 11) rfl ?_
  refine i_aloadN w179 own_d21_11 rfl rfl (pc' := 12) rfl ?_
  refine i_iconst w179 own_d21_12 (z := (0 : Int32)) (by decide) (pc' := 13) rfl ?_
  refine c_static w179 (y := (⟨"java/lang/StringUTF16", "getChars", "([BII[CI)V"⟩ : MethodName)) (argsL := [(.ref t), (.int (0 : Int32)), (.int (Int32.ofNat cs.length)), (.ref d), (.int (0 : Int32))]) (st := []) own_d21_13 (hw _ (List.mem_of_getElem? (i := 99) rfl)) (hw _ (List.mem_of_getElem? (i := 100) rfl)) (hw _ (List.mem_of_getElem? (i := 32) rfl)) (hw _ (List.mem_of_getElem? (i := 101) rfl)) (by decide) own_pd_pABIIACIqV rfl (own_uCh l Z a0 hw t d ct ca_d cs SA SHi SLo G3 hG3 SF h179 n0 w179.old (Nat.le_trans w179.n0h0 z_d) (Nat.ne_of_lt ltd) hL h1 hn At1 A_d) rfl (by decide) (W := 0) (Nat.le_of_eq rfl) (by decide) (by decide) (by decide) (allS (Or.inr z_d) all0) (pc' := 16) rfl ?_
  intro v181 T181 h181 w181 K181 q181
  obtain ⟨rfl, Ad⟩ := q181
  show Goes p e below _ T181 (mkF m 16 #[.val (.ref t), .val (.ref d)] [])
  refine i_aloadN w181 own_d21_16 rfl rfl (pc' := 17) rfl ?_
  exact i_retA w181 own_d21_17 rfl rfl rfl ⟨d, ca_d, rfl, z_d, Ad⟩ (by decide) (by decide)
theorem own_d19_0 : decode jdk_42_method_129_code 0 = .ok (.aload_n 0, 1) := by decide +kernel
theorem own_d19_1 : decode jdk_42_method_129_code 1 = .ok (.invokevirtual 492, 3) := by decide +kernel
theorem own_d19_4 : decode jdk_42_method_129_code 4 = .ok (.ifCond .eq 13, 3) := by decide +kernel
theorem own_d19_7 : decode jdk_42_method_129_code 7 = .ok (.aload_n 0, 1) := by decide +kernel
theorem own_d19_8 : decode jdk_42_method_129_code 8 = .ok (.getfield 9, 3) := by decide +kernel
theorem own_d19_11 : decode jdk_42_method_129_code 11 = .ok (.invokestatic 299, 3) := by decide +kernel
theorem own_d19_14 : decode jdk_42_method_129_code 14 = .ok (.goto 10, 3) := by decide +kernel
theorem own_d19_17 : decode jdk_42_method_129_code 17 = .ok (.aload_n 0, 1) := by decide +kernel
theorem own_d19_18 : decode jdk_42_method_129_code 18 = .ok (.getfield 9, 3) := by decide +kernel
theorem own_d19_21 : decode jdk_42_method_129_code 21 = .ok (.invokestatic 303, 3) := by decide +kernel
theorem own_d19_24 : decode jdk_42_method_129_code 24 = .ok (.areturn, 1) := by decide +kernel
theorem own_pd_pqAC : parseMethodDescriptor "()[C" = some ⟨[], some (.array .char)⟩ := by decide +kernel
theorem own_ef_own_d19 (m : MethodId) (x0 : Addr) : entryFrame m #[(.ref x0)] 1 = mkF m 0 #[.val (.ref x0)] [] := by
  first | (simp [entryFrame, mkF, argsToLocals, Value.category]; done) | rfl
set_option maxRecDepth 65536 in
set_option maxHeartbeats 40000000 in
theorem own_toCh (l : Launch) (Z : State) (a0 : Array Value) (hw : ∀ d ∈ tables_1, d.before a0 Z = true) (a t : Addr) (ct : ClassId) (cs : List Nat) (G1 : Int32) (hG : ¬ G1 = 0) (SG : Sta Z Z.heap "java/lang/String" "COMPACT_STRINGS" "Z" (.int G1)) (SA : Sta Z Z.heap "java/lang/StringUTF16" "$assertionsDisabled" "Z" (.int 1)) (SHi : Sta Z Z.heap "java/lang/StringUTF16" "HI_BYTE_SHIFT" "I" (.int 0)) (SLo : Sta Z Z.heap "java/lang/StringUTF16" "LO_BYTE_SHIFT" "I" (.int 8)) (G3 : Value) (hG3 : G3.isRef = true) (SF : Sta Z Z.heap "jdk/internal/util/Preconditions" "SIOOBE_FORMATTER" "Ljava/util/function/BiFunction;" G3) (h0 : Heap) (n0 : Nat) (O : Old Z n0 h0) (S : Str Z h0 a t ct cs) (hn : cs.length ≤ 16) :
    Ctr l Z n0 (⟨"java/lang/String", "toCharArray", "()[C"⟩ : MethodName) jdk_42_method_129_code 1 (some (.array .char)) [] ({ frames := 5, cells := 1, slots := 16, locals := 77 } : Room) #[(.ref a)] h0 [] (fun v h => ∃ d cd, v = some (.ref d) ∧ h0.size ≤ d ∧ Ary Z h d cd .char (chs cs)) := by
  refine enter (plainFor_of_name own_pn_java_lang_String) (fun m => own_ef_own_d19 m a) O (fun _ q => nomatch q) ?_
  intro p e s m below meth c T w
  refine i_aloadN w own_d19_0 rfl rfl (pc' := 1) rfl ?_
  rcases S with S | S
  ·
    refine c_virtual w (y := (⟨"java/lang/String", "isLatin1", "()Z"⟩ : MethodName)) (C := "java/lang/String") (a := a) (argsL := []) (st := []) own_d19_1 (hw _ (List.mem_of_getElem? (i := 91) rfl)) (hw _ (List.mem_of_getElem? (i := 92) rfl)) (hw _ (List.mem_of_getElem? (i := 94) rfl)) (hw _ (List.mem_of_getElem? (i := 93) rfl)) (hw _ (List.mem_of_getElem? (i := 95) rfl)) (hw _ (List.mem_of_getElem? (i := 18) rfl)) (by decide) own_pd_pqZ rfl S.1 (own_isLatin1 l Z a0 hw a 0 G1 hG SG h0 n0 w.old S.2.2.1) rfl (by decide) (W := 0) (Nat.le_of_eq rfl) (by decide) (by decide) (by decide) (fun _ q => nomatch q) (pc' := 4) rfl ?_
    intro v183 T183 h183 w183 K183 q183
    obtain ⟨rfl, rfl⟩ := q183
    show Goes p e below _ T183 (mkF m 4 #[.val (.ref a)] [(.int (1 : Int32))])
    refine i_if_eq_N w183 (by decide) own_d19_4 (pc' := 7) rfl ?_
    refine i_aloadN w183 own_d19_7 rfl rfl (pc' := 8) rfl ?_
    refine i_getF w183 own_d19_8 (hw _ (List.mem_of_getElem? (i := 62) rfl)) S.2.1 (pc' := 11) rfl ?_
    intro T184 w184
    refine c_static w184 (y := (⟨"java/lang/StringLatin1", "toChars", "([B)[C"⟩ : MethodName)) (argsL := [(.ref t)]) (st := []) own_d19_11 (hw _ (List.mem_of_getElem? (i := 215) rfl)) (hw _ (List.mem_of_getElem? (i := 216) rfl)) (hw _ (List.mem_of_getElem? (i := 140) rfl)) (hw _ (List.mem_of_getElem? (i := 217) rfl)) (by decide) own_pd_pABqAC rfl (own_lToCh l Z a0 hw t ct cs h0 n0 w184.old S.2.2.2.2 hn S.2.2.2.1) rfl (by decide) (W := 0) (Nat.le_of_eq rfl) (by decide) (by decide) (by decide) (fun _ q => nomatch q) (pc' := 14) rfl ?_
    intro v185 T185 h185 w185 K185 q185
    obtain ⟨d, cd, rfl, zd, Ad⟩ := q185
    show Goes p e below _ T185 (mkF m 14 #[.val (.ref a)] [(.ref d)])
    refine i_goto w185 own_d19_14 (pc' := 24) (by decide) ?_
    exact i_retA w185 own_d19_24 rfl rfl rfl ⟨d, cd, rfl, zd, Ad⟩ (by decide) (by decide)
  ·
    have h1 : 0 < cs.length := by obtain ⟨k, q, -⟩ := S.2.2.2.2.2; exact List.length_pos_of_mem q
    refine c_virtual w (y := (⟨"java/lang/String", "isLatin1", "()Z"⟩ : MethodName)) (C := "java/lang/String") (a := a) (argsL := []) (st := []) own_d19_1 (hw _ (List.mem_of_getElem? (i := 91) rfl)) (hw _ (List.mem_of_getElem? (i := 92) rfl)) (hw _ (List.mem_of_getElem? (i := 94) rfl)) (hw _ (List.mem_of_getElem? (i := 93) rfl)) (hw _ (List.mem_of_getElem? (i := 95) rfl)) (hw _ (List.mem_of_getElem? (i := 18) rfl)) (by decide) own_pd_pqZ rfl S.1 (own_isLatin1 l Z a0 hw a 1 G1 hG SG h0 n0 w.old S.2.2.1) rfl (by decide) (W := 0) (Nat.le_of_eq rfl) (by decide) (by decide) (by decide) (fun _ q => nomatch q) (pc' := 4) rfl ?_
    intro v187 T187 h187 w187 K187 q187
    obtain ⟨rfl, rfl⟩ := q187
    show Goes p e below _ T187 (mkF m 4 #[.val (.ref a)] [(.int (0 : Int32))])
    refine i_if_eq_Y w187 rfl own_d19_4 (pc' := 17) (by decide) ?_
    refine i_aloadN w187 own_d19_17 rfl rfl (pc' := 18) rfl ?_
    refine i_getF w187 own_d19_18 (hw _ (List.mem_of_getElem? (i := 62) rfl)) S.2.1 (pc' := 21) rfl ?_
    intro T188 w188
    refine c_static w188 (y := (⟨"java/lang/StringUTF16", "toChars", "([B)[C"⟩ : MethodName)) (argsL := [(.ref t)]) (st := []) own_d19_21 (hw _ (List.mem_of_getElem? (i := 96) rfl)) (hw _ (List.mem_of_getElem? (i := 97) rfl)) (hw _ (List.mem_of_getElem? (i := 32) rfl)) (hw _ (List.mem_of_getElem? (i := 98) rfl)) (by decide) own_pd_pABqAC rfl (own_uToCh l Z a0 hw t ct cs SA SHi SLo G3 hG3 SF h0 n0 w188.old S.2.2.2.2.1 h1 hn S.2.2.2.1) rfl (by decide) (W := 0) (Nat.le_of_eq rfl) (by decide) (by decide) (by decide) (fun _ q => nomatch q) (pc' := 24) rfl ?_
    intro v189 T189 h189 w189 K189 q189
    obtain ⟨d, cd, rfl, zd, Ad⟩ := q189
    show Goes p e below _ T189 (mkF m 24 #[.val (.ref a)] [(.ref d)])
    exact i_retA w189 own_d19_24 rfl rfl rfl ⟨d, cd, rfl, zd, Ad⟩ (by decide) (by decide)
theorem own_d16_0 : decode prog_18_method_12_code 0 = .ok (.new 141, 3) := by decide +kernel
theorem own_d16_3 : decode prog_18_method_12_code 3 = .ok (.dup, 1) := by decide +kernel
theorem own_d16_4 : decode prog_18_method_12_code 4 = .ok (.invokespecial 143, 3) := by decide +kernel
theorem own_d16_7 : decode prog_18_method_12_code 7 = .ok (.astore_n 1, 1) := by decide +kernel
theorem own_d16_8 : decode prog_18_method_12_code 8 = .ok (.iconst 0, 1) := by decide +kernel
theorem own_d16_9 : decode prog_18_method_12_code 9 = .ok (.istore_n 2, 1) := by decide +kernel
theorem own_d16_10 : decode prog_18_method_12_code 10 = .ok (.aload_n 0, 1) := by decide +kernel
theorem own_d16_11 : decode prog_18_method_12_code 11 = .ok (.invokevirtual 144, 3) := by decide +kernel
theorem own_d16_14 : decode prog_18_method_12_code 14 = .ok (.astore_n 3, 1) := by decide +kernel
theorem own_d16_15 : decode prog_18_method_12_code 15 = .ok (.aload_n 3, 1) := by decide +kernel
theorem own_d16_16 : decode prog_18_method_12_code 16 = .ok (.arraylength, 1) := by decide +kernel
theorem own_d16_17 : decode prog_18_method_12_code 17 = .ok (.istore 4, 2) := by decide +kernel
theorem own_d16_19 : decode prog_18_method_12_code 19 = .ok (.iconst 0, 1) := by decide +kernel
theorem own_d16_20 : decode prog_18_method_12_code 20 = .ok (.istore 5, 2) := by decide +kernel
theorem own_d16_22 : decode prog_18_method_12_code 22 = .ok (.iload 5, 2) := by decide +kernel
theorem own_d16_24 : decode prog_18_method_12_code 24 = .ok (.iload 4, 2) := by decide +kernel
theorem own_d16_26 : decode prog_18_method_12_code 26 = .ok (.if_icmp .ge 106, 3) := by decide +kernel
theorem own_d16_29 : decode prog_18_method_12_code 29 = .ok (.aload_n 3, 1) := by decide +kernel
theorem own_d16_30 : decode prog_18_method_12_code 30 = .ok (.iload 5, 2) := by decide +kernel
theorem own_d16_32 : decode prog_18_method_12_code 32 = .ok (.caload, 1) := by decide +kernel
theorem own_d16_33 : decode prog_18_method_12_code 33 = .ok (.istore 6, 2) := by decide +kernel
theorem own_d16_35 : decode prog_18_method_12_code 35 = .ok (.iload_n 2, 1) := by decide +kernel
theorem own_d16_36 : decode prog_18_method_12_code 36 = .ok (.ifCond .eq 71, 3) := by decide +kernel
theorem own_d16_39 : decode prog_18_method_12_code 39 = .ok (.iload 6, 2) := by decide +kernel
theorem own_d16_41 : decode prog_18_method_12_code 41 = .ok (.lookupswitch 50 #[(110, 40), (114, 45), (116, 35)], 35) := by decide +kernel
theorem own_d16_76 : decode prog_18_method_12_code 76 = .ok (.bipush 9, 2) := by decide +kernel
theorem own_d16_78 : decode prog_18_method_12_code 78 = .ok (.goto 15, 3) := by decide +kernel
theorem own_d16_81 : decode prog_18_method_12_code 81 = .ok (.bipush 10, 2) := by decide +kernel
theorem own_d16_83 : decode prog_18_method_12_code 83 = .ok (.goto 10, 3) := by decide +kernel
theorem own_d16_86 : decode prog_18_method_12_code 86 = .ok (.bipush 13, 2) := by decide +kernel
theorem own_d16_88 : decode prog_18_method_12_code 88 = .ok (.goto 5, 3) := by decide +kernel
theorem own_d16_91 : decode prog_18_method_12_code 91 = .ok (.iload 6, 2) := by decide +kernel
theorem own_d16_93 : decode prog_18_method_12_code 93 = .ok (.istore 7, 2) := by decide +kernel
theorem own_d16_95 : decode prog_18_method_12_code 95 = .ok (.aload_n 1, 1) := by decide +kernel
theorem own_d16_96 : decode prog_18_method_12_code 96 = .ok (.iload 7, 2) := by decide +kernel
theorem own_d16_98 : decode prog_18_method_12_code 98 = .ok (.invokevirtual 148, 3) := by decide +kernel
theorem own_d16_101 : decode prog_18_method_12_code 101 = .ok (.pop, 1) := by decide +kernel
theorem own_d16_102 : decode prog_18_method_12_code 102 = .ok (.iconst 0, 1) := by decide +kernel
theorem own_d16_103 : decode prog_18_method_12_code 103 = .ok (.istore_n 2, 1) := by decide +kernel
theorem own_d16_104 : decode prog_18_method_12_code 104 = .ok (.goto 22, 3) := by decide +kernel
theorem own_d16_107 : decode prog_18_method_12_code 107 = .ok (.iload 6, 2) := by decide +kernel
theorem own_d16_109 : decode prog_18_method_12_code 109 = .ok (.bipush 92, 2) := by decide +kernel
theorem own_d16_111 : decode prog_18_method_12_code 111 = .ok (.if_icmp .ne 8, 3) := by decide +kernel
theorem own_d16_114 : decode prog_18_method_12_code 114 = .ok (.iconst 1, 1) := by decide +kernel
theorem own_d16_115 : decode prog_18_method_12_code 115 = .ok (.istore_n 2, 1) := by decide +kernel
theorem own_d16_116 : decode prog_18_method_12_code 116 = .ok (.goto 10, 3) := by decide +kernel
theorem own_d16_119 : decode prog_18_method_12_code 119 = .ok (.aload_n 1, 1) := by decide +kernel
theorem own_d16_120 : decode prog_18_method_12_code 120 = .ok (.iload 6, 2) := by decide +kernel
theorem own_d16_122 : decode prog_18_method_12_code 122 = .ok (.invokevirtual 148, 3) := by decide +kernel
theorem own_d16_125 : decode prog_18_method_12_code 125 = .ok (.pop, 1) := by decide +kernel
theorem own_d16_126 : decode prog_18_method_12_code 126 = .ok (.iinc 5 1, 3) := by decide +kernel
theorem own_d16_129 : decode prog_18_method_12_code 129 = .ok (.goto (-107), 3) := by decide +kernel
theorem own_d16_132 : decode prog_18_method_12_code 132 = .ok (.aload_n 1, 1) := by decide +kernel
theorem own_d16_133 : decode prog_18_method_12_code 133 = .ok (.invokevirtual 152, 3) := by decide +kernel
theorem own_d16_136 : decode prog_18_method_12_code 136 = .ok (.areturn, 1) := by decide +kernel
theorem own_pn_com_example_millwright_millwright_TestReport : plainName "com/example/millwright/millwright/TestReport" = true := by first | (simp [plainName, overriddenIn]; done) | decide +kernel
set_option maxRecDepth 65536 in
set_option maxHeartbeats 40000000 in
theorem own_un_loop (l : Launch) (Z : State) (a0 : Array Value) (hw : ∀ d ∈ tables_1, d.before a0 Z = true) (a sb d : Addr) (cd : ClassId) (cs : List Nat) (G1 : Int32) (hG : ¬ G1 = 0) (SG : Sta Z Z.heap "java/lang/String" "COMPACT_STRINGS" "Z" (.int G1)) (SA : Sta Z Z.heap "java/lang/StringUTF16" "$assertionsDisabled" "Z" (.int 1)) (SHi : Sta Z Z.heap "java/lang/StringUTF16" "HI_BYTE_SHIFT" "I" (.int 0)) (SLo : Sta Z Z.heap "java/lang/StringUTF16" "LO_BYTE_SHIFT" "I" (.int 8)) (G3 : Value) (hG3 : G3.isRef = true) (SF : Sta Z Z.heap "jdk/internal/util/Preconditions" "SIOOBE_FORMATTER" "Ljava/util/function/BiFunction;" G3) (hcs : ∀ c ∈ cs, c < 65536) (hn : cs.length ≤ 6) (h0 : Heap) (n0 : Nat) (zsb : h0.size ≤ sb) (hdb : d ≠ sb) {p : Program} {e : Env} {s : State} {m : MethodId} {args : Array Value} {below : List Frame} {meth : Method} {c : Code} :
    ∀ (j i : Nat) (esc : Bool) (z2 : Int32) (outs : List Nat) (t : Addr) (ct : ClassId) (T : State) (h : Heap) (kk nn : Nat) (o6 o7 : Slot), i + j = cs.length → ((esc = false ∧ z2 = 0) ∨ (esc = true ∧ z2 = 1)) → One o6 → One o7 → Wk p l e ({ frames := 8, cells := 11, slots := 264, locals := 123 } : Room) s m args below meth c Z "com/example/millwright/millwright/TestReport" prog_18_method_12_code 8 (some (.object "java/lang/String")) "unescape" n0 h0 [] T h kk nn → kk + j + 2 ≤ 11 → nn + 32 * j + 36 ≤ 264 → Ary Z h d cd .char (chs cs) → SBu Z h sb t ct outs → h0.size ≤ t → sb ≠ t → d ≠ t → outs.length ≤ i → outs ++ own_un esc (cs.drop i) = own_un false cs →
      Goes p e below (PN s n0 h0 [] (fun v h => ∃ x dx cx, v = some (.ref x) ∧ h0.size ≤ x ∧ Str Z h x dx cx (own_un false cs)) 11 264) T (mkF m 22 #[.val (.ref a), .val (.ref sb), .val (.int z2), .val (.ref d), .val (.int (Int32.ofNat cs.length)), .val (.int (Int32.ofNat i)), o6, o7] []) := by
  intro j
  induction j with
  | zero =>
    intro i esc z2 outs t ct T h kk nn o6 o7 hij hz ho6 ho7 w hkk hnn Ad S zt hbt hdt hol hun
    refine i_iload w own_d16_22 rfl (pc' := 24) rfl ?_
    refine i_iload w own_d16_24 rfl (pc' := 26) rfl ?_
    refine i_icmp_ge_Y w (by rw [show i = cs.length by omega]; exact Int32.lt_irrefl) own_d16_26 (pc' := 132) (by decide) ?_
    refine i_aloadN w own_d16_132 rfl rfl (pc' := 133) rfl ?_
    have hout : outs = own_un false cs := by rw [← hun, show i = cs.length by omega, List.drop_length]; cases esc <;> simp [own_un]
    rcases S with S | ⟨S, hex⟩
    ·
      refine c_virtual w (y := (⟨"java/lang/StringBuilder", "toString", "()Ljava/lang/String;"⟩ : MethodName)) (C := "java/lang/StringBuilder") (a := sb) (argsL := []) (st := []) own_d16_133 (hw _ (List.mem_of_getElem? (i := 166) rfl)) (hw _ (List.mem_of_getElem? (i := 167) rfl)) (hw _ (List.mem_of_getElem? (i := 169) rfl)) (hw _ (List.mem_of_getElem? (i := 168) rfl)) (hw _ (List.mem_of_getElem? (i := 170) rfl)) (hw _ (List.mem_of_getElem? (i := 70) rfl)) (by decide) own_pd_pqLjava_lang_Stringe rfl S.1 (own_sbToSn l Z a0 hw sb t ct outs G1 hG SG h n0 w.old S (by omega)) rfl (by decide) (W := 0) (Nat.le_of_eq rfl) (by decide) (by show kk + 2 ≤ 11; omega) (by show nn + 36 ≤ 264; omega) (fun _ q => nomatch q) (pc' := 136) rfl ?_
      intro v191 T191 h191 w191 K191 q191
      obtain ⟨x, dx, cx, rfl, zx, Sx⟩ := q191
      show Goes p e below _ T191 (mkF m 136 #[.val (.ref a), .val (.ref sb), .val (.int z2), .val (.ref d), .val (.int (Int32.ofNat cs.length)), .val (.int (Int32.ofNat i)), o6, o7] [(.ref x)])
      have zx0 : h0.size ≤ x := Nat.le_trans w.le0 zx
      rw [hout] at Sx
      exact i_retA w191 own_d16_136 rfl rfl rfl ⟨x, dx, cx, rfl, zx0, Sx⟩ (by show (kk + 2) ≤ 11; omega) (by show (nn + 36) ≤ 264; omega)
    ·
      refine c_virtual w (y := (⟨"java/lang/StringBuilder", "toString", "()Ljava/lang/String;"⟩ : MethodName)) (C := "java/lang/StringBuilder") (a := sb) (argsL := []) (st := []) own_d16_133 (hw _ (List.mem_of_getElem? (i := 166) rfl)) (hw _ (List.mem_of_getElem? (i := 167) rfl)) (hw _ (List.mem_of_getElem? (i := 169) rfl)) (hw _ (List.mem_of_getElem? (i := 168) rfl)) (hw _ (List.mem_of_getElem? (i := 170) rfl)) (hw _ (List.mem_of_getElem? (i := 70) rfl)) (by decide) own_pd_pqLjava_lang_Stringe rfl S.1 (own_sbToSw l Z a0 hw sb t ct outs G1 hG SG h n0 w.old S hex (by omega)) rfl (by decide) (W := 0) (Nat.le_of_eq rfl) (by decide) (by show kk + 2 ≤ 11; omega) (by show nn + 36 ≤ 264; omega) (fun _ q => nomatch q) (pc' := 136) rfl ?_
      intro v193 T193 h193 w193 K193 q193
      obtain ⟨x, dx, cx, rfl, zx, Sx⟩ := q193
      show Goes p e below _ T193 (mkF m 136 #[.val (.ref a), .val (.ref sb), .val (.int z2), .val (.ref d), .val (.int (Int32.ofNat cs.length)), .val (.int (Int32.ofNat i)), o6, o7] [(.ref x)])
      have zx0 : h0.size ≤ x := Nat.le_trans w.le0 zx
      rw [hout] at Sx
      exact i_retA w193 own_d16_136 rfl rfl rfl ⟨x, dx, cx, rfl, zx0, Sx⟩ (by show (kk + 2) ≤ 11; omega) (by show (nn + 36) ≤ 264; omega)
  | succ j ih =>
    intro i esc z2 outs t ct T h kk nn o6 o7 hij hz ho6 ho7 w hkk hnn Ad S zt hbt hdt hol hun
    obtain ⟨ci, hci⟩ : ∃ ci, cs[i]? = some ci := ⟨_, List.getElem?_eq_getElem (by omega)⟩
    have hcb : ci < 65536 := hcs ci (List.mem_of_getElem? hci)
    rcases hz with ⟨rfl, rfl⟩ | ⟨rfl, rfl⟩
    ·
      refine i_iload w own_d16_22 rfl (pc' := 24) rfl ?_
      refine i_iload w own_d16_24 rfl (pc' := 26) rfl ?_
      refine i_icmp_ge_N w ((lt_nat (by omega) (by omega)).mpr (by omega)) own_d16_26 (pc' := 29) rfl ?_
      refine i_aloadN w own_d16_29 rfl rfl (pc' := 30) rfl ?_
      refine i_iload w own_d16_30 rfl (pc' := 32) rfl ?_
      refine i_caload w own_d16_32 Ad rfl (chs_at hci) (pc' := 33) rfl ?_
      refine i_istore w own_d16_33 (l' := #[.val (.ref a), .val (.ref sb), .val (.int (0 : Int32)), .val (.ref d), .val (.int (Int32.ofNat cs.length)), .val (.int (Int32.ofNat i)), .val (.int (Int32.ofNat ci)), o7]) (XS.store1 rfl ho6 rfl) (pc' := 35) rfl ?_
      refine i_iloadN w own_d16_35 rfl (pc' := 36) rfl ?_
      refine i_if_eq_Y w rfl own_d16_36 (pc' := 107) (by decide) ?_
      refine i_iload w own_d16_107 rfl (pc' := 109) rfl ?_
      refine i_bipush w own_d16_109 (z := (92 : Int32)) (by decide) (pc' := 111) rfl ?_
      refine i_icmp_ne w own_d16_111 (pcY := 119) (by decide) (pc' := 114) rfl (fun hc111 => ?_) (fun hc111 => ?_)
      ·
        refine i_aloadN w own_d16_119 rfl rfl (pc' := 120) rfl ?_
        refine i_iload w own_d16_120 rfl (pc' := 122) rfl ?_
        rcases S with S | ⟨S, hex⟩
        ·
          refine c_virtual w (y := (⟨"java/lang/StringBuilder", "append", "(C)Ljava/lang/StringBuilder;"⟩ : MethodName)) (C := "java/lang/StringBuilder") (a := sb) (argsL := [(.int (Int32.ofNat ci))]) (st := []) own_d16_122 (hw _ (List.mem_of_getElem? (i := 116) rfl)) (hw _ (List.mem_of_getElem? (i := 117) rfl)) (hw _ (List.mem_of_getElem? (i := 119) rfl)) (hw _ (List.mem_of_getElem? (i := 118) rfl)) (hw _ (List.mem_of_getElem? (i := 120) rfl)) (hw _ (List.mem_of_getElem? (i := 70) rfl)) (by decide) own_pd_pCqLjava_lang_StringBuildere rfl S.1 (own_sbAppn l Z a0 hw sb t ct outs ci G1 hG SG SA SHi SLo G3 hG3 SF h n0 w.old (Nat.le_trans w.n0h0 zsb) (Nat.le_trans w.n0h0 zt) hbt S (by omega) (by omega)) rfl (by decide) (W := 0) (Nat.le_of_eq rfl) (by decide) (by show kk + 1 ≤ 11; omega) (by show nn + 32 ≤ 264; omega) (allS (Or.inr zsb) (allS (Or.inr zt) all0)) (pc' := 125) rfl ?_
          intro v195 T195 h195 w195 K195 q195
          obtain ⟨rfl, t', ct', zt', Sd⟩ := q195
          show Goes p e below _ T195 (mkF m 125 #[.val (.ref a), .val (.ref sb), .val (.int (0 : Int32)), .val (.ref d), .val (.int (Int32.ofNat cs.length)), .val (.int (Int32.ofNat i)), .val (.int (Int32.ofNat ci)), o7] [(.ref sb)])
          have z1 : h0.size ≤ t' := zt'.elim (fun q => by rw [q]; exact zt) (fun q => Nat.le_trans w.le0 q)
          have hb1 : sb ≠ t' := zt'.elim (fun q => by rw [q]; exact hbt) (fun q => Nat.ne_of_lt (Nat.lt_of_lt_of_le S.lt q))
          have hd1 : d ≠ t' := zt'.elim (fun q => by rw [q]; exact hdt) (fun q => Nat.ne_of_lt (Nat.lt_of_lt_of_le Ad.lt q))
          have Ad1 := Ad.keep K195 (ninS hdb (ninS hdt nin0))
          refine i_pop w195 own_d16_125 rfl (pc' := 126) rfl ?_
          refine i_iinc w195 own_d16_126 rfl (z := (Int32.ofNat (i + 1))) (inc_nat i) (l' := #[.val (.ref a), .val (.ref sb), .val (.int (0 : Int32)), .val (.ref d), .val (.int (Int32.ofNat cs.length)), .val (.int (Int32.ofNat (i + 1))), .val (.int (Int32.ofNat ci)), o7]) rfl (pc' := 129) rfl ?_
          refine i_goto w195 own_d16_129 (pc' := 22) (by decide) ?_
          rw [own_drop hci, own_un_ch (fun q => hc111 (by rw [q]; rfl))] at hun
          exact ih (i + 1) false _ (outs ++ [ci]) t' ct' T195 h195 _ _ _ o7 (by omega) (Or.inl ⟨rfl, rfl⟩) (One.val rfl) ho7 w195 (by show (kk + 1) + j + 2 ≤ 11; omega) (by show (nn + 32) + 32 * j + 36 ≤ 264; omega) Ad1 Sd z1 hb1 hd1 (by simp; omega) (by rw [List.append_assoc]; exact hun)
        ·
          refine c_virtual w (y := (⟨"java/lang/StringBuilder", "append", "(C)Ljava/lang/StringBuilder;"⟩ : MethodName)) (C := "java/lang/StringBuilder") (a := sb) (argsL := [(.int (Int32.ofNat ci))]) (st := []) own_d16_122 (hw _ (List.mem_of_getElem? (i := 116) rfl)) (hw _ (List.mem_of_getElem? (i := 117) rfl)) (hw _ (List.mem_of_getElem? (i := 119) rfl)) (hw _ (List.mem_of_getElem? (i := 118) rfl)) (hw _ (List.mem_of_getElem? (i := 120) rfl)) (hw _ (List.mem_of_getElem? (i := 70) rfl)) (by decide) own_pd_pCqLjava_lang_StringBuildere rfl S.1 (own_sbAppw l Z a0 hw sb t ct outs ci G1 hG SG SA SHi SLo G3 hG3 SF h n0 w.old (Nat.le_trans w.n0h0 zsb) (Nat.le_trans w.n0h0 zt) hbt S hex (by omega) (by omega)) rfl (by decide) (W := 0) (Nat.le_of_eq rfl) (by decide) (by show kk + 0 ≤ 11; omega) (by show nn + 0 ≤ 264; omega) (allS (Or.inr zsb) (allS (Or.inr zt) all0)) (pc' := 125) rfl ?_
          intro v197 T197 h197 w197 K197 q197
          obtain ⟨rfl, t', ct', zt', Sd⟩ := q197
          show Goes p e below _ T197 (mkF m 125 #[.val (.ref a), .val (.ref sb), .val (.int (0 : Int32)), .val (.ref d), .val (.int (Int32.ofNat cs.length)), .val (.int (Int32.ofNat i)), .val (.int (Int32.ofNat ci)), o7] [(.ref sb)])
          have z1 : h0.size ≤ t' := zt'.elim (fun q => by rw [q]; exact zt) (fun q => Nat.le_trans w.le0 q)
          have hb1 : sb ≠ t' := zt'.elim (fun q => by rw [q]; exact hbt) (fun q => Nat.ne_of_lt (Nat.lt_of_lt_of_le S.lt q))
          have hd1 : d ≠ t' := zt'.elim (fun q => by rw [q]; exact hdt) (fun q => Nat.ne_of_lt (Nat.lt_of_lt_of_le Ad.lt q))
          have Ad1 := Ad.keep K197 (ninS hdb (ninS hdt nin0))
          refine i_pop w197 own_d16_125 rfl (pc' := 126) rfl ?_
          refine i_iinc w197 own_d16_126 rfl (z := (Int32.ofNat (i + 1))) (inc_nat i) (l' := #[.val (.ref a), .val (.ref sb), .val (.int (0 : Int32)), .val (.ref d), .val (.int (Int32.ofNat cs.length)), .val (.int (Int32.ofNat (i + 1))), .val (.int (Int32.ofNat ci)), o7]) rfl (pc' := 129) rfl ?_
          refine i_goto w197 own_d16_129 (pc' := 22) (by decide) ?_
          rw [own_drop hci, own_un_ch (fun q => hc111 (by rw [q]; rfl))] at hun
          exact ih (i + 1) false _ (outs ++ [ci]) t' ct' T197 h197 _ _ _ o7 (by omega) (Or.inl ⟨rfl, rfl⟩) (One.val rfl) ho7 w197 (by show (kk + 0) + j + 2 ≤ 11; omega) (by show (nn + 0) + 32 * j + 36 ≤ 264; omega) Ad1 Sd z1 hb1 hd1 (by simp; omega) (by rw [List.append_assoc]; exact hun)
      ·
        have e92 : ci = 92 := (eq_nat (by omega) (by omega)).mp (hc111.trans (show (92 : Int32) = Int32.ofNat 92 from rfl))
        subst e92
        refine i_iconst w own_d16_114 (z := (1 : Int32)) (by decide) (pc' := 115) rfl ?_
        refine i_istoreN w own_d16_115 (l' := #[.val (.ref a), .val (.ref sb), .val (.int (1 : Int32)), .val (.ref d), .val (.int (Int32.ofNat cs.length)), .val (.int (Int32.ofNat i)), .val (.int (Int32.ofNat 92)), o7]) rfl (pc' := 116) rfl ?_
        refine i_goto w own_d16_116 (pc' := 126) (by decide) ?_
        refine i_iinc w own_d16_126 rfl (z := (Int32.ofNat (i + 1))) (inc_nat i) (l' := #[.val (.ref a), .val (.ref sb), .val (.int (1 : Int32)), .val (.ref d), .val (.int (Int32.ofNat cs.length)), .val (.int (Int32.ofNat (i + 1))), .val (.int (Int32.ofNat 92)), o7]) rfl (pc' := 129) rfl ?_
        refine i_goto w own_d16_129 (pc' := 22) (by decide) ?_
        rw [own_drop hci, own_un_92] at hun
        exact ih (i + 1) true _ outs t ct T h _ _ _ o7 (by omega) (Or.inr ⟨rfl, rfl⟩) (One.val rfl) ho7 w (by omega) (by omega) Ad S zt hbt hdt (by omega) hun
    ·
      refine i_iload w own_d16_22 rfl (pc' := 24) rfl ?_
      refine i_iload w own_d16_24 rfl (pc' := 26) rfl ?_
      refine i_icmp_ge_N w ((lt_nat (by omega) (by omega)).mpr (by omega)) own_d16_26 (pc' := 29) rfl ?_
      refine i_aloadN w own_d16_29 rfl rfl (pc' := 30) rfl ?_
      refine i_iload w own_d16_30 rfl (pc' := 32) rfl ?_
      refine i_caload w own_d16_32 Ad rfl (chs_at hci) (pc' := 33) rfl ?_
      refine i_istore w own_d16_33 (l' := #[.val (.ref a), .val (.ref sb), .val (.int (1 : Int32)), .val (.ref d), .val (.int (Int32.ofNat cs.length)), .val (.int (Int32.ofNat i)), .val (.int (Int32.ofNat ci)), o7]) (XS.store1 rfl ho6 rfl) (pc' := 35) rfl ?_
      refine i_iloadN w own_d16_35 rfl (pc' := 36) rfl ?_
      refine i_if_eq_N w (by decide) own_d16_36 (pc' := 39) rfl ?_
      refine i_iload w own_d16_39 rfl (pc' := 41) rfl ?_
      by_cases e116 : ci = 116
      ·
        subst e116
        refine i_swHit w (key := Int32.ofNat 116) (a := 116) (off := 35) own_d16_41 (by decide) (by decide) (pc' := 76) (by decide) ?_
        refine i_bipush w own_d16_76 (z := (9 : Int32)) (by decide) (pc' := 78) rfl ?_
        refine i_goto w own_d16_78 (pc' := 93) (by decide) ?_
        refine i_istore w own_d16_93 (l' := #[.val (.ref a), .val (.ref sb), .val (.int (1 : Int32)), .val (.ref d), .val (.int (Int32.ofNat cs.length)), .val (.int (Int32.ofNat i)), .val (.int (Int32.ofNat 116)), .val (.int (9 : Int32))]) (XS.store1 rfl ho7 rfl) (pc' := 95) rfl ?_
        refine i_aloadN w own_d16_95 rfl rfl (pc' := 96) rfl ?_
        refine i_iload w own_d16_96 rfl (pc' := 98) rfl ?_
        rcases S with S | ⟨S, hex⟩
        show Goes p e below _ T (mkF m 98 #[.val (.ref a), .val (.ref sb), .val (.int (1 : Int32)), .val (.ref d), .val (.int (Int32.ofNat cs.length)), .val (.int (Int32.ofNat i)), .val (.int (Int32.ofNat 116)), .val (.int (9 : Int32))] [(.int (Int32.ofNat 9)), (.ref sb)])
        ·
          refine c_virtual w (y := (⟨"java/lang/StringBuilder", "append", "(C)Ljava/lang/StringBuilder;"⟩ : MethodName)) (C := "java/lang/StringBuilder") (a := sb) (argsL := [(.int (Int32.ofNat 9))]) (st := []) own_d16_98 (hw _ (List.mem_of_getElem? (i := 116) rfl)) (hw _ (List.mem_of_getElem? (i := 117) rfl)) (hw _ (List.mem_of_getElem? (i := 119) rfl)) (hw _ (List.mem_of_getElem? (i := 118) rfl)) (hw _ (List.mem_of_getElem? (i := 120) rfl)) (hw _ (List.mem_of_getElem? (i := 70) rfl)) (by decide) own_pd_pCqLjava_lang_StringBuildere rfl S.1 (own_sbAppn l Z a0 hw sb t ct outs 9 G1 hG SG SA SHi SLo G3 hG3 SF h n0 w.old (Nat.le_trans w.n0h0 zsb) (Nat.le_trans w.n0h0 zt) hbt S (by omega) (by omega)) rfl (by decide) (W := 0) (Nat.le_of_eq rfl) (by decide) (by show kk + 1 ≤ 11; omega) (by show nn + 32 ≤ 264; omega) (allS (Or.inr zsb) (allS (Or.inr zt) all0)) (pc' := 101) rfl ?_
          intro v199 T199 h199 w199 K199 q199
          obtain ⟨rfl, t', ct', zt', Sd⟩ := q199
          show Goes p e below _ T199 (mkF m 101 #[.val (.ref a), .val (.ref sb), .val (.int (1 : Int32)), .val (.ref d), .val (.int (Int32.ofNat cs.length)), .val (.int (Int32.ofNat i)), .val (.int (Int32.ofNat 116)), .val (.int (9 : Int32))] [(.ref sb)])
          have z1 : h0.size ≤ t' := zt'.elim (fun q => by rw [q]; exact zt) (fun q => Nat.le_trans w.le0 q)
          have hb1 : sb ≠ t' := zt'.elim (fun q => by rw [q]; exact hbt) (fun q => Nat.ne_of_lt (Nat.lt_of_lt_of_le S.lt q))
          have hd1 : d ≠ t' := zt'.elim (fun q => by rw [q]; exact hdt) (fun q => Nat.ne_of_lt (Nat.lt_of_lt_of_le Ad.lt q))
          have Ad1 := Ad.keep K199 (ninS hdb (ninS hdt nin0))
          refine i_pop w199 own_d16_101 rfl (pc' := 102) rfl ?_
          refine i_iconst w199 own_d16_102 (z := (0 : Int32)) (by decide) (pc' := 103) rfl ?_
          refine i_istoreN w199 own_d16_103 (l' := #[.val (.ref a), .val (.ref sb), .val (.int (0 : Int32)), .val (.ref d), .val (.int (Int32.ofNat cs.length)), .val (.int (Int32.ofNat i)), .val (.int (Int32.ofNat 116)), .val (.int (9 : Int32))]) rfl (pc' := 104) rfl ?_
          refine i_goto w199 own_d16_104 (pc' := 126) (by decide) ?_
          refine i_iinc w199 own_d16_126 rfl (z := (Int32.ofNat (i + 1))) (inc_nat i) (l' := #[.val (.ref a), .val (.ref sb), .val (.int (0 : Int32)), .val (.ref d), .val (.int (Int32.ofNat cs.length)), .val (.int (Int32.ofNat (i + 1))), .val (.int (Int32.ofNat 116)), .val (.int (9 : Int32))]) rfl (pc' := 129) rfl ?_
          refine i_goto w199 own_d16_129 (pc' := 22) (by decide) ?_
          rw [own_drop hci, own_un_m] at hun
          exact ih (i + 1) false _ (outs ++ [9]) t' ct' T199 h199 _ _ _ _ (by omega) (Or.inl ⟨rfl, rfl⟩) (One.val rfl) (One.val rfl) w199 (by show (kk + 1) + j + 2 ≤ 11; omega) (by show (nn + 32) + 32 * j + 36 ≤ 264; omega) Ad1 Sd z1 hb1 hd1 (by simp; omega) (by rw [List.append_assoc]; exact hun)
        ·
          refine c_virtual w (y := (⟨"java/lang/StringBuilder", "append", "(C)Ljava/lang/StringBuilder;"⟩ : MethodName)) (C := "java/lang/StringBuilder") (a := sb) (argsL := [(.int (Int32.ofNat 9))]) (st := []) own_d16_98 (hw _ (List.mem_of_getElem? (i := 116) rfl)) (hw _ (List.mem_of_getElem? (i := 117) rfl)) (hw _ (List.mem_of_getElem? (i := 119) rfl)) (hw _ (List.mem_of_getElem? (i := 118) rfl)) (hw _ (List.mem_of_getElem? (i := 120) rfl)) (hw _ (List.mem_of_getElem? (i := 70) rfl)) (by decide) own_pd_pCqLjava_lang_StringBuildere rfl S.1 (own_sbAppw l Z a0 hw sb t ct outs 9 G1 hG SG SA SHi SLo G3 hG3 SF h n0 w.old (Nat.le_trans w.n0h0 zsb) (Nat.le_trans w.n0h0 zt) hbt S hex (by omega) (by omega)) rfl (by decide) (W := 0) (Nat.le_of_eq rfl) (by decide) (by show kk + 0 ≤ 11; omega) (by show nn + 0 ≤ 264; omega) (allS (Or.inr zsb) (allS (Or.inr zt) all0)) (pc' := 101) rfl ?_
          intro v201 T201 h201 w201 K201 q201
          obtain ⟨rfl, t', ct', zt', Sd⟩ := q201
          show Goes p e below _ T201 (mkF m 101 #[.val (.ref a), .val (.ref sb), .val (.int (1 : Int32)), .val (.ref d), .val (.int (Int32.ofNat cs.length)), .val (.int (Int32.ofNat i)), .val (.int (Int32.ofNat 116)), .val (.int (9 : Int32))] [(.ref sb)])
          have z1 : h0.size ≤ t' := zt'.elim (fun q => by rw [q]; exact zt) (fun q => Nat.le_trans w.le0 q)
          have hb1 : sb ≠ t' := zt'.elim (fun q => by rw [q]; exact hbt) (fun q => Nat.ne_of_lt (Nat.lt_of_lt_of_le S.lt q))
          have hd1 : d ≠ t' := zt'.elim (fun q => by rw [q]; exact hdt) (fun q => Nat.ne_of_lt (Nat.lt_of_lt_of_le Ad.lt q))
          have Ad1 := Ad.keep K201 (ninS hdb (ninS hdt nin0))
          refine i_pop w201 own_d16_101 rfl (pc' := 102) rfl ?_
          refine i_iconst w201 own_d16_102 (z := (0 : Int32)) (by decide) (pc' := 103) rfl ?_
          refine i_istoreN w201 own_d16_103 (l' := #[.val (.ref a), .val (.ref sb), .val (.int (0 : Int32)), .val (.ref d), .val (.int (Int32.ofNat cs.length)), .val (.int (Int32.ofNat i)), .val (.int (Int32.ofNat 116)), .val (.int (9 : Int32))]) rfl (pc' := 104) rfl ?_
          refine i_goto w201 own_d16_104 (pc' := 126) (by decide) ?_
          refine i_iinc w201 own_d16_126 rfl (z := (Int32.ofNat (i + 1))) (inc_nat i) (l' := #[.val (.ref a), .val (.ref sb), .val (.int (0 : Int32)), .val (.ref d), .val (.int (Int32.ofNat cs.length)), .val (.int (Int32.ofNat (i + 1))), .val (.int (Int32.ofNat 116)), .val (.int (9 : Int32))]) rfl (pc' := 129) rfl ?_
          refine i_goto w201 own_d16_129 (pc' := 22) (by decide) ?_
          rw [own_drop hci, own_un_m] at hun
          exact ih (i + 1) false _ (outs ++ [9]) t' ct' T201 h201 _ _ _ _ (by omega) (Or.inl ⟨rfl, rfl⟩) (One.val rfl) (One.val rfl) w201 (by show (kk + 0) + j + 2 ≤ 11; omega) (by show (nn + 0) + 32 * j + 36 ≤ 264; omega) Ad1 Sd z1 hb1 hd1 (by simp; omega) (by rw [List.append_assoc]; exact hun)
      ·
        by_cases e110 : ci = 110
        ·
          subst e110
          refine i_swHit w (key := Int32.ofNat 110) (a := 110) (off := 40) own_d16_41 (by decide) (by decide) (pc' := 81) (by decide) ?_
          refine i_bipush w own_d16_81 (z := (10 : Int32)) (by decide) (pc' := 83) rfl ?_
          refine i_goto w own_d16_83 (pc' := 93) (by decide) ?_
          refine i_istore w own_d16_93 (l' := #[.val (.ref a), .val (.ref sb), .val (.int (1 : Int32)), .val (.ref d), .val (.int (Int32.ofNat cs.length)), .val (.int (Int32.ofNat i)), .val (.int (Int32.ofNat 110)), .val (.int (10 : Int32))]) (XS.store1 rfl ho7 rfl) (pc' := 95) rfl ?_
          refine i_aloadN w own_d16_95 rfl rfl (pc' := 96) rfl ?_
          refine i_iload w own_d16_96 rfl (pc' := 98) rfl ?_
          rcases S with S | ⟨S, hex⟩
          show Goes p e below _ T (mkF m 98 #[.val (.ref a), .val (.ref sb), .val (.int (1 : Int32)), .val (.ref d), .val (.int (Int32.ofNat cs.length)), .val (.int (Int32.ofNat i)), .val (.int (Int32.ofNat 110)), .val (.int (10 : Int32))] [(.int (Int32.ofNat 10)), (.ref sb)])
          ·
            refine c_virtual w (y := (⟨"java/lang/StringBuilder", "append", "(C)Ljava/lang/StringBuilder;"⟩ : MethodName)) (C := "java/lang/StringBuilder") (a := sb) (argsL := [(.int (Int32.ofNat 10))]) (st := []) own_d16_98 (hw _ (List.mem_of_getElem? (i := 116) rfl)) (hw _ (List.mem_of_getElem? (i := 117) rfl)) (hw _ (List.mem_of_getElem? (i := 119) rfl)) (hw _ (List.mem_of_getElem? (i := 118) rfl)) (hw _ (List.mem_of_getElem? (i := 120) rfl)) (hw _ (List.mem_of_getElem? (i := 70) rfl)) (by decide) own_pd_pCqLjava_lang_StringBuildere rfl S.1 (own_sbAppn l Z a0 hw sb t ct outs 10 G1 hG SG SA SHi SLo G3 hG3 SF h n0 w.old (Nat.le_trans w.n0h0 zsb) (Nat.le_trans w.n0h0 zt) hbt S (by omega) (by omega)) rfl (by decide) (W := 0) (Nat.le_of_eq rfl) (by decide) (by show kk + 1 ≤ 11; omega) (by show nn + 32 ≤ 264; omega) (allS (Or.inr zsb) (allS (Or.inr zt) all0)) (pc' := 101) rfl ?_
            intro v203 T203 h203 w203 K203 q203
            obtain ⟨rfl, t', ct', zt', Sd⟩ := q203
            show Goes p e below _ T203 (mkF m 101 #[.val (.ref a), .val (.ref sb), .val (.int (1 : Int32)), .val (.ref d), .val (.int (Int32.ofNat cs.length)), .val (.int (Int32.ofNat i)), .val (.int (Int32.ofNat 110)), .val (.int (10 : Int32))] [(.ref sb)])
            have z1 : h0.size ≤ t' := zt'.elim (fun q => by rw [q]; exact zt) (fun q => Nat.le_trans w.le0 q)
            have hb1 : sb ≠ t' := zt'.elim (fun q => by rw [q]; exact hbt) (fun q => Nat.ne_of_lt (Nat.lt_of_lt_of_le S.lt q))
            have hd1 : d ≠ t' := zt'.elim (fun q => by rw [q]; exact hdt) (fun q => Nat.ne_of_lt (Nat.lt_of_lt_of_le Ad.lt q))
            have Ad1 := Ad.keep K203 (ninS hdb (ninS hdt nin0))
            refine i_pop w203 own_d16_101 rfl (pc' := 102) rfl ?_
            refine i_iconst w203 own_d16_102 (z := (0 : Int32)) (by decide) (pc' := 103) rfl ?_
            refine i_istoreN w203 own_d16_103 (l' := #[.val (.ref a), .val (.ref sb), .val (.int (0 : Int32)), .val (.ref d), .val (.int (Int32.ofNat cs.length)), .val (.int (Int32.ofNat i)), .val (.int (Int32.ofNat 110)), .val (.int (10 : Int32))]) rfl (pc' := 104) rfl ?_
            refine i_goto w203 own_d16_104 (pc' := 126) (by decide) ?_
            refine i_iinc w203 own_d16_126 rfl (z := (Int32.ofNat (i + 1))) (inc_nat i) (l' := #[.val (.ref a), .val (.ref sb), .val (.int (0 : Int32)), .val (.ref d), .val (.int (Int32.ofNat cs.length)), .val (.int (Int32.ofNat (i + 1))), .val (.int (Int32.ofNat 110)), .val (.int (10 : Int32))]) rfl (pc' := 129) rfl ?_
            refine i_goto w203 own_d16_129 (pc' := 22) (by decide) ?_
            rw [own_drop hci, own_un_m] at hun
            exact ih (i + 1) false _ (outs ++ [10]) t' ct' T203 h203 _ _ _ _ (by omega) (Or.inl ⟨rfl, rfl⟩) (One.val rfl) (One.val rfl) w203 (by show (kk + 1) + j + 2 ≤ 11; omega) (by show (nn + 32) + 32 * j + 36 ≤ 264; omega) Ad1 Sd z1 hb1 hd1 (by simp; omega) (by rw [List.append_assoc]; exact hun)
          ·
            refine c_virtual w (y := (⟨"java/lang/StringBuilder", "append", "(C)Ljava/lang/StringBuilder;"⟩ : MethodName)) (C := "java/lang/StringBuilder") (a := sb) (argsL := [(.int (Int32.ofNat 10))]) (st := []) own_d16_98 (hw _ (List.mem_of_getElem? (i := 116) rfl)) (hw _ (List.mem_of_getElem? (i := 117) rfl)) (hw _ (List.mem_of_getElem? (i := 119) rfl)) (hw _ (List.mem_of_getElem? (i := 118) rfl)) (hw _ (List.mem_of_getElem? (i := 120) rfl)) (hw _ (List.mem_of_getElem? (i := 70) rfl)) (by decide) own_pd_pCqLjava_lang_StringBuildere rfl S.1 (own_sbAppw l Z a0 hw sb t ct outs 10 G1 hG SG SA SHi SLo G3 hG3 SF h n0 w.old (Nat.le_trans w.n0h0 zsb) (Nat.le_trans w.n0h0 zt) hbt S hex (by omega) (by omega)) rfl (by decide) (W := 0) (Nat.le_of_eq rfl) (by decide) (by show kk + 0 ≤ 11; omega) (by show nn + 0 ≤ 264; omega) (allS (Or.inr zsb) (allS (Or.inr zt) all0)) (pc' := 101) rfl ?_
            intro v205 T205 h205 w205 K205 q205
            obtain ⟨rfl, t', ct', zt', Sd⟩ := q205
            show Goes p e below _ T205 (mkF m 101 #[.val (.ref a), .val (.ref sb), .val (.int (1 : Int32)), .val (.ref d), .val (.int (Int32.ofNat cs.length)), .val (.int (Int32.ofNat i)), .val (.int (Int32.ofNat 110)), .val (.int (10 : Int32))] [(.ref sb)])
            have z1 : h0.size ≤ t' := zt'.elim (fun q => by rw [q]; exact zt) (fun q => Nat.le_trans w.le0 q)
            have hb1 : sb ≠ t' := zt'.elim (fun q => by rw [q]; exact hbt) (fun q => Nat.ne_of_lt (Nat.lt_of_lt_of_le S.lt q))
            have hd1 : d ≠ t' := zt'.elim (fun q => by rw [q]; exact hdt) (fun q => Nat.ne_of_lt (Nat.lt_of_lt_of_le Ad.lt q))
            have Ad1 := Ad.keep K205 (ninS hdb (ninS hdt nin0))
            refine i_pop w205 own_d16_101 rfl (pc' := 102) rfl ?_
            refine i_iconst w205 own_d16_102 (z := (0 : Int32)) (by decide) (pc' := 103) rfl ?_
            refine i_istoreN w205 own_d16_103 (l' := #[.val (.ref a), .val (.ref sb), .val (.int (0 : Int32)), .val (.ref d), .val (.int (Int32.ofNat cs.length)), .val (.int (Int32.ofNat i)), .val (.int (Int32.ofNat 110)), .val (.int (10 : Int32))]) rfl (pc' := 104) rfl ?_
            refine i_goto w205 own_d16_104 (pc' := 126) (by decide) ?_
            refine i_iinc w205 own_d16_126 rfl (z := (Int32.ofNat (i + 1))) (inc_nat i) (l' := #[.val (.ref a), .val (.ref sb), .val (.int (0 : Int32)), .val (.ref d), .val (.int (Int32.ofNat cs.length)), .val (.int (Int32.ofNat (i + 1))), .val (.int (Int32.ofNat 110)), .val (.int (10 : Int32))]) rfl (pc' := 129) rfl ?_
            refine i_goto w205 own_d16_129 (pc' := 22) (by decide) ?_
            rw [own_drop hci, own_un_m] at hun
            exact ih (i + 1) false _ (outs ++ [10]) t' ct' T205 h205 _ _ _ _ (by omega) (Or.inl ⟨rfl, rfl⟩) (One.val rfl) (One.val rfl) w205 (by show (kk + 0) + j + 2 ≤ 11; omega) (by show (nn + 0) + 32 * j + 36 ≤ 264; omega) Ad1 Sd z1 hb1 hd1 (by simp; omega) (by rw [List.append_assoc]; exact hun)
        ·
          by_cases e114 : ci = 114
          ·
            subst e114
            refine i_swHit w (key := Int32.ofNat 114) (a := 114) (off := 45) own_d16_41 (by decide) (by decide) (pc' := 86) (by decide) ?_
            refine i_bipush w own_d16_86 (z := (13 : Int32)) (by decide) (pc' := 88) rfl ?_
            refine i_goto w own_d16_88 (pc' := 93) (by decide) ?_
            refine i_istore w own_d16_93 (l' := #[.val (.ref a), .val (.ref sb), .val (.int (1 : Int32)), .val (.ref d), .val (.int (Int32.ofNat cs.length)), .val (.int (Int32.ofNat i)), .val (.int (Int32.ofNat 114)), .val (.int (13 : Int32))]) (XS.store1 rfl ho7 rfl) (pc' := 95) rfl ?_
            refine i_aloadN w own_d16_95 rfl rfl (pc' := 96) rfl ?_
            refine i_iload w own_d16_96 rfl (pc' := 98) rfl ?_
            rcases S with S | ⟨S, hex⟩
            show Goes p e below _ T (mkF m 98 #[.val (.ref a), .val (.ref sb), .val (.int (1 : Int32)), .val (.ref d), .val (.int (Int32.ofNat cs.length)), .val (.int (Int32.ofNat i)), .val (.int (Int32.ofNat 114)), .val (.int (13 : Int32))] [(.int (Int32.ofNat 13)), (.ref sb)])
            ·
              refine c_virtual w (y := (⟨"java/lang/StringBuilder", "append", "(C)Ljava/lang/StringBuilder;"⟩ : MethodName)) (C := "java/lang/StringBuilder") (a := sb) (argsL := [(.int (Int32.ofNat 13))]) (st := []) own_d16_98 (hw _ (List.mem_of_getElem? (i := 116) rfl)) (hw _ (List.mem_of_getElem? (i := 117) rfl)) (hw _ (List.mem_of_getElem? (i := 119) rfl)) (hw _ (List.mem_of_getElem? (i := 118) rfl)) (hw _ (List.mem_of_getElem? (i := 120) rfl)) (hw _ (List.mem_of_getElem? (i := 70) rfl)) (by decide) own_pd_pCqLjava_lang_StringBuildere rfl S.1 (own_sbAppn l Z a0 hw sb t ct outs 13 G1 hG SG SA SHi SLo G3 hG3 SF h n0 w.old (Nat.le_trans w.n0h0 zsb) (Nat.le_trans w.n0h0 zt) hbt S (by omega) (by omega)) rfl (by decide) (W := 0) (Nat.le_of_eq rfl) (by decide) (by show kk + 1 ≤ 11; omega) (by show nn + 32 ≤ 264; omega) (allS (Or.inr zsb) (allS (Or.inr zt) all0)) (pc' := 101) rfl ?_
              intro v207 T207 h207 w207 K207 q207
              obtain ⟨rfl, t', ct', zt', Sd⟩ := q207
              show Goes p e below _ T207 (mkF m 101 #[.val (.ref a), .val (.ref sb), .val (.int (1 : Int32)), .val (.ref d), .val (.int (Int32.ofNat cs.length)), .val (.int (Int32.ofNat i)), .val (.int (Int32.ofNat 114)), .val (.int (13 : Int32))] [(.ref sb)])
              have z1 : h0.size ≤ t' := zt'.elim (fun q => by rw [q]; exact zt) (fun q => Nat.le_trans w.le0 q)
              have hb1 : sb ≠ t' := zt'.elim (fun q => by rw [q]; exact hbt) (fun q => Nat.ne_of_lt (Nat.lt_of_lt_of_le S.lt q))
              have hd1 : d ≠ t' := zt'.elim (fun q => by rw [q]; exact hdt) (fun q => Nat.ne_of_lt (Nat.lt_of_lt_of_le Ad.lt q))
              have Ad1 := Ad.keep K207 (ninS hdb (ninS hdt nin0))
              refine i_pop w207 own_d16_101 rfl (pc' := 102) rfl ?_
              refine i_iconst w207 own_d16_102 (z := (0 : Int32)) (by decide) (pc' := 103) rfl ?_
              refine i_istoreN w207 own_d16_103 (l' := #[.val (.ref a), .val (.ref sb), .val (.int (0 : Int32)), .val (.ref d), .val (.int (Int32.ofNat cs.length)), .val (.int (Int32.ofNat i)), .val (.int (Int32.ofNat 114)), .val (.int (13 : Int32))]) rfl (pc' := 104) rfl ?_
              refine i_goto w207 own_d16_104 (pc' := 126) (by decide) ?_
              refine i_iinc w207 own_d16_126 rfl (z := (Int32.ofNat (i + 1))) (inc_nat i) (l' := #[.val (.ref a), .val (.ref sb), .val (.int (0 : Int32)), .val (.ref d), .val (.int (Int32.ofNat cs.length)), .val (.int (Int32.ofNat (i + 1))), .val (.int (Int32.ofNat 114)), .val (.int (13 : Int32))]) rfl (pc' := 129) rfl ?_
              refine i_goto w207 own_d16_129 (pc' := 22) (by decide) ?_
              rw [own_drop hci, own_un_m] at hun
              exact ih (i + 1) false _ (outs ++ [13]) t' ct' T207 h207 _ _ _ _ (by omega) (Or.inl ⟨rfl, rfl⟩) (One.val rfl) (One.val rfl) w207 (by show (kk + 1) + j + 2 ≤ 11; omega) (by show (nn + 32) + 32 * j + 36 ≤ 264; omega) Ad1 Sd z1 hb1 hd1 (by simp; omega) (by rw [List.append_assoc]; exact hun)
            ·
              refine c_virtual w (y := (⟨"java/lang/StringBuilder", "append", "(C)Ljava/lang/StringBuilder;"⟩ : MethodName)) (C := "java/lang/StringBuilder") (a := sb) (argsL := [(.int (Int32.ofNat 13))]) (st := []) own_d16_98 (hw _ (List.mem_of_getElem? (i := 116) rfl)) (hw _ (List.mem_of_getElem? (i := 117) rfl)) (hw _ (List.mem_of_getElem? (i := 119) rfl)) (hw _ (List.mem_of_getElem? (i := 118) rfl)) (hw _ (List.mem_of_getElem? (i := 120) rfl)) (hw _ (List.mem_of_getElem? (i := 70) rfl)) (by decide) own_pd_pCqLjava_lang_StringBuildere rfl S.1 (own_sbAppw l Z a0 hw sb t ct outs 13 G1 hG SG SA SHi SLo G3 hG3 SF h n0 w.old (Nat.le_trans w.n0h0 zsb) (Nat.le_trans w.n0h0 zt) hbt S hex (by omega) (by omega)) rfl (by decide) (W := 0) (Nat.le_of_eq rfl) (by decide) (by show kk + 0 ≤ 11; omega) (by show nn + 0 ≤ 264; omega) (allS (Or.inr zsb) (allS (Or.inr zt) all0)) (pc' := 101) rfl ?_
              intro v209 T209 h209 w209 K209 q209
              obtain ⟨rfl, t', ct', zt', Sd⟩ := q209
              show Goes p e below _ T209 (mkF m 101 #[.val (.ref a), .val (.ref sb), .val (.int (1 : Int32)), .val (.ref d), .val (.int (Int32.ofNat cs.length)), .val (.int (Int32.ofNat i)), .val (.int (Int32.ofNat 114)), .val (.int (13 : Int32))] [(.ref sb)])
              have z1 : h0.size ≤ t' := zt'.elim (fun q => by rw [q]; exact zt) (fun q => Nat.le_trans w.le0 q)
              have hb1 : sb ≠ t' := zt'.elim (fun q => by rw [q]; exact hbt) (fun q => Nat.ne_of_lt (Nat.lt_of_lt_of_le S.lt q))
              have hd1 : d ≠ t' := zt'.elim (fun q => by rw [q]; exact hdt) (fun q => Nat.ne_of_lt (Nat.lt_of_lt_of_le Ad.lt q))
              have Ad1 := Ad.keep K209 (ninS hdb (ninS hdt nin0))
              refine i_pop w209 own_d16_101 rfl (pc' := 102) rfl ?_
              refine i_iconst w209 own_d16_102 (z := (0 : Int32)) (by decide) (pc' := 103) rfl ?_
              refine i_istoreN w209 own_d16_103 (l' := #[.val (.ref a), .val (.ref sb), .val (.int (0 : Int32)), .val (.ref d), .val (.int (Int32.ofNat cs.length)), .val (.int (Int32.ofNat i)), .val (.int (Int32.ofNat 114)), .val (.int (13 : Int32))]) rfl (pc' := 104) rfl ?_
              refine i_goto w209 own_d16_104 (pc' := 126) (by decide) ?_
              refine i_iinc w209 own_d16_126 rfl (z := (Int32.ofNat (i + 1))) (inc_nat i) (l' := #[.val (.ref a), .val (.ref sb), .val (.int (0 : Int32)), .val (.ref d), .val (.int (Int32.ofNat cs.length)), .val (.int (Int32.ofNat (i + 1))), .val (.int (Int32.ofNat 114)), .val (.int (13 : Int32))]) rfl (pc' := 129) rfl ?_
              refine i_goto w209 own_d16_129 (pc' := 22) (by decide) ?_
              rw [own_drop hci, own_un_m] at hun
              exact ih (i + 1) false _ (outs ++ [13]) t' ct' T209 h209 _ _ _ _ (by omega) (Or.inl ⟨rfl, rfl⟩) (One.val rfl) (One.val rfl) w209 (by show (kk + 0) + j + 2 ≤ 11; omega) (by show (nn + 0) + 32 * j + 36 ≤ 264; omega) Ad1 Sd z1 hb1 hd1 (by simp; omega) (by rw [List.append_assoc]; exact hun)
          ·
            have hmm : own_mean ci = ci := by simp [own_mean, e116, e110, e114]
            refine i_swMiss w (key := Int32.ofNat ci) own_d16_41 (by decide) (by rw [toInt_small (by omega)]; simp; omega) (pc' := 91) (by decide) ?_
            refine i_iload w own_d16_91 rfl (pc' := 93) rfl ?_
            refine i_istore w own_d16_93 (l' := #[.val (.ref a), .val (.ref sb), .val (.int (1 : Int32)), .val (.ref d), .val (.int (Int32.ofNat cs.length)), .val (.int (Int32.ofNat i)), .val (.int (Int32.ofNat ci)), .val (.int (Int32.ofNat ci))]) (XS.store1 rfl ho7 rfl) (pc' := 95) rfl ?_
            refine i_aloadN w own_d16_95 rfl rfl (pc' := 96) rfl ?_
            refine i_iload w own_d16_96 rfl (pc' := 98) rfl ?_
            rcases S with S | ⟨S, hex⟩
            ·
              refine c_virtual w (y := (⟨"java/lang/StringBuilder", "append", "(C)Ljava/lang/StringBuilder;"⟩ : MethodName)) (C := "java/lang/StringBuilder") (a := sb) (argsL := [(.int (Int32.ofNat ci))]) (st := []) own_d16_98 (hw _ (List.mem_of_getElem? (i := 116) rfl)) (hw _ (List.mem_of_getElem? (i := 117) rfl)) (hw _ (List.mem_of_getElem? (i := 119) rfl)) (hw _ (List.mem_of_getElem? (i := 118) rfl)) (hw _ (List.mem_of_getElem? (i := 120) rfl)) (hw _ (List.mem_of_getElem? (i := 70) rfl)) (by decide) own_pd_pCqLjava_lang_StringBuildere rfl S.1 (own_sbAppn l Z a0 hw sb t ct outs ci G1 hG SG SA SHi SLo G3 hG3 SF h n0 w.old (Nat.le_trans w.n0h0 zsb) (Nat.le_trans w.n0h0 zt) hbt S (by omega) (by omega)) rfl (by decide) (W := 0) (Nat.le_of_eq rfl) (by decide) (by show kk + 1 ≤ 11; omega) (by show nn + 32 ≤ 264; omega) (allS (Or.inr zsb) (allS (Or.inr zt) all0)) (pc' := 101) rfl ?_
              intro v211 T211 h211 w211 K211 q211
              obtain ⟨rfl, t', ct', zt', Sd⟩ := q211
              show Goes p e below _ T211 (mkF m 101 #[.val (.ref a), .val (.ref sb), .val (.int (1 : Int32)), .val (.ref d), .val (.int (Int32.ofNat cs.length)), .val (.int (Int32.ofNat i)), .val (.int (Int32.ofNat ci)), .val (.int (Int32.ofNat ci))] [(.ref sb)])
              have z1 : h0.size ≤ t' := zt'.elim (fun q => by rw [q]; exact zt) (fun q => Nat.le_trans w.le0 q)
              have hb1 : sb ≠ t' := zt'.elim (fun q => by rw [q]; exact hbt) (fun q => Nat.ne_of_lt (Nat.lt_of_lt_of_le S.lt q))
              have hd1 : d ≠ t' := zt'.elim (fun q => by rw [q]; exact hdt) (fun q => Nat.ne_of_lt (Nat.lt_of_lt_of_le Ad.lt q))
              have Ad1 := Ad.keep K211 (ninS hdb (ninS hdt nin0))
              refine i_pop w211 own_d16_101 rfl (pc' := 102) rfl ?_
              refine i_iconst w211 own_d16_102 (z := (0 : Int32)) (by decide) (pc' := 103) rfl ?_
              refine i_istoreN w211 own_d16_103 (l' := #[.val (.ref a), .val (.ref sb), .val (.int (0 : Int32)), .val (.ref d), .val (.int (Int32.ofNat cs.length)), .val (.int (Int32.ofNat i)), .val (.int (Int32.ofNat ci)), .val (.int (Int32.ofNat ci))]) rfl (pc' := 104) rfl ?_
              refine i_goto w211 own_d16_104 (pc' := 126) (by decide) ?_
              refine i_iinc w211 own_d16_126 rfl (z := (Int32.ofNat (i + 1))) (inc_nat i) (l' := #[.val (.ref a), .val (.ref sb), .val (.int (0 : Int32)), .val (.ref d), .val (.int (Int32.ofNat cs.length)), .val (.int (Int32.ofNat (i + 1))), .val (.int (Int32.ofNat ci)), .val (.int (Int32.ofNat ci))]) rfl (pc' := 129) rfl ?_
              refine i_goto w211 own_d16_129 (pc' := 22) (by decide) ?_
              rw [own_drop hci, own_un_m, hmm] at hun
              exact ih (i + 1) false _ (outs ++ [ci]) t' ct' T211 h211 _ _ _ _ (by omega) (Or.inl ⟨rfl, rfl⟩) (One.val rfl) (One.val rfl) w211 (by show (kk + 1) + j + 2 ≤ 11; omega) (by show (nn + 32) + 32 * j + 36 ≤ 264; omega) Ad1 Sd z1 hb1 hd1 (by simp; omega) (by rw [List.append_assoc]; exact hun)
            ·
              refine c_virtual w (y := (⟨"java/lang/StringBuilder", "append", "(C)Ljava/lang/StringBuilder;"⟩ : MethodName)) (C := "java/lang/StringBuilder") (a := sb) (argsL := [(.int (Int32.ofNat ci))]) (st := []) own_d16_98 (hw _ (List.mem_of_getElem? (i := 116) rfl)) (hw _ (List.mem_of_getElem? (i := 117) rfl)) (hw _ (List.mem_of_getElem? (i := 119) rfl)) (hw _ (List.mem_of_getElem? (i := 118) rfl)) (hw _ (List.mem_of_getElem? (i := 120) rfl)) (hw _ (List.mem_of_getElem? (i := 70) rfl)) (by decide) own_pd_pCqLjava_lang_StringBuildere rfl S.1 (own_sbAppw l Z a0 hw sb t ct outs ci G1 hG SG SA SHi SLo G3 hG3 SF h n0 w.old (Nat.le_trans w.n0h0 zsb) (Nat.le_trans w.n0h0 zt) hbt S hex (by omega) (by omega)) rfl (by decide) (W := 0) (Nat.le_of_eq rfl) (by decide) (by show kk + 0 ≤ 11; omega) (by show nn + 0 ≤ 264; omega) (allS (Or.inr zsb) (allS (Or.inr zt) all0)) (pc' := 101) rfl ?_
              intro v213 T213 h213 w213 K213 q213
              obtain ⟨rfl, t', ct', zt', Sd⟩ := q213
              show Goes p e below _ T213 (mkF m 101 #[.val (.ref a), .val (.ref sb), .val (.int (1 : Int32)), .val (.ref d), .val (.int (Int32.ofNat cs.length)), .val (.int (Int32.ofNat i)), .val (.int (Int32.ofNat ci)), .val (.int (Int32.ofNat ci))] [(.ref sb)])
              have z1 : h0.size ≤ t' := zt'.elim (fun q => by rw [q]; exact zt) (fun q => Nat.le_trans w.le0 q)
              have hb1 : sb ≠ t' := zt'.elim (fun q => by rw [q]; exact hbt) (fun q => Nat.ne_of_lt (Nat.lt_of_lt_of_le S.lt q))
              have hd1 : d ≠ t' := zt'.elim (fun q => by rw [q]; exact hdt) (fun q => Nat.ne_of_lt (Nat.lt_of_lt_of_le Ad.lt q))
              have Ad1 := Ad.keep K213 (ninS hdb (ninS hdt nin0))
              refine i_pop w213 own_d16_101 rfl (pc' := 102) rfl ?_
              refine i_iconst w213 own_d16_102 (z := (0 : Int32)) (by decide) (pc' := 103) rfl ?_
              refine i_istoreN w213 own_d16_103 (l' := #[.val (.ref a), .val (.ref sb), .val (.int (0 : Int32)), .val (.ref d), .val (.int (Int32.ofNat cs.length)), .val (.int (Int32.ofNat i)), .val (.int (Int32.ofNat ci)), .val (.int (Int32.ofNat ci))]) rfl (pc' := 104) rfl ?_
              refine i_goto w213 own_d16_104 (pc' := 126) (by decide) ?_
              refine i_iinc w213 own_d16_126 rfl (z := (Int32.ofNat (i + 1))) (inc_nat i) (l' := #[.val (.ref a), .val (.ref sb), .val (.int (0 : Int32)), .val (.ref d), .val (.int (Int32.ofNat cs.length)), .val (.int (Int32.ofNat (i + 1))), .val (.int (Int32.ofNat ci)), .val (.int (Int32.ofNat ci))]) rfl (pc' := 129) rfl ?_
              refine i_goto w213 own_d16_129 (pc' := 22) (by decide) ?_
              rw [own_drop hci, own_un_m, hmm] at hun
              exact ih (i + 1) false _ (outs ++ [ci]) t' ct' T213 h213 _ _ _ _ (by omega) (Or.inl ⟨rfl, rfl⟩) (One.val rfl) (One.val rfl) w213 (by show (kk + 0) + j + 2 ≤ 11; omega) (by show (nn + 0) + 32 * j + 36 ≤ 264; omega) Ad1 Sd z1 hb1 hd1 (by simp; omega) (by rw [List.append_assoc]; exact hun)
theorem own_pd_pLjava_lang_StringeqLjava_lang_Stringe : parseMethodDescriptor "(Ljava/lang/String;)Ljava/lang/String;" = some ⟨[(.object "java/lang/String")], some (.object "java/lang/String")⟩ := by decide +kernel
theorem own_ef_own_d16 (m : MethodId) (x0 : Addr) : entryFrame m #[(.ref x0)] 8 = mkF m 0 #[.val (.ref x0), .unset, .unset, .unset, .unset, .unset, .unset, .unset] [] := by
  first | (simp [entryFrame, mkF, argsToLocals, Value.category]; done) | rfl
set_option maxRecDepth 65536 in
set_option maxHeartbeats 40000000 in
theorem own_unescape (l : Launch) (Z : State) (a0 : Array Value) (hw : ∀ d ∈ tables_1, d.before a0 Z = true) (a ta : Addr) (ca : ClassId) (cs : List Nat) (G1 : Int32) (hG : ¬ G1 = 0) (SG : Sta Z Z.heap "java/lang/String" "COMPACT_STRINGS" "Z" (.int G1)) (SA : Sta Z Z.heap "java/lang/StringUTF16" "$assertionsDisabled" "Z" (.int 1)) (SHi : Sta Z Z.heap "java/lang/StringUTF16" "HI_BYTE_SHIFT" "I" (.int 0)) (SLo : Sta Z Z.heap "java/lang/StringUTF16" "LO_BYTE_SHIFT" "I" (.int 8)) (G3 : Value) (hG3 : G3.isRef = true) (SF : Sta Z Z.heap "jdk/internal/util/Preconditions" "SIOOBE_FORMATTER" "Ljava/util/function/BiFunction;" G3) (h0 : Heap) (n0 : Nat) (O : Old Z n0 h0) (S : Str Z h0 a ta ca cs) (hn : cs.length ≤ 6) :
    Ctr l Z n0 (⟨"com/example/millwright/millwright/TestReport", "unescape", "(Ljava/lang/String;)Ljava/lang/String;"⟩ : MethodName) prog_18_method_12_code 8 (some (.object "java/lang/String")) [] ({ frames := 8, cells := 11, slots := 264, locals := 123 } : Room) #[(.ref a)] h0 [] (fun v h => ∃ x dx cx, v = some (.ref x) ∧ h0.size ≤ x ∧ Str Z h x dx cx (own_un false cs)) := by
  refine enter (plainFor_of_name own_pn_com_example_millwright_millwright_TestReport) (fun m => own_ef_own_d16 m a) O (fun _ q => nomatch q) ?_
  intro p e s m below meth c T w
  refine i_new w own_d16_0 (hw _ (List.mem_of_getElem? (i := 68) rfl)) (hw _ (List.mem_of_getElem? (i := 69) rfl)) (hw _ (List.mem_of_getElem? (i := 70) rfl)) (by decide) (by decide) (pc' := 3) rfl ?_
  intro sb T215 h215 g_sb w215 z_sb E215 A_sb D_sb
  show Goes p e below _ T215 (mkF m 3 #[.val (.ref a), .unset, .unset, .unset, .unset, .unset, .unset, .unset] [(.ref sb)])
  have lt_a_sb : a < sb := Nat.lt_of_lt_of_le S.lt (Nat.le_of_eq g_sb.symm)
  have lt_ta_sb : ta < sb := Nat.lt_of_lt_of_le S.ltT (Nat.le_of_eq g_sb.symm)
  have S_216 := S.ext E215
  have Bv : Fld Z h215 sb "java/lang/AbstractStringBuilder" "value" "[B" .null := D_sb (Or.inl (hw _ (List.mem_of_getElem? (i := 83) rfl))) (ty := .array .byte) (by decide)
  have Bc : Fld Z h215 sb "java/lang/AbstractStringBuilder" "coder" "B" (.int 0) := D_sb (Or.inl (hw _ (List.mem_of_getElem? (i := 85) rfl))) (ty := .byte) (by decide)
  have Bn : Fld Z h215 sb "java/lang/AbstractStringBuilder" "count" "I" (.int 0) := D_sb (Or.inl (hw _ (List.mem_of_getElem? (i := 127) rfl))) (ty := .int) (by decide)
  have Bm : Fld Z h215 sb "java/lang/AbstractStringBuilder" "maybeLatin1" "Z" (.int 0) := D_sb (Or.inl (hw _ (List.mem_of_getElem? (i := 193) rfl))) (ty := .boolean) (by decide)
  refine i_dup w215 own_d16_3 rfl (pc' := 4) rfl ?_
  refine c_special w215 (y := (⟨"java/lang/StringBuilder", "<init>", "()V"⟩ : MethodName)) (a := sb) (argsL := []) (st := [(.ref sb)]) own_d16_4 rfl (hw _ (List.mem_of_getElem? (i := 71) rfl)) (hw _ (List.mem_of_getElem? (i := 72) rfl)) (hw _ (List.mem_of_getElem? (i := 70) rfl)) (hw _ (List.mem_of_getElem? (i := 73) rfl)) (by decide) own_pd_pqV rfl (own_sbInit l Z a0 hw sb G1 hG SG h215 n0 w215.old (Nat.le_trans w215.n0h0 z_sb) A_sb Bv Bc Bn Bm) rfl (by decide) (W := 1) (Nat.le_of_eq rfl) (by decide) (by decide) (by decide) (allS (Or.inr z_sb) all0) (pc' := 7) rfl ?_
  intro v217 T217 h217 w217 K217 q217
  obtain ⟨rfl, t, ct, zt, Sd⟩ := q217
  show Goes p e below _ T217 (mkF m 7 #[.val (.ref a), .unset, .unset, .unset, .unset, .unset, .unset, .unset] [(.ref sb)])
  have lt_a_t : a < t := Nat.lt_of_lt_of_le S_216.lt zt
  have lt_ta_t : ta < t := Nat.lt_of_lt_of_le S_216.ltT zt
  have S_218 := S_216.keep K217 (ninS (Nat.ne_of_lt lt_a_sb) nin0) (ninS (Nat.ne_of_lt lt_ta_sb) nin0)
  have zt0 : h0.size ≤ t := Nat.le_trans w215.le0 zt
  have lsbt : sb < t := Nat.lt_of_lt_of_le A_sb.lt zt
  refine i_astoreN w217 own_d16_7 rfl (l' := #[.val (.ref a), .val (.ref sb), .unset, .unset, .unset, .unset, .unset, .unset]) rfl (pc' := 8) rfl ?_
  refine i_iconst w217 own_d16_8 (z := (0 : Int32)) (by decide) (pc' := 9) rfl ?_
  refine i_istoreN w217 own_d16_9 (l' := #[.val (.ref a), .val (.ref sb), .val (.int (0 : Int32)), .unset, .unset, .unset, .unset, .unset]) rfl (pc' := 10) rfl ?_
  refine i_aloadN w217 own_d16_10 rfl rfl (pc' := 11) rfl ?_
  refine c_virtual w217 (y := (⟨"java/lang/String", "toCharArray", "()[C"⟩ : MethodName)) (C := "java/lang/String") (a := a) (argsL := []) (st := []) own_d16_11 (hw _ (List.mem_of_getElem? (i := 86) rfl)) (hw _ (List.mem_of_getElem? (i := 87) rfl)) (hw _ (List.mem_of_getElem? (i := 89) rfl)) (hw _ (List.mem_of_getElem? (i := 88) rfl)) (hw _ (List.mem_of_getElem? (i := 90) rfl)) (hw _ (List.mem_of_getElem? (i := 18) rfl)) (by decide) own_pd_pqAC rfl S_218.exa (own_toCh l Z a0 hw a ta ca cs G1 hG SG SA SHi SLo G3 hG3 SF h217 n0 w217.old S_218 (by omega)) rfl (by decide) (W := 0) (Nat.le_of_eq rfl) (by decide) (by decide) (by decide) (fun _ q => nomatch q) (pc' := 14) rfl ?_
  intro v219 T219 h219 w219 K219 q219
  obtain ⟨d, cd, rfl, zd, Ad⟩ := q219
  show Goes p e below _ T219 (mkF m 14 #[.val (.ref a), .val (.ref sb), .val (.int (0 : Int32)), .unset, .unset, .unset, .unset, .unset] [(.ref d)])
  have lt_a_d : a < d := Nat.lt_of_lt_of_le S_218.lt zd
  have lt_ta_d : ta < d := Nat.lt_of_lt_of_le S_218.ltT zd
  have lt_sb_d : sb < d := Nat.lt_of_lt_of_le Sd.lt zd
  have lt_t_d : t < d := Nat.lt_of_lt_of_le Sd.ltT zd
  have S_220 := S_218.keep K219 nin0 nin0
  have Sd_220 := Sd.keep K219 nin0 nin0
  refine i_astoreN w219 own_d16_14 rfl (l' := #[.val (.ref a), .val (.ref sb), .val (.int (0 : Int32)), .val (.ref d), .unset, .unset, .unset, .unset]) rfl (pc' := 15) rfl ?_
  refine i_aloadN w219 own_d16_15 rfl rfl (pc' := 16) rfl ?_
  refine i_len w219 own_d16_16 Ad (z := Int32.ofNat cs.length) (by rw [chs_len]) (pc' := 17) rfl ?_
  refine i_istore w219 own_d16_17 (l' := #[.val (.ref a), .val (.ref sb), .val (.int (0 : Int32)), .val (.ref d), .val (.int (Int32.ofNat cs.length)), .unset, .unset, .unset]) rfl (pc' := 19) rfl ?_
  refine i_iconst w219 own_d16_19 (z := (0 : Int32)) (by decide) (pc' := 20) rfl ?_
  refine i_istore w219 own_d16_20 (l' := #[.val (.ref a), .val (.ref sb), .val (.int (0 : Int32)), .val (.ref d), .val (.int (Int32.ofNat cs.length)), .val (.int (0 : Int32)), .unset, .unset]) rfl (pc' := 22) rfl ?_
  exact own_un_loop l Z a0 hw a sb d cd cs G1 hG SG SA SHi SLo G3 hG3 SF S.c16 hn h0 n0 z_sb (Ne.symm (Nat.ne_of_lt lt_sb_d)) cs.length 0 false 0 [] t ct T219 h219 _ _ .unset .unset (by omega) (Or.inl ⟨rfl, rfl⟩) One.u One.u w219 (by show 3 + _ + _ ≤ _; omega) (by show 36 + _ + _ ≤ _; omega) Ad (Or.inl Sd_220) zt0 (Nat.ne_of_lt lsbt) (Ne.symm (Nat.ne_of_lt lt_t_d)) (Nat.zero_le _) rfl
theorem own_d4_0 : decode method_5_code 0 = .ok (.iload_n 0, 1) := by decide +kernel
theorem own_d4_1 : decode method_5_code 1 = .ok (.bipush 92, 2) := by decide +kernel
theorem own_d4_3 : decode method_5_code 3 = .ok (.if_icmp .ne 6, 3) := by decide +kernel
theorem own_d4_6 : decode method_5_code 6 = .ok (.bipush 47, 2) := by decide +kernel
theorem own_d4_8 : decode method_5_code 8 = .ok (.ireturn, 1) := by decide +kernel
theorem own_d4_9 : decode method_5_code 9 = .ok (.iload_n 0, 1) := by decide +kernel
theorem own_d4_10 : decode method_5_code 10 = .ok (.ireturn, 1) := by decide +kernel
theorem own_pn_com_example_millwright_millwright_TestReportUnescapePinLaw : plainName "com/example/millwright/millwright/TestReportUnescapePinLaw" = true := by first | (simp [plainName, overriddenIn]; done) | decide +kernel
theorem own_pd_pCqC : parseMethodDescriptor "(C)C" = some ⟨[.char], some .char⟩ := by decide +kernel
theorem own_ef_own_d4 (m : MethodId) (x0 : Int32) : entryFrame m #[(.int x0)] 1 = mkF m 0 #[.val (.int x0)] [] := by
  first | (simp [entryFrame, mkF, argsToLocals, Value.category]; done) | rfl
set_option maxRecDepth 65536 in
set_option maxHeartbeats 40000000 in
theorem own_plain (l : Launch) (Z : State) (a0 : Array Value) (hw : ∀ d ∈ tables_1, d.before a0 Z = true) (k : Nat) (h0 : Heap) (n0 : Nat) (O : Old Z n0 h0) (hk : k < 65536) :
    Ctr l Z n0 (⟨"com/example/millwright/millwright/TestReportUnescapePinLaw", "plain", "(C)C"⟩ : MethodName) method_5_code 1 (some .char) [] ({ frames := 0, cells := 0, slots := 0, locals := 0 } : Room) #[(.int (Int32.ofNat k))] h0 [] (fun v h => ∃ q, q < 65536 ∧ ¬ q = 92 ∧ v = some (.int (Int32.ofNat q)) ∧ h0 = h) := by
  refine enter (plainFor_of_name own_pn_com_example_millwright_millwright_TestReportUnescapePinLaw) (fun m => own_ef_own_d4 m (Int32.ofNat k)) O (fun _ q => nomatch q) ?_
  intro p e s m below meth c T w
  refine i_iloadN w own_d4_0 rfl (pc' := 1) rfl ?_
  refine i_bipush w own_d4_1 (z := (92 : Int32)) (by decide) (pc' := 3) rfl ?_
  refine i_icmp_ne w own_d4_3 (pcY := 9) (by decide) (pc' := 6) rfl (fun hc3 => ?_) (fun hc3 => ?_)
  ·
    refine i_iloadN w own_d4_9 rfl (pc' := 10) rfl ?_
    exact i_retN w own_d4_10 rfl (by simp) ⟨k, hk, fun q => hc3 (by rw [q]; rfl), by rw [char_of_nat hk], rfl⟩ (by decide) (by decide)
  ·
    refine i_bipush w own_d4_6 (z := (47 : Int32)) (by decide) (pc' := 8) rfl ?_
    exact i_retN w own_d4_8 rfl (by simp) ⟨47, by decide, by decide, rfl, rfl⟩ (by decide) (by decide)
theorem own_d2_0 : decode method_6_code 0 = .ok (.iload_n 0, 1) := by decide +kernel
theorem own_d2_1 : decode method_6_code 1 = .ok (.ifCond .ne 6, 3) := by decide +kernel
theorem own_d2_4 : decode method_6_code 4 = .ok (.bipush 116, 2) := by decide +kernel
theorem own_d2_6 : decode method_6_code 6 = .ok (.ireturn, 1) := by decide +kernel
theorem own_d2_7 : decode method_6_code 7 = .ok (.iload_n 0, 1) := by decide +kernel
theorem own_d2_8 : decode method_6_code 8 = .ok (.iconst 1, 1) := by decide +kernel
theorem own_d2_9 : decode method_6_code 9 = .ok (.if_icmp .ne 6, 3) := by decide +kernel
theorem own_d2_12 : decode method_6_code 12 = .ok (.bipush 110, 2) := by decide +kernel
theorem own_d2_14 : decode method_6_code 14 = .ok (.ireturn, 1) := by decide +kernel
theorem own_d2_15 : decode method_6_code 15 = .ok (.iload_n 0, 1) := by decide +kernel
theorem own_d2_16 : decode method_6_code 16 = .ok (.iconst 2, 1) := by decide +kernel
theorem own_d2_17 : decode method_6_code 17 = .ok (.if_icmp .ne 6, 3) := by decide +kernel
theorem own_d2_20 : decode method_6_code 20 = .ok (.bipush 114, 2) := by decide +kernel
theorem own_d2_22 : decode method_6_code 22 = .ok (.ireturn, 1) := by decide +kernel
theorem own_d2_23 : decode method_6_code 23 = .ok (.iload_n 0, 1) := by decide +kernel
theorem own_d2_24 : decode method_6_code 24 = .ok (.iconst 3, 1) := by decide +kernel
theorem own_d2_25 : decode method_6_code 25 = .ok (.if_icmp .ne 6, 3) := by decide +kernel
theorem own_d2_28 : decode method_6_code 28 = .ok (.bipush 9, 2) := by decide +kernel
theorem own_d2_30 : decode method_6_code 30 = .ok (.ireturn, 1) := by decide +kernel
theorem own_d2_31 : decode method_6_code 31 = .ok (.iload_n 0, 1) := by decide +kernel
theorem own_d2_32 : decode method_6_code 32 = .ok (.iconst 4, 1) := by decide +kernel
theorem own_d2_33 : decode method_6_code 33 = .ok (.if_icmp .ne 6, 3) := by decide +kernel
theorem own_d2_36 : decode method_6_code 36 = .ok (.bipush 10, 2) := by decide +kernel
theorem own_d2_38 : decode method_6_code 38 = .ok (.ireturn, 1) := by decide +kernel
theorem own_d2_39 : decode method_6_code 39 = .ok (.iload_n 0, 1) := by decide +kernel
theorem own_d2_40 : decode method_6_code 40 = .ok (.iconst 5, 1) := by decide +kernel
theorem own_d2_41 : decode method_6_code 41 = .ok (.if_icmp .ne 6, 3) := by decide +kernel
theorem own_d2_44 : decode method_6_code 44 = .ok (.bipush 13, 2) := by decide +kernel
theorem own_d2_46 : decode method_6_code 46 = .ok (.ireturn, 1) := by decide +kernel
theorem own_d2_47 : decode method_6_code 47 = .ok (.iload_n 0, 1) := by decide +kernel
theorem own_d2_48 : decode method_6_code 48 = .ok (.bipush 6, 2) := by decide +kernel
theorem own_d2_50 : decode method_6_code 50 = .ok (.if_icmp .ne 6, 3) := by decide +kernel
theorem own_d2_53 : decode method_6_code 53 = .ok (.bipush 97, 2) := by decide +kernel
theorem own_d2_55 : decode method_6_code 55 = .ok (.ireturn, 1) := by decide +kernel
theorem own_d2_56 : decode method_6_code 56 = .ok (.bipush 47, 2) := by decide +kernel
theorem own_d2_58 : decode method_6_code 58 = .ok (.ireturn, 1) := by decide +kernel
theorem own_ef_own_d2 (m : MethodId) (x0 : Int32) : entryFrame m #[(.int x0)] 1 = mkF m 0 #[.val (.int x0)] [] := by
  first | (simp [entryFrame, mkF, argsToLocals, Value.category]; done) | rfl
set_option maxRecDepth 65536 in
set_option maxHeartbeats 40000000 in
theorem own_letter (l : Launch) (Z : State) (a0 : Array Value) (hw : ∀ d ∈ tables_1, d.before a0 Z = true) (k : Int32) (h0 : Heap) (n0 : Nat) (O : Old Z n0 h0)  :
    Ctr l Z n0 (⟨"com/example/millwright/millwright/TestReportUnescapePinLaw", "letter", "(I)C"⟩ : MethodName) method_6_code 1 (some .char) [] ({ frames := 0, cells := 0, slots := 0, locals := 0 } : Room) #[(.int k)] h0 [] (fun v h => ∃ q, q < 65536 ∧ ¬ q = 92 ∧ v = some (.int (Int32.ofNat q)) ∧ h0 = h) := by
  refine enter (plainFor_of_name own_pn_com_example_millwright_millwright_TestReportUnescapePinLaw) (fun m => own_ef_own_d2 m k) O (fun _ q => nomatch q) ?_
  intro p e s m below meth c T w
  refine i_iloadN w own_d2_0 rfl (pc' := 1) rfl ?_
  refine i_if_ne w own_d2_1 (pcY := 7) (by decide) (pc' := 4) rfl (fun hc1 => ?_) (fun hc1 => ?_)
  ·
    refine i_iloadN w own_d2_7 rfl (pc' := 8) rfl ?_
    refine i_iconst w own_d2_8 (z := (1 : Int32)) (by decide) (pc' := 9) rfl ?_
    refine i_icmp_ne w own_d2_9 (pcY := 15) (by decide) (pc' := 12) rfl (fun hc9 => ?_) (fun hc9 => ?_)
    ·
      refine i_iloadN w own_d2_15 rfl (pc' := 16) rfl ?_
      refine i_iconst w own_d2_16 (z := (2 : Int32)) (by decide) (pc' := 17) rfl ?_
      refine i_icmp_ne w own_d2_17 (pcY := 23) (by decide) (pc' := 20) rfl (fun hc17 => ?_) (fun hc17 => ?_)
      ·
        refine i_iloadN w own_d2_23 rfl (pc' := 24) rfl ?_
        refine i_iconst w own_d2_24 (z := (3 : Int32)) (by decide) (pc' := 25) rfl ?_
        refine i_icmp_ne w own_d2_25 (pcY := 31) (by decide) (pc' := 28) rfl (fun hc25 => ?_) (fun hc25 => ?_)
        ·
          refine i_iloadN w own_d2_31 rfl (pc' := 32) rfl ?_
          refine i_iconst w own_d2_32 (z := (4 : Int32)) (by decide) (pc' := 33) rfl ?_
          refine i_icmp_ne w own_d2_33 (pcY := 39) (by decide) (pc' := 36) rfl (fun hc33 => ?_) (fun hc33 => ?_)
          ·
            refine i_iloadN w own_d2_39 rfl (pc' := 40) rfl ?_
            refine i_iconst w own_d2_40 (z := (5 : Int32)) (by decide) (pc' := 41) rfl ?_
            refine i_icmp_ne w own_d2_41 (pcY := 47) (by decide) (pc' := 44) rfl (fun hc41 => ?_) (fun hc41 => ?_)
            ·
              refine i_iloadN w own_d2_47 rfl (pc' := 48) rfl ?_
              refine i_bipush w own_d2_48 (z := (6 : Int32)) (by decide) (pc' := 50) rfl ?_
              refine i_icmp_ne w own_d2_50 (pcY := 56) (by decide) (pc' := 53) rfl (fun hc50 => ?_) (fun hc50 => ?_)
              ·
                refine i_bipush w own_d2_56 (z := (47 : Int32)) (by decide) (pc' := 58) rfl ?_
                exact i_retN w own_d2_58 rfl (by simp) ⟨47, by decide, by decide, rfl, rfl⟩ (by decide) (by decide)
              ·
                refine i_bipush w own_d2_53 (z := (97 : Int32)) (by decide) (pc' := 55) rfl ?_
                exact i_retN w own_d2_55 rfl (by simp) ⟨97, by decide, by decide, rfl, rfl⟩ (by decide) (by decide)
            ·
              refine i_bipush w own_d2_44 (z := (13 : Int32)) (by decide) (pc' := 46) rfl ?_
              exact i_retN w own_d2_46 rfl (by simp) ⟨13, by decide, by decide, rfl, rfl⟩ (by decide) (by decide)
          ·
            refine i_bipush w own_d2_36 (z := (10 : Int32)) (by decide) (pc' := 38) rfl ?_
            exact i_retN w own_d2_38 rfl (by simp) ⟨10, by decide, by decide, rfl, rfl⟩ (by decide) (by decide)
        ·
          refine i_bipush w own_d2_28 (z := (9 : Int32)) (by decide) (pc' := 30) rfl ?_
          exact i_retN w own_d2_30 rfl (by simp) ⟨9, by decide, by decide, rfl, rfl⟩ (by decide) (by decide)
      ·
        refine i_bipush w own_d2_20 (z := (114 : Int32)) (by decide) (pc' := 22) rfl ?_
        exact i_retN w own_d2_22 rfl (by simp) ⟨114, by decide, by decide, rfl, rfl⟩ (by decide) (by decide)
    ·
      refine i_bipush w own_d2_12 (z := (110 : Int32)) (by decide) (pc' := 14) rfl ?_
      exact i_retN w own_d2_14 rfl (by simp) ⟨110, by decide, by decide, rfl, rfl⟩ (by decide) (by decide)
  ·
    refine i_bipush w own_d2_4 (z := (116 : Int32)) (by decide) (pc' := 6) rfl ?_
    exact i_retN w own_d2_6 rfl (by simp) ⟨116, by decide, by decide, rfl, rfl⟩ (by decide) (by decide)
theorem own_d57_0 : decode method_7_code 0 = .ok (.iload_n 0, 1) := by decide +kernel
theorem own_d57_1 : decode method_7_code 1 = .ok (.ifCond .ne 6, 3) := by decide +kernel
theorem own_d57_4 : decode method_7_code 4 = .ok (.bipush 116, 2) := by decide +kernel
theorem own_d57_6 : decode method_7_code 6 = .ok (.ireturn, 1) := by decide +kernel
theorem own_d57_7 : decode method_7_code 7 = .ok (.iload_n 0, 1) := by decide +kernel
theorem own_d57_8 : decode method_7_code 8 = .ok (.iconst 1, 1) := by decide +kernel
theorem own_d57_9 : decode method_7_code 9 = .ok (.if_icmp .ne 6, 3) := by decide +kernel
theorem own_d57_12 : decode method_7_code 12 = .ok (.bipush 110, 2) := by decide +kernel
theorem own_d57_14 : decode method_7_code 14 = .ok (.ireturn, 1) := by decide +kernel
theorem own_d57_15 : decode method_7_code 15 = .ok (.iload_n 0, 1) := by decide +kernel
theorem own_d57_16 : decode method_7_code 16 = .ok (.iconst 2, 1) := by decide +kernel
theorem own_d57_17 : decode method_7_code 17 = .ok (.if_icmp .ne 6, 3) := by decide +kernel
theorem own_d57_20 : decode method_7_code 20 = .ok (.bipush 114, 2) := by decide +kernel
theorem own_d57_22 : decode method_7_code 22 = .ok (.ireturn, 1) := by decide +kernel
theorem own_d57_23 : decode method_7_code 23 = .ok (.bipush 92, 2) := by decide +kernel
theorem own_d57_25 : decode method_7_code 25 = .ok (.ireturn, 1) := by decide +kernel
theorem own_ef_own_d57 (m : MethodId) (x0 : Int32) : entryFrame m #[(.int x0)] 1 = mkF m 0 #[.val (.int x0)] [] := by
  first | (simp [entryFrame, mkF, argsToLocals, Value.category]; done) | rfl
set_option maxRecDepth 65536 in
set_option maxHeartbeats 40000000 in
theorem own_special (l : Launch) (Z : State) (a0 : Array Value) (hw : ∀ d ∈ tables_1, d.before a0 Z = true) (k : Int32) (h0 : Heap) (n0 : Nat) (O : Old Z n0 h0)  :
    Ctr l Z n0 (⟨"com/example/millwright/millwright/TestReportUnescapePinLaw", "special", "(I)C"⟩ : MethodName) method_7_code 1 (some .char) [] ({ frames := 0, cells := 0, slots := 0, locals := 0 } : Room) #[(.int k)] h0 [] (fun v h => ∃ q, q < 65536 ∧ v = some (.int (Int32.ofNat q)) ∧ h0 = h) := by
  refine enter (plainFor_of_name own_pn_com_example_millwright_millwright_TestReportUnescapePinLaw) (fun m => own_ef_own_d57 m k) O (fun _ q => nomatch q) ?_
  intro p e s m below meth c T w
  refine i_iloadN w own_d57_0 rfl (pc' := 1) rfl ?_
  refine i_if_ne w own_d57_1 (pcY := 7) (by decide) (pc' := 4) rfl (fun hc1 => ?_) (fun hc1 => ?_)
  ·
    refine i_iloadN w own_d57_7 rfl (pc' := 8) rfl ?_
    refine i_iconst w own_d57_8 (z := (1 : Int32)) (by decide) (pc' := 9) rfl ?_
    refine i_icmp_ne w own_d57_9 (pcY := 15) (by decide) (pc' := 12) rfl (fun hc9 => ?_) (fun hc9 => ?_)
    ·
      refine i_iloadN w own_d57_15 rfl (pc' := 16) rfl ?_
      refine i_iconst w own_d57_16 (z := (2 : Int32)) (by decide) (pc' := 17) rfl ?_
      refine i_icmp_ne w own_d57_17 (pcY := 23) (by decide) (pc' := 20) rfl (fun hc17 => ?_) (fun hc17 => ?_)
      ·
        refine i_bipush w own_d57_23 (z := (92 : Int32)) (by decide) (pc' := 25) rfl ?_
        exact i_retN w own_d57_25 rfl (by simp) ⟨92, by decide, rfl, rfl⟩ (by decide) (by decide)
      ·
        refine i_bipush w own_d57_20 (z := (114 : Int32)) (by decide) (pc' := 22) rfl ?_
        exact i_retN w own_d57_22 rfl (by simp) ⟨114, by decide, rfl, rfl⟩ (by decide) (by decide)
    ·
      refine i_bipush w own_d57_12 (z := (110 : Int32)) (by decide) (pc' := 14) rfl ?_
      exact i_retN w own_d57_14 rfl (by simp) ⟨110, by decide, rfl, rfl⟩ (by decide) (by decide)
  ·
    refine i_bipush w own_d57_4 (z := (116 : Int32)) (by decide) (pc' := 6) rfl ?_
    exact i_retN w own_d57_6 rfl (by simp) ⟨116, by decide, rfl, rfl⟩ (by decide) (by decide)
theorem own_d3_0 : decode method_8_code 0 = .ok (.iload_n 0, 1) := by decide +kernel
theorem own_d3_1 : decode method_8_code 1 = .ok (.bipush 116, 2) := by decide +kernel
theorem own_d3_3 : decode method_8_code 3 = .ok (.if_icmp .ne 6, 3) := by decide +kernel
theorem own_d3_6 : decode method_8_code 6 = .ok (.bipush 9, 2) := by decide +kernel
theorem own_d3_8 : decode method_8_code 8 = .ok (.ireturn, 1) := by decide +kernel
theorem own_d3_9 : decode method_8_code 9 = .ok (.iload_n 0, 1) := by decide +kernel
theorem own_d3_10 : decode method_8_code 10 = .ok (.bipush 110, 2) := by decide +kernel
theorem own_d3_12 : decode method_8_code 12 = .ok (.if_icmp .ne 6, 3) := by decide +kernel
theorem own_d3_15 : decode method_8_code 15 = .ok (.bipush 10, 2) := by decide +kernel
theorem own_d3_17 : decode method_8_code 17 = .ok (.ireturn, 1) := by decide +kernel
theorem own_d3_18 : decode method_8_code 18 = .ok (.iload_n 0, 1) := by decide +kernel
theorem own_d3_19 : decode method_8_code 19 = .ok (.bipush 114, 2) := by decide +kernel
theorem own_d3_21 : decode method_8_code 21 = .ok (.if_icmp .ne 6, 3) := by decide +kernel
theorem own_d3_24 : decode method_8_code 24 = .ok (.bipush 13, 2) := by decide +kernel
theorem own_d3_26 : decode method_8_code 26 = .ok (.ireturn, 1) := by decide +kernel
theorem own_d3_27 : decode method_8_code 27 = .ok (.iload_n 0, 1) := by decide +kernel
theorem own_d3_28 : decode method_8_code 28 = .ok (.ireturn, 1) := by decide +kernel
theorem own_ef_own_d3 (m : MethodId) (x0 : Int32) : entryFrame m #[(.int x0)] 1 = mkF m 0 #[.val (.int x0)] [] := by
  first | (simp [entryFrame, mkF, argsToLocals, Value.category]; done) | rfl
set_option maxRecDepth 65536 in
set_option maxHeartbeats 40000000 in
theorem own_meaning (l : Launch) (Z : State) (a0 : Array Value) (hw : ∀ d ∈ tables_1, d.before a0 Z = true) (k : Nat) (h0 : Heap) (n0 : Nat) (O : Old Z n0 h0) (hk : k < 65536) :
    Ctr l Z n0 (⟨"com/example/millwright/millwright/TestReportUnescapePinLaw", "meaning", "(C)C"⟩ : MethodName) method_8_code 1 (some .char) [] ({ frames := 0, cells := 0, slots := 0, locals := 0 } : Room) #[(.int (Int32.ofNat k))] h0 [] (fun v h => v = some (.int (Int32.ofNat (own_mean k))) ∧ h0 = h) := by
  refine enter (plainFor_of_name own_pn_com_example_millwright_millwright_TestReportUnescapePinLaw) (fun m => own_ef_own_d3 m (Int32.ofNat k)) O (fun _ q => nomatch q) ?_
  intro p e s m below meth c T w
  refine i_iloadN w own_d3_0 rfl (pc' := 1) rfl ?_
  refine i_bipush w own_d3_1 (z := (116 : Int32)) (by decide) (pc' := 3) rfl ?_
  refine i_icmp_ne w own_d3_3 (pcY := 9) (by decide) (pc' := 6) rfl (fun hc3 => ?_) (fun hc3 => ?_)
  ·
    refine i_iloadN w own_d3_9 rfl (pc' := 10) rfl ?_
    refine i_bipush w own_d3_10 (z := (110 : Int32)) (by decide) (pc' := 12) rfl ?_
    refine i_icmp_ne w own_d3_12 (pcY := 18) (by decide) (pc' := 15) rfl (fun hc12 => ?_) (fun hc12 => ?_)
    ·
      refine i_iloadN w own_d3_18 rfl (pc' := 19) rfl ?_
      refine i_bipush w own_d3_19 (z := (114 : Int32)) (by decide) (pc' := 21) rfl ?_
      refine i_icmp_ne w own_d3_21 (pcY := 27) (by decide) (pc' := 24) rfl (fun hc21 => ?_) (fun hc21 => ?_)
      ·
        refine i_iloadN w own_d3_27 rfl (pc' := 28) rfl ?_
        exact i_retN w own_d3_28 rfl (by simp) ⟨by rw [own_mean, if_neg (fun q => hc3 (by rw [q]; rfl)), if_neg (fun q => hc12 (by rw [q]; rfl)), if_neg (fun q => hc21 (by rw [q]; rfl))]; rw [char_of_nat hk], rfl⟩ (by decide) (by decide)
      ·
        refine i_bipush w own_d3_24 (z := (13 : Int32)) (by decide) (pc' := 26) rfl ?_
        exact i_retN w own_d3_26 rfl (by simp) ⟨by rw [own_mean, if_neg (fun q => hc3 (by rw [q]; rfl)), if_neg (fun q => hc12 (by rw [q]; rfl)), if_pos ((eq_nat (by omega) (by omega)).mp (hc21.trans (show (114 : Int32) = Int32.ofNat 114 from rfl)))]; rfl, rfl⟩ (by decide) (by decide)
    ·
      refine i_bipush w own_d3_15 (z := (10 : Int32)) (by decide) (pc' := 17) rfl ?_
      exact i_retN w own_d3_17 rfl (by simp) ⟨by rw [own_mean, if_neg (fun q => hc3 (by rw [q]; rfl)), if_pos ((eq_nat (by omega) (by omega)).mp (hc12.trans (show (110 : Int32) = Int32.ofNat 110 from rfl)))]; rfl, rfl⟩ (by decide) (by decide)
  ·
    refine i_bipush w own_d3_6 (z := (9 : Int32)) (by decide) (pc' := 8) rfl ?_
    exact i_retN w own_d3_8 rfl (by simp) ⟨by rw [own_mean, if_pos ((eq_nat (by omega) (by omega)).mp (hc3.trans (show (116 : Int32) = Int32.ofNat 116 from rfl)))]; rfl, rfl⟩ (by decide) (by decide)
theorem own_d1_0 : decode method_4_code 0 = .ok (.lload_n 0, 1) := by decide +kernel
theorem own_d1_1 : decode method_4_code 1 = .ok (.ldc2_w 48, 3) := by decide +kernel
theorem own_d1_4 : decode method_4_code 4 = .ok (.land, 1) := by decide +kernel
theorem own_d1_5 : decode method_4_code 5 = .ok (.l2i, 1) := by decide +kernel
theorem own_d1_6 : decode method_4_code 6 = .ok (.istore 6, 2) := by decide +kernel
theorem own_d1_8 : decode method_4_code 8 = .ok (.lload_n 0, 1) := by decide +kernel
theorem own_d1_9 : decode method_4_code 9 = .ok (.iconst 2, 1) := by decide +kernel
theorem own_d1_10 : decode method_4_code 10 = .ok (.lushr, 1) := by decide +kernel
theorem own_d1_11 : decode method_4_code 11 = .ok (.ldc2_w 13, 3) := by decide +kernel
theorem own_d1_14 : decode method_4_code 14 = .ok (.land, 1) := by decide +kernel
theorem own_d1_15 : decode method_4_code 15 = .ok (.l2i, 1) := by decide +kernel
theorem own_d1_16 : decode method_4_code 16 = .ok (.i2c, 1) := by decide +kernel
theorem own_d1_17 : decode method_4_code 17 = .ok (.istore 7, 2) := by decide +kernel
theorem own_d1_19 : decode method_4_code 19 = .ok (.lload_n 0, 1) := by decide +kernel
theorem own_d1_20 : decode method_4_code 20 = .ok (.bipush 18, 2) := by decide +kernel
theorem own_d1_22 : decode method_4_code 22 = .ok (.lushr, 1) := by decide +kernel
theorem own_d1_23 : decode method_4_code 23 = .ok (.ldc2_w 13, 3) := by decide +kernel
theorem own_d1_26 : decode method_4_code 26 = .ok (.land, 1) := by decide +kernel
theorem own_d1_27 : decode method_4_code 27 = .ok (.l2i, 1) := by decide +kernel
theorem own_d1_28 : decode method_4_code 28 = .ok (.i2c, 1) := by decide +kernel
theorem own_d1_29 : decode method_4_code 29 = .ok (.istore 8, 2) := by decide +kernel
theorem own_d1_31 : decode method_4_code 31 = .ok (.iload 6, 2) := by decide +kernel
theorem own_d1_33 : decode method_4_code 33 = .ok (.ifCond .eq 9, 3) := by decide +kernel
theorem own_d1_36 : decode method_4_code 36 = .ok (.iload 6, 2) := by decide +kernel
theorem own_d1_38 : decode method_4_code 38 = .ok (.iconst 3, 1) := by decide +kernel
theorem own_d1_39 : decode method_4_code 39 = .ok (.if_icmp .ne 82, 3) := by decide +kernel
theorem own_d1_42 : decode method_4_code 42 = .ok (.iload 6, 2) := by decide +kernel
theorem own_d1_44 : decode method_4_code 44 = .ok (.ifCond .ne 11, 3) := by decide +kernel
theorem own_d1_47 : decode method_4_code 47 = .ok (.iload 7, 2) := by decide +kernel
theorem own_d1_49 : decode method_4_code 49 = .ok (.invokestatic 15, 3) := by decide +kernel
theorem own_d1_52 : decode method_4_code 52 = .ok (.goto 11, 3) := by decide +kernel
theorem own_d1_55 : decode method_4_code 55 = .ok (.iload 7, 2) := by decide +kernel
theorem own_d1_57 : decode method_4_code 57 = .ok (.bipush 7, 2) := by decide +kernel
theorem own_d1_59 : decode method_4_code 59 = .ok (.iand, 1) := by decide +kernel
theorem own_d1_60 : decode method_4_code 60 = .ok (.invokestatic 50, 3) := by decide +kernel
theorem own_d1_63 : decode method_4_code 63 = .ok (.istore 9, 2) := by decide +kernel
theorem own_d1_65 : decode method_4_code 65 = .ok (.iload 6, 2) := by decide +kernel
theorem own_d1_67 : decode method_4_code 67 = .ok (.ifCond .ne 11, 3) := by decide +kernel
theorem own_d1_70 : decode method_4_code 70 = .ok (.iload 8, 2) := by decide +kernel
theorem own_d1_72 : decode method_4_code 72 = .ok (.invokestatic 15, 3) := by decide +kernel
theorem own_d1_75 : decode method_4_code 75 = .ok (.goto 11, 3) := by decide +kernel
theorem own_d1_78 : decode method_4_code 78 = .ok (.iload 8, 2) := by decide +kernel
theorem own_d1_80 : decode method_4_code 80 = .ok (.bipush 7, 2) := by decide +kernel
theorem own_d1_82 : decode method_4_code 82 = .ok (.iand, 1) := by decide +kernel
theorem own_d1_83 : decode method_4_code 83 = .ok (.invokestatic 50, 3) := by decide +kernel
theorem own_d1_86 : decode method_4_code 86 = .ok (.istore 10, 2) := by decide +kernel
theorem own_d1_88 : decode method_4_code 88 = .ok (.aload_n 2, 1) := by decide +kernel
theorem own_d1_89 : decode method_4_code 89 = .ok (.iload_n 3, 1) := by decide +kernel
theorem own_d1_90 : decode method_4_code 90 = .ok (.iload 9, 2) := by decide +kernel
theorem own_d1_92 : decode method_4_code 92 = .ok (.castore, 1) := by decide +kernel
theorem own_d1_93 : decode method_4_code 93 = .ok (.aload_n 2, 1) := by decide +kernel
theorem own_d1_94 : decode method_4_code 94 = .ok (.iload_n 3, 1) := by decide +kernel
theorem own_d1_95 : decode method_4_code 95 = .ok (.iconst 1, 1) := by decide +kernel
theorem own_d1_96 : decode method_4_code 96 = .ok (.iadd, 1) := by decide +kernel
theorem own_d1_97 : decode method_4_code 97 = .ok (.iload 10, 2) := by decide +kernel
theorem own_d1_99 : decode method_4_code 99 = .ok (.castore, 1) := by decide +kernel
theorem own_d1_100 : decode method_4_code 100 = .ok (.aload 4, 2) := by decide +kernel
theorem own_d1_102 : decode method_4_code 102 = .ok (.iload 5, 2) := by decide +kernel
theorem own_d1_104 : decode method_4_code 104 = .ok (.iload 9, 2) := by decide +kernel
theorem own_d1_106 : decode method_4_code 106 = .ok (.castore, 1) := by decide +kernel
theorem own_d1_107 : decode method_4_code 107 = .ok (.aload 4, 2) := by decide +kernel
theorem own_d1_109 : decode method_4_code 109 = .ok (.iload 5, 2) := by decide +kernel
theorem own_d1_111 : decode method_4_code 111 = .ok (.iconst 1, 1) := by decide +kernel
theorem own_d1_112 : decode method_4_code 112 = .ok (.iadd, 1) := by decide +kernel
theorem own_d1_113 : decode method_4_code 113 = .ok (.iload 10, 2) := by decide +kernel
theorem own_d1_115 : decode method_4_code 115 = .ok (.castore, 1) := by decide +kernel
theorem own_d1_116 : decode method_4_code 116 = .ok (.iload 5, 2) := by decide +kernel
theorem own_d1_118 : decode method_4_code 118 = .ok (.iconst 2, 1) := by decide +kernel
theorem own_d1_119 : decode method_4_code 119 = .ok (.iadd, 1) := by decide +kernel
theorem own_d1_120 : decode method_4_code 120 = .ok (.ireturn, 1) := by decide +kernel
theorem own_d1_121 : decode method_4_code 121 = .ok (.iload 6, 2) := by decide +kernel
theorem own_d1_123 : decode method_4_code 123 = .ok (.iconst 1, 1) := by decide +kernel
theorem own_d1_124 : decode method_4_code 124 = .ok (.if_icmp .ne 8, 3) := by decide +kernel
theorem own_d1_127 : decode method_4_code 127 = .ok (.iload 7, 2) := by decide +kernel
theorem own_d1_129 : decode method_4_code 129 = .ok (.goto 10, 3) := by decide +kernel
theorem own_d1_132 : decode method_4_code 132 = .ok (.iload 7, 2) := by decide +kernel
theorem own_d1_134 : decode method_4_code 134 = .ok (.iconst 3, 1) := by decide +kernel
theorem own_d1_135 : decode method_4_code 135 = .ok (.iand, 1) := by decide +kernel
theorem own_d1_136 : decode method_4_code 136 = .ok (.invokestatic 53, 3) := by decide +kernel
theorem own_d1_139 : decode method_4_code 139 = .ok (.istore 9, 2) := by decide +kernel
theorem own_d1_141 : decode method_4_code 141 = .ok (.aload_n 2, 1) := by decide +kernel
theorem own_d1_142 : decode method_4_code 142 = .ok (.iload_n 3, 1) := by decide +kernel
theorem own_d1_143 : decode method_4_code 143 = .ok (.bipush 92, 2) := by decide +kernel
theorem own_d1_145 : decode method_4_code 145 = .ok (.castore, 1) := by decide +kernel
theorem own_d1_146 : decode method_4_code 146 = .ok (.aload_n 2, 1) := by decide +kernel
theorem own_d1_147 : decode method_4_code 147 = .ok (.iload_n 3, 1) := by decide +kernel
theorem own_d1_148 : decode method_4_code 148 = .ok (.iconst 1, 1) := by decide +kernel
theorem own_d1_149 : decode method_4_code 149 = .ok (.iadd, 1) := by decide +kernel
theorem own_d1_150 : decode method_4_code 150 = .ok (.iload 9, 2) := by decide +kernel
theorem own_d1_152 : decode method_4_code 152 = .ok (.castore, 1) := by decide +kernel
theorem own_d1_153 : decode method_4_code 153 = .ok (.aload 4, 2) := by decide +kernel
theorem own_d1_155 : decode method_4_code 155 = .ok (.iload 5, 2) := by decide +kernel
theorem own_d1_157 : decode method_4_code 157 = .ok (.iload 9, 2) := by decide +kernel
theorem own_d1_159 : decode method_4_code 159 = .ok (.invokestatic 56, 3) := by decide +kernel
theorem own_d1_162 : decode method_4_code 162 = .ok (.castore, 1) := by decide +kernel
theorem own_d1_163 : decode method_4_code 163 = .ok (.iload 5, 2) := by decide +kernel
theorem own_d1_165 : decode method_4_code 165 = .ok (.iconst 1, 1) := by decide +kernel
theorem own_d1_166 : decode method_4_code 166 = .ok (.iadd, 1) := by decide +kernel
theorem own_d1_167 : decode method_4_code 167 = .ok (.ireturn, 1) := by decide +kernel
theorem own_pd_pJACIACIqI : parseMethodDescriptor "(J[CI[CI)I" = some ⟨[.long, (.array .char), .int, (.array .char), .int], some .int⟩ := by decide +kernel
theorem own_ef_own_d1 (m : MethodId) (x0 : Int64) (x1 : Addr) (x2 : Int32) (x3 : Addr) (x4 : Int32) : entryFrame m #[(.long x0), (.ref x1), (.int x2), (.ref x3), (.int x4)] 11 = mkF m 0 #[.val (.long x0), .second, .val (.ref x1), .val (.int x2), .val (.ref x3), .val (.int x4), .unset, .unset, .unset, .unset, .unset] [] := by
  first | (simp [entryFrame, mkF, argsToLocals, Value.category]; done) | rfl
set_option maxRecDepth 65536 in
set_option maxHeartbeats 40000000 in
theorem own_token (l : Launch) (Z : State) (a0 : Array Value) (hw : ∀ d ∈ tables_1, d.before a0 Z = true) (vv : Int64) (fa ea : Addr) (cf ce : ClassId) (at_ n : Nat) (fs es : List Nat) (h0 : Heap) (n0 : Nat) (O : Old Z n0 h0) (hf : n0 ≤ fa) (he : n0 ≤ ea) (hfe : fa ≠ ea) (Af : Ary Z h0 fa cf .char (chs fs)) (Ae : Ary Z h0 ea ce .char (chs es)) (hat : at_ + 1 < fs.length) (hen : n + 1 < es.length) (hfl : fs.length ≤ 6) (hel : es.length ≤ 6) :
    Ctr l Z n0 (⟨"com/example/millwright/millwright/TestReportUnescapePinLaw", "token", "(J[CI[CI)I"⟩ : MethodName) method_4_code 11 (some .int) [] ({ frames := 1, cells := 0, slots := 0, locals := 14 } : Room) #[(.long vv), (.ref fa), (.int (Int32.ofNat at_)), (.ref ea), (.int (Int32.ofNat n))] h0 [fa, ea] (fun v h => ∃ x y us es', v = some (.int (Int32.ofNat (n + us.length))) ∧ x < 65536 ∧ y < 65536 ∧ 1 ≤ us.length ∧ us.length ≤ 2 ∧ es'.length = es.length ∧ es'.take (n + us.length) = es.take n ++ us ∧ (∀ rest, own_un false (x :: y :: rest) = us ++ own_un false rest) ∧ Ary Z h fa cf .char (chs ((fs.set at_ x).set (at_ + 1) y)) ∧ Ary Z h ea ce .char (chs es')) := by
  refine enter (plainFor_of_name own_pn_com_example_millwright_millwright_TestReportUnescapePinLaw) (fun m => own_ef_own_d1 m vv fa (Int32.ofNat at_) ea (Int32.ofNat n)) O (allS hf (allS he all0)) ?_
  intro p e s m below meth c T w
  refine i_lloadN w own_d1_0 rfl (pc' := 1) rfl ?_
  refine i_ldc2 w (hw _ (List.mem_of_getElem? (i := 5) rfl)) own_d1_1 (pc' := 4) rfl ?_
  refine i_land w own_d1_4 (pc' := 5) rfl ?_
  refine i_l2i w own_d1_5 (pc' := 6) rfl ?_
  rcases own_kind vv with ek | ek | ek | ek
  ·
    rw [ek]
    show Goes p e below _ T (mkF m 6 #[.val (.long vv), .second, .val (.ref fa), .val (.int (Int32.ofNat at_)), .val (.ref ea), .val (.int (Int32.ofNat n)), .unset, .unset, .unset, .unset, .unset] [(.int (0 : Int32))])
    refine i_istore w own_d1_6 (l' := #[.val (.long vv), .second, .val (.ref fa), .val (.int (Int32.ofNat at_)), .val (.ref ea), .val (.int (Int32.ofNat n)), .val (.int (0 : Int32)), .unset, .unset, .unset, .unset]) rfl (pc' := 8) rfl ?_
    refine i_lloadN w own_d1_8 rfl (pc' := 9) rfl ?_
    refine i_iconst w own_d1_9 (z := (2 : Int32)) (by decide) (pc' := 10) rfl ?_
    refine i_lushr w own_d1_10 (pc' := 11) rfl ?_
    refine i_ldc2 w (hw _ (List.mem_of_getElem? (i := 6) rfl)) own_d1_11 (pc' := 14) rfl ?_
    refine i_land w own_d1_14 (pc' := 15) rfl ?_
    refine i_l2i w own_d1_15 (pc' := 16) rfl ?_
    refine i_i2c w own_d1_16 (pc' := 17) rfl ?_
    obtain ⟨ka, hka, eka⟩ := char_nat (((XT.ushrL vv (2 : Int32)) &&& (65535 : Int64)).toInt32)
    rw [eka]
    show Goes p e below _ T (mkF m 17 #[.val (.long vv), .second, .val (.ref fa), .val (.int (Int32.ofNat at_)), .val (.ref ea), .val (.int (Int32.ofNat n)), .val (.int (0 : Int32)), .unset, .unset, .unset, .unset] [(.int (Int32.ofNat ka))])
    refine i_istore w own_d1_17 (l' := #[.val (.long vv), .second, .val (.ref fa), .val (.int (Int32.ofNat at_)), .val (.ref ea), .val (.int (Int32.ofNat n)), .val (.int (0 : Int32)), .val (.int (Int32.ofNat ka)), .unset, .unset, .unset]) rfl (pc' := 19) rfl ?_
    refine i_lloadN w own_d1_19 rfl (pc' := 20) rfl ?_
    refine i_bipush w own_d1_20 (z := (18 : Int32)) (by decide) (pc' := 22) rfl ?_
    refine i_lushr w own_d1_22 (pc' := 23) rfl ?_
    refine i_ldc2 w (hw _ (List.mem_of_getElem? (i := 6) rfl)) own_d1_23 (pc' := 26) rfl ?_
    refine i_land w own_d1_26 (pc' := 27) rfl ?_
    refine i_l2i w own_d1_27 (pc' := 28) rfl ?_
    refine i_i2c w own_d1_28 (pc' := 29) rfl ?_
    obtain ⟨kb, hkb, ekb⟩ := char_nat (((XT.ushrL vv (18 : Int32)) &&& (65535 : Int64)).toInt32)
    rw [ekb]
    show Goes p e below _ T (mkF m 29 #[.val (.long vv), .second, .val (.ref fa), .val (.int (Int32.ofNat at_)), .val (.ref ea), .val (.int (Int32.ofNat n)), .val (.int (0 : Int32)), .val (.int (Int32.ofNat ka)), .unset, .unset, .unset] [(.int (Int32.ofNat kb))])
    refine i_istore w own_d1_29 (l' := #[.val (.long vv), .second, .val (.ref fa), .val (.int (Int32.ofNat at_)), .val (.ref ea), .val (.int (Int32.ofNat n)), .val (.int (0 : Int32)), .val (.int (Int32.ofNat ka)), .val (.int (Int32.ofNat kb)), .unset, .unset]) rfl (pc' := 31) rfl ?_
    refine i_iload w own_d1_31 rfl (pc' := 33) rfl ?_
    refine i_if_eq_Y w rfl own_d1_33 (pc' := 42) (by decide) ?_
    refine i_iload w own_d1_42 rfl (pc' := 44) rfl ?_
    refine i_if_ne_N w rfl own_d1_44 (pc' := 47) rfl ?_
    refine i_iload w own_d1_47 rfl (pc' := 49) rfl ?_
    refine c_static w (y := (⟨"com/example/millwright/millwright/TestReportUnescapePinLaw", "plain", "(C)C"⟩ : MethodName)) (argsL := [(.int (Int32.ofNat ka))]) (st := []) own_d1_49 (hw _ (List.mem_of_getElem? (i := 13) rfl)) (hw _ (List.mem_of_getElem? (i := 14) rfl)) (hw _ (List.mem_of_getElem? (i := 3) rfl)) (hw _ (List.mem_of_getElem? (i := 15) rfl)) (by decide) own_pd_pCqC rfl (own_plain l Z a0 hw ka h0 n0 w.old hka) rfl (by decide) (W := 0) (Nat.le_of_eq rfl) (by decide) (by decide) (by decide) (fun _ q => nomatch q) (pc' := 52) rfl ?_
    intro v221 T221 h221 w221 K221 q221
    obtain ⟨qa, hqa, gqa, rfl, rfl⟩ := q221
    show Goes p e below _ T221 (mkF m 52 #[.val (.long vv), .second, .val (.ref fa), .val (.int (Int32.ofNat at_)), .val (.ref ea), .val (.int (Int32.ofNat n)), .val (.int (0 : Int32)), .val (.int (Int32.ofNat ka)), .val (.int (Int32.ofNat kb)), .unset, .unset] [(.int (Int32.ofNat qa))])
    refine i_goto w221 own_d1_52 (pc' := 63) (by decide) ?_
    refine i_istore w221 own_d1_63 (l' := #[.val (.long vv), .second, .val (.ref fa), .val (.int (Int32.ofNat at_)), .val (.ref ea), .val (.int (Int32.ofNat n)), .val (.int (0 : Int32)), .val (.int (Int32.ofNat ka)), .val (.int (Int32.ofNat kb)), .val (.int (Int32.ofNat qa)), .unset]) rfl (pc' := 65) rfl ?_
    refine i_iload w221 own_d1_65 rfl (pc' := 67) rfl ?_
    refine i_if_ne_N w221 rfl own_d1_67 (pc' := 70) rfl ?_
    refine i_iload w221 own_d1_70 rfl (pc' := 72) rfl ?_
    refine c_static w221 (y := (⟨"com/example/millwright/millwright/TestReportUnescapePinLaw", "plain", "(C)C"⟩ : MethodName)) (argsL := [(.int (Int32.ofNat kb))]) (st := []) own_d1_72 (hw _ (List.mem_of_getElem? (i := 13) rfl)) (hw _ (List.mem_of_getElem? (i := 14) rfl)) (hw _ (List.mem_of_getElem? (i := 3) rfl)) (hw _ (List.mem_of_getElem? (i := 15) rfl)) (by decide) own_pd_pCqC rfl (own_plain l Z a0 hw kb h0 n0 w221.old hkb) rfl (by decide) (W := 0) (Nat.le_of_eq rfl) (by decide) (by decide) (by decide) (fun _ q => nomatch q) (pc' := 75) rfl ?_
    intro v222 T222 h222 w222 K222 q222
    obtain ⟨qb, hqb, gqb, rfl, rfl⟩ := q222
    show Goes p e below _ T222 (mkF m 75 #[.val (.long vv), .second, .val (.ref fa), .val (.int (Int32.ofNat at_)), .val (.ref ea), .val (.int (Int32.ofNat n)), .val (.int (0 : Int32)), .val (.int (Int32.ofNat ka)), .val (.int (Int32.ofNat kb)), .val (.int (Int32.ofNat qa)), .unset] [(.int (Int32.ofNat qb))])
    refine i_goto w222 own_d1_75 (pc' := 86) (by decide) ?_
    refine i_istore w222 own_d1_86 (l' := #[.val (.long vv), .second, .val (.ref fa), .val (.int (Int32.ofNat at_)), .val (.ref ea), .val (.int (Int32.ofNat n)), .val (.int (0 : Int32)), .val (.int (Int32.ofNat ka)), .val (.int (Int32.ofNat kb)), .val (.int (Int32.ofNat qa)), .val (.int (Int32.ofNat qb))]) rfl (pc' := 88) rfl ?_
    refine i_aloadN w222 own_d1_88 rfl rfl (pc' := 89) rfl ?_
    refine i_iloadN w222 own_d1_89 rfl (pc' := 90) rfl ?_
    refine i_iload w222 own_d1_90 rfl (pc' := 92) rfl ?_
    refine i_castore w222 own_d1_92 Af (i := at_) rfl (by simp [chs_len]; omega) (Or.inl List.mem_cons_self) (pc' := 93) rfl ?_
    intro T223 h223 w223 K223 S1
    show Goes p e below _ T223 (mkF m 93 #[.val (.long vv), .second, .val (.ref fa), .val (.int (Int32.ofNat at_)), .val (.ref ea), .val (.int (Int32.ofNat n)), .val (.int (0 : Int32)), .val (.int (Int32.ofNat ka)), .val (.int (Int32.ofNat kb)), .val (.int (Int32.ofNat qa)), .val (.int (Int32.ofNat qb))] [])
    rw [own_chs_set (show qa < 65536 by omega)] at S1
    have S1o := Ae.keep K223 (ninS (Ne.symm hfe) nin0)
    refine i_aloadN w223 own_d1_93 rfl rfl (pc' := 94) rfl ?_
    refine i_iloadN w223 own_d1_94 rfl (pc' := 95) rfl ?_
    refine i_iconst w223 own_d1_95 (z := (1 : Int32)) (by decide) (pc' := 96) rfl ?_
    refine i_iadd w223 own_d1_96 (pc' := 97) rfl ?_
    refine i_iload w223 own_d1_97 rfl (pc' := 99) rfl ?_
    refine i_castore w223 own_d1_99 S1 (i := (at_ + 1)) (add_nat at_ 1) (by simp [chs_len]; omega) (Or.inl List.mem_cons_self) (pc' := 100) rfl ?_
    intro T225 h225 w225 K225 S2
    show Goes p e below _ T225 (mkF m 100 #[.val (.long vv), .second, .val (.ref fa), .val (.int (Int32.ofNat at_)), .val (.ref ea), .val (.int (Int32.ofNat n)), .val (.int (0 : Int32)), .val (.int (Int32.ofNat ka)), .val (.int (Int32.ofNat kb)), .val (.int (Int32.ofNat qa)), .val (.int (Int32.ofNat qb))] [])
    rw [own_chs_set (show qb < 65536 by omega)] at S2
    have S2o := S1o.keep K225 (ninS (Ne.symm hfe) nin0)
    refine i_aload w225 own_d1_100 rfl rfl (pc' := 102) rfl ?_
    refine i_iload w225 own_d1_102 rfl (pc' := 104) rfl ?_
    refine i_iload w225 own_d1_104 rfl (pc' := 106) rfl ?_
    refine i_castore w225 own_d1_106 S2o (i := n) rfl (by simp [chs_len]; omega) (Or.inl (List.mem_cons_of_mem _ (List.mem_singleton.mpr rfl))) (pc' := 107) rfl ?_
    intro T227 h227 w227 K227 S3
    show Goes p e below _ T227 (mkF m 107 #[.val (.long vv), .second, .val (.ref fa), .val (.int (Int32.ofNat at_)), .val (.ref ea), .val (.int (Int32.ofNat n)), .val (.int (0 : Int32)), .val (.int (Int32.ofNat ka)), .val (.int (Int32.ofNat kb)), .val (.int (Int32.ofNat qa)), .val (.int (Int32.ofNat qb))] [])
    rw [own_chs_set (show qa < 65536 by omega)] at S3
    have S3o := S2.keep K227 (ninS hfe nin0)
    refine i_aload w227 own_d1_107 rfl rfl (pc' := 109) rfl ?_
    refine i_iload w227 own_d1_109 rfl (pc' := 111) rfl ?_
    refine i_iconst w227 own_d1_111 (z := (1 : Int32)) (by decide) (pc' := 112) rfl ?_
    refine i_iadd w227 own_d1_112 (pc' := 113) rfl ?_
    refine i_iload w227 own_d1_113 rfl (pc' := 115) rfl ?_
    refine i_castore w227 own_d1_115 S3 (i := (n + 1)) (add_nat n 1) (by simp [chs_len]; omega) (Or.inl (List.mem_cons_of_mem _ (List.mem_singleton.mpr rfl))) (pc' := 116) rfl ?_
    intro T229 h229 w229 K229 S4
    show Goes p e below _ T229 (mkF m 116 #[.val (.long vv), .second, .val (.ref fa), .val (.int (Int32.ofNat at_)), .val (.ref ea), .val (.int (Int32.ofNat n)), .val (.int (0 : Int32)), .val (.int (Int32.ofNat ka)), .val (.int (Int32.ofNat kb)), .val (.int (Int32.ofNat qa)), .val (.int (Int32.ofNat qb))] [])
    rw [own_chs_set (show qb < 65536 by omega)] at S4
    have S4o := S3o.keep K229 (ninS hfe nin0)
    refine i_iload w229 own_d1_116 rfl (pc' := 118) rfl ?_
    refine i_iconst w229 own_d1_118 (z := (2 : Int32)) (by decide) (pc' := 119) rfl ?_
    refine i_iadd w229 own_d1_119 (pc' := 120) rfl ?_
    exact i_retI w229 own_d1_120 rfl ⟨qa, qb, [qa, qb], (es.set n qa).set (n + 1) qb, by rw [show (2 : Int32) = Int32.ofNat 2 from rfl, add_nat]; rfl, hqa, hqb, by simp, by simp, by simp, own_take2 (by omega), fun rest => by rw [own_un_ch gqa, own_un_ch gqb]; rfl, S4o, S4⟩ (by decide) (by decide)
  ·
    rw [ek]
    show Goes p e below _ T (mkF m 6 #[.val (.long vv), .second, .val (.ref fa), .val (.int (Int32.ofNat at_)), .val (.ref ea), .val (.int (Int32.ofNat n)), .unset, .unset, .unset, .unset, .unset] [(.int (1 : Int32))])
    refine i_istore w own_d1_6 (l' := #[.val (.long vv), .second, .val (.ref fa), .val (.int (Int32.ofNat at_)), .val (.ref ea), .val (.int (Int32.ofNat n)), .val (.int (1 : Int32)), .unset, .unset, .unset, .unset]) rfl (pc' := 8) rfl ?_
    refine i_lloadN w own_d1_8 rfl (pc' := 9) rfl ?_
    refine i_iconst w own_d1_9 (z := (2 : Int32)) (by decide) (pc' := 10) rfl ?_
    refine i_lushr w own_d1_10 (pc' := 11) rfl ?_
    refine i_ldc2 w (hw _ (List.mem_of_getElem? (i := 6) rfl)) own_d1_11 (pc' := 14) rfl ?_
    refine i_land w own_d1_14 (pc' := 15) rfl ?_
    refine i_l2i w own_d1_15 (pc' := 16) rfl ?_
    refine i_i2c w own_d1_16 (pc' := 17) rfl ?_
    obtain ⟨ka, hka, eka⟩ := char_nat (((XT.ushrL vv (2 : Int32)) &&& (65535 : Int64)).toInt32)
    rw [eka]
    show Goes p e below _ T (mkF m 17 #[.val (.long vv), .second, .val (.ref fa), .val (.int (Int32.ofNat at_)), .val (.ref ea), .val (.int (Int32.ofNat n)), .val (.int (1 : Int32)), .unset, .unset, .unset, .unset] [(.int (Int32.ofNat ka))])
    refine i_istore w own_d1_17 (l' := #[.val (.long vv), .second, .val (.ref fa), .val (.int (Int32.ofNat at_)), .val (.ref ea), .val (.int (Int32.ofNat n)), .val (.int (1 : Int32)), .val (.int (Int32.ofNat ka)), .unset, .unset, .unset]) rfl (pc' := 19) rfl ?_
    refine i_lloadN w own_d1_19 rfl (pc' := 20) rfl ?_
    refine i_bipush w own_d1_20 (z := (18 : Int32)) (by decide) (pc' := 22) rfl ?_
    refine i_lushr w own_d1_22 (pc' := 23) rfl ?_
    refine i_ldc2 w (hw _ (List.mem_of_getElem? (i := 6) rfl)) own_d1_23 (pc' := 26) rfl ?_
    refine i_land w own_d1_26 (pc' := 27) rfl ?_
    refine i_l2i w own_d1_27 (pc' := 28) rfl ?_
    refine i_i2c w own_d1_28 (pc' := 29) rfl ?_
    obtain ⟨kb, hkb, ekb⟩ := char_nat (((XT.ushrL vv (18 : Int32)) &&& (65535 : Int64)).toInt32)
    rw [ekb]
    show Goes p e below _ T (mkF m 29 #[.val (.long vv), .second, .val (.ref fa), .val (.int (Int32.ofNat at_)), .val (.ref ea), .val (.int (Int32.ofNat n)), .val (.int (1 : Int32)), .val (.int (Int32.ofNat ka)), .unset, .unset, .unset] [(.int (Int32.ofNat kb))])
    refine i_istore w own_d1_29 (l' := #[.val (.long vv), .second, .val (.ref fa), .val (.int (Int32.ofNat at_)), .val (.ref ea), .val (.int (Int32.ofNat n)), .val (.int (1 : Int32)), .val (.int (Int32.ofNat ka)), .val (.int (Int32.ofNat kb)), .unset, .unset]) rfl (pc' := 31) rfl ?_
    refine i_iload w own_d1_31 rfl (pc' := 33) rfl ?_
    refine i_if_eq_N w (by decide) own_d1_33 (pc' := 36) rfl ?_
    refine i_iload w own_d1_36 rfl (pc' := 38) rfl ?_
    refine i_iconst w own_d1_38 (z := (3 : Int32)) (by decide) (pc' := 39) rfl ?_
    refine i_icmp_ne_Y w (by decide) own_d1_39 (pc' := 121) (by decide) ?_
    refine i_iload w own_d1_121 rfl (pc' := 123) rfl ?_
    refine i_iconst w own_d1_123 (z := (1 : Int32)) (by decide) (pc' := 124) rfl ?_
    refine i_icmp_ne_N w rfl own_d1_124 (pc' := 127) rfl ?_
    refine i_iload w own_d1_127 rfl (pc' := 129) rfl ?_
    refine i_goto w own_d1_129 (pc' := 139) (by decide) ?_
    refine i_istore w own_d1_139 (l' := #[.val (.long vv), .second, .val (.ref fa), .val (.int (Int32.ofNat at_)), .val (.ref ea), .val (.int (Int32.ofNat n)), .val (.int (1 : Int32)), .val (.int (Int32.ofNat ka)), .val (.int (Int32.ofNat kb)), .val (.int (Int32.ofNat ka)), .unset]) rfl (pc' := 141) rfl ?_
    refine i_aloadN w own_d1_141 rfl rfl (pc' := 142) rfl ?_
    refine i_iloadN w own_d1_142 rfl (pc' := 143) rfl ?_
    refine i_bipush w own_d1_143 (z := (92 : Int32)) (by decide) (pc' := 145) rfl ?_
    show Goes p e below _ T (mkF m 145 #[.val (.long vv), .second, .val (.ref fa), .val (.int (Int32.ofNat at_)), .val (.ref ea), .val (.int (Int32.ofNat n)), .val (.int (1 : Int32)), .val (.int (Int32.ofNat ka)), .val (.int (Int32.ofNat kb)), .val (.int (Int32.ofNat ka)), .unset] [(.int (Int32.ofNat 92)), (.int (Int32.ofNat at_)), (.ref fa)])
    refine i_castore w own_d1_145 Af (i := at_) rfl (by simp [chs_len]; omega) (Or.inl List.mem_cons_self) (pc' := 146) rfl ?_
    intro T231 h231 w231 K231 S1
    show Goes p e below _ T231 (mkF m 146 #[.val (.long vv), .second, .val (.ref fa), .val (.int (Int32.ofNat at_)), .val (.ref ea), .val (.int (Int32.ofNat n)), .val (.int (1 : Int32)), .val (.int (Int32.ofNat ka)), .val (.int (Int32.ofNat kb)), .val (.int (Int32.ofNat ka)), .unset] [])
    rw [own_chs_set (show 92 < 65536 by omega)] at S1
    have S1o := Ae.keep K231 (ninS (Ne.symm hfe) nin0)
    refine i_aloadN w231 own_d1_146 rfl rfl (pc' := 147) rfl ?_
    refine i_iloadN w231 own_d1_147 rfl (pc' := 148) rfl ?_
    refine i_iconst w231 own_d1_148 (z := (1 : Int32)) (by decide) (pc' := 149) rfl ?_
    refine i_iadd w231 own_d1_149 (pc' := 150) rfl ?_
    refine i_iload w231 own_d1_150 rfl (pc' := 152) rfl ?_
    refine i_castore w231 own_d1_152 S1 (i := (at_ + 1)) (add_nat at_ 1) (by simp [chs_len]; omega) (Or.inl List.mem_cons_self) (pc' := 153) rfl ?_
    intro T233 h233 w233 K233 S2
    show Goes p e below _ T233 (mkF m 153 #[.val (.long vv), .second, .val (.ref fa), .val (.int (Int32.ofNat at_)), .val (.ref ea), .val (.int (Int32.ofNat n)), .val (.int (1 : Int32)), .val (.int (Int32.ofNat ka)), .val (.int (Int32.ofNat kb)), .val (.int (Int32.ofNat ka)), .unset] [])
    rw [own_chs_set (show ka < 65536 by omega)] at S2
    have S2o := S1o.keep K233 (ninS (Ne.symm hfe) nin0)
    refine i_aload w233 own_d1_153 rfl rfl (pc' := 155) rfl ?_
    refine i_iload w233 own_d1_155 rfl (pc' := 157) rfl ?_
    refine i_iload w233 own_d1_157 rfl (pc' := 159) rfl ?_
    refine c_static w233 (y := (⟨"com/example/millwright/millwright/TestReportUnescapePinLaw", "meaning", "(C)C"⟩ : MethodName)) (argsL := [(.int (Int32.ofNat ka))]) (st := [(.int (Int32.ofNat n)), (.ref ea)]) own_d1_159 (hw _ (List.mem_of_getElem? (i := 10) rfl)) (hw _ (List.mem_of_getElem? (i := 11) rfl)) (hw _ (List.mem_of_getElem? (i := 3) rfl)) (hw _ (List.mem_of_getElem? (i := 12) rfl)) (by decide) own_pd_pCqC rfl (own_meaning l Z a0 hw ka h233 n0 w233.old hka) rfl (by decide) (W := 2) (Nat.le_of_eq rfl) (by decide) (by decide) (by decide) (fun _ q => nomatch q) (pc' := 162) rfl ?_
    intro v235 T235 h235 w235 K235 q235
    obtain ⟨rfl, rfl⟩ := q235
    show Goes p e below _ T235 (mkF m 162 #[.val (.long vv), .second, .val (.ref fa), .val (.int (Int32.ofNat at_)), .val (.ref ea), .val (.int (Int32.ofNat n)), .val (.int (1 : Int32)), .val (.int (Int32.ofNat ka)), .val (.int (Int32.ofNat kb)), .val (.int (Int32.ofNat ka)), .unset] [(.int (Int32.ofNat (own_mean ka))), (.int (Int32.ofNat n)), (.ref ea)])
    have hmx := own_mean_lt hka
    refine i_castore w235 own_d1_162 S2o (i := n) rfl (by simp [chs_len]; omega) (Or.inl (List.mem_cons_of_mem _ (List.mem_singleton.mpr rfl))) (pc' := 163) rfl ?_
    intro T236 h236 w236 K236 S3
    show Goes p e below _ T236 (mkF m 163 #[.val (.long vv), .second, .val (.ref fa), .val (.int (Int32.ofNat at_)), .val (.ref ea), .val (.int (Int32.ofNat n)), .val (.int (1 : Int32)), .val (.int (Int32.ofNat ka)), .val (.int (Int32.ofNat kb)), .val (.int (Int32.ofNat ka)), .unset] [])
    rw [own_chs_set (show (own_mean ka) < 65536 by omega)] at S3
    have S3o := S2.keep K236 (ninS hfe nin0)
    refine i_iload w236 own_d1_163 rfl (pc' := 165) rfl ?_
    refine i_iconst w236 own_d1_165 (z := (1 : Int32)) (by decide) (pc' := 166) rfl ?_
    refine i_iadd w236 own_d1_166 (pc' := 167) rfl ?_
    exact i_retI w236 own_d1_167 rfl ⟨92, ka, [own_mean ka], es.set n (own_mean ka), by rw [own_inc]; rfl, by omega, hka, by simp, by simp, by simp, own_take1 (by omega), fun rest => by rw [own_un_92, own_un_m]; rfl, S3o, S3⟩ (by decide) (by decide)
  ·
    rw [ek]
    show Goes p e below _ T (mkF m 6 #[.val (.long vv), .second, .val (.ref fa), .val (.int (Int32.ofNat at_)), .val (.ref ea), .val (.int (Int32.ofNat n)), .unset, .unset, .unset, .unset, .unset] [(.int (2 : Int32))])
    refine i_istore w own_d1_6 (l' := #[.val (.long vv), .second, .val (.ref fa), .val (.int (Int32.ofNat at_)), .val (.ref ea), .val (.int (Int32.ofNat n)), .val (.int (2 : Int32)), .unset, .unset, .unset, .unset]) rfl (pc' := 8) rfl ?_
    refine i_lloadN w own_d1_8 rfl (pc' := 9) rfl ?_
    refine i_iconst w own_d1_9 (z := (2 : Int32)) (by decide) (pc' := 10) rfl ?_
    refine i_lushr w own_d1_10 (pc' := 11) rfl ?_
    refine i_ldc2 w (hw _ (List.mem_of_getElem? (i := 6) rfl)) own_d1_11 (pc' := 14) rfl ?_
    refine i_land w own_d1_14 (pc' := 15) rfl ?_
    refine i_l2i w own_d1_15 (pc' := 16) rfl ?_
    refine i_i2c w own_d1_16 (pc' := 17) rfl ?_
    obtain ⟨ka, hka, eka⟩ := char_nat (((XT.ushrL vv (2 : Int32)) &&& (65535 : Int64)).toInt32)
    rw [eka]
    show Goes p e below _ T (mkF m 17 #[.val (.long vv), .second, .val (.ref fa), .val (.int (Int32.ofNat at_)), .val (.ref ea), .val (.int (Int32.ofNat n)), .val (.int (2 : Int32)), .unset, .unset, .unset, .unset] [(.int (Int32.ofNat ka))])
    refine i_istore w own_d1_17 (l' := #[.val (.long vv), .second, .val (.ref fa), .val (.int (Int32.ofNat at_)), .val (.ref ea), .val (.int (Int32.ofNat n)), .val (.int (2 : Int32)), .val (.int (Int32.ofNat ka)), .unset, .unset, .unset]) rfl (pc' := 19) rfl ?_
    refine i_lloadN w own_d1_19 rfl (pc' := 20) rfl ?_
    refine i_bipush w own_d1_20 (z := (18 : Int32)) (by decide) (pc' := 22) rfl ?_
    refine i_lushr w own_d1_22 (pc' := 23) rfl ?_
    refine i_ldc2 w (hw _ (List.mem_of_getElem? (i := 6) rfl)) own_d1_23 (pc' := 26) rfl ?_
    refine i_land w own_d1_26 (pc' := 27) rfl ?_
    refine i_l2i w own_d1_27 (pc' := 28) rfl ?_
    refine i_i2c w own_d1_28 (pc' := 29) rfl ?_
    obtain ⟨kb, hkb, ekb⟩ := char_nat (((XT.ushrL vv (18 : Int32)) &&& (65535 : Int64)).toInt32)
    rw [ekb]
    show Goes p e below _ T (mkF m 29 #[.val (.long vv), .second, .val (.ref fa), .val (.int (Int32.ofNat at_)), .val (.ref ea), .val (.int (Int32.ofNat n)), .val (.int (2 : Int32)), .val (.int (Int32.ofNat ka)), .unset, .unset, .unset] [(.int (Int32.ofNat kb))])
    refine i_istore w own_d1_29 (l' := #[.val (.long vv), .second, .val (.ref fa), .val (.int (Int32.ofNat at_)), .val (.ref ea), .val (.int (Int32.ofNat n)), .val (.int (2 : Int32)), .val (.int (Int32.ofNat ka)), .val (.int (Int32.ofNat kb)), .unset, .unset]) rfl (pc' := 31) rfl ?_
    refine i_iload w own_d1_31 rfl (pc' := 33) rfl ?_
    refine i_if_eq_N w (by decide) own_d1_33 (pc' := 36) rfl ?_
    refine i_iload w own_d1_36 rfl (pc' := 38) rfl ?_
    refine i_iconst w own_d1_38 (z := (3 : Int32)) (by decide) (pc' := 39) rfl ?_
    refine i_icmp_ne_Y w (by decide) own_d1_39 (pc' := 121) (by decide) ?_
    refine i_iload w own_d1_121 rfl (pc' := 123) rfl ?_
    refine i_iconst w own_d1_123 (z := (1 : Int32)) (by decide) (pc' := 124) rfl ?_
    refine i_icmp_ne_Y w (by decide) own_d1_124 (pc' := 132) (by decide) ?_
    refine i_iload w own_d1_132 rfl (pc' := 134) rfl ?_
    refine i_iconst w own_d1_134 (z := (3 : Int32)) (by decide) (pc' := 135) rfl ?_
    refine i_iand w own_d1_135 (pc' := 136) rfl ?_
    refine c_static w (y := (⟨"com/example/millwright/millwright/TestReportUnescapePinLaw", "special", "(I)C"⟩ : MethodName)) (argsL := [(.int ((Int32.ofNat ka) &&& (3 : Int32)))]) (st := []) own_d1_136 (hw _ (List.mem_of_getElem? (i := 247) rfl)) (hw _ (List.mem_of_getElem? (i := 248) rfl)) (hw _ (List.mem_of_getElem? (i := 3) rfl)) (hw _ (List.mem_of_getElem? (i := 249) rfl)) (by decide) own_pd_pIqC rfl (own_special l Z a0 hw ((Int32.ofNat ka) &&& (3 : Int32)) h0 n0 w.old ) rfl (by decide) (W := 0) (Nat.le_of_eq rfl) (by decide) (by decide) (by decide) (fun _ q => nomatch q) (pc' := 139) rfl ?_
    intro v238 T238 h238 w238 K238 q238
    obtain ⟨qa, hqa, rfl, rfl⟩ := q238
    show Goes p e below _ T238 (mkF m 139 #[.val (.long vv), .second, .val (.ref fa), .val (.int (Int32.ofNat at_)), .val (.ref ea), .val (.int (Int32.ofNat n)), .val (.int (2 : Int32)), .val (.int (Int32.ofNat ka)), .val (.int (Int32.ofNat kb)), .unset, .unset] [(.int (Int32.ofNat qa))])
    refine i_istore w238 own_d1_139 (l' := #[.val (.long vv), .second, .val (.ref fa), .val (.int (Int32.ofNat at_)), .val (.ref ea), .val (.int (Int32.ofNat n)), .val (.int (2 : Int32)), .val (.int (Int32.ofNat ka)), .val (.int (Int32.ofNat kb)), .val (.int (Int32.ofNat qa)), .unset]) rfl (pc' := 141) rfl ?_
    refine i_aloadN w238 own_d1_141 rfl rfl (pc' := 142) rfl ?_
    refine i_iloadN w238 own_d1_142 rfl (pc' := 143) rfl ?_
    refine i_bipush w238 own_d1_143 (z := (92 : Int32)) (by decide) (pc' := 145) rfl ?_
    show Goes p e below _ T238 (mkF m 145 #[.val (.long vv), .second, .val (.ref fa), .val (.int (Int32.ofNat at_)), .val (.ref ea), .val (.int (Int32.ofNat n)), .val (.int (2 : Int32)), .val (.int (Int32.ofNat ka)), .val (.int (Int32.ofNat kb)), .val (.int (Int32.ofNat qa)), .unset] [(.int (Int32.ofNat 92)), (.int (Int32.ofNat at_)), (.ref fa)])
    refine i_castore w238 own_d1_145 Af (i := at_) rfl (by simp [chs_len]; omega) (Or.inl List.mem_cons_self) (pc' := 146) rfl ?_
    intro T239 h239 w239 K239 S1
    show Goes p e below _ T239 (mkF m 146 #[.val (.long vv), .second, .val (.ref fa), .val (.int (Int32.ofNat at_)), .val (.ref ea), .val (.int (Int32.ofNat n)), .val (.int (2 : Int32)), .val (.int (Int32.ofNat ka)), .val (.int (Int32.ofNat kb)), .val (.int (Int32.ofNat qa)), .unset] [])
    rw [own_chs_set (show 92 < 65536 by omega)] at S1
    have S1o := Ae.keep K239 (ninS (Ne.symm hfe) nin0)
    refine i_aloadN w239 own_d1_146 rfl rfl (pc' := 147) rfl ?_
    refine i_iloadN w239 own_d1_147 rfl (pc' := 148) rfl ?_
    refine i_iconst w239 own_d1_148 (z := (1 : Int32)) (by decide) (pc' := 149) rfl ?_
    refine i_iadd w239 own_d1_149 (pc' := 150) rfl ?_
    refine i_iload w239 own_d1_150 rfl (pc' := 152) rfl ?_
    refine i_castore w239 own_d1_152 S1 (i := (at_ + 1)) (add_nat at_ 1) (by simp [chs_len]; omega) (Or.inl List.mem_cons_self) (pc' := 153) rfl ?_
    intro T241 h241 w241 K241 S2
    show Goes p e below _ T241 (mkF m 153 #[.val (.long vv), .second, .val (.ref fa), .val (.int (Int32.ofNat at_)), .val (.ref ea), .val (.int (Int32.ofNat n)), .val (.int (2 : Int32)), .val (.int (Int32.ofNat ka)), .val (.int (Int32.ofNat kb)), .val (.int (Int32.ofNat qa)), .unset] [])
    rw [own_chs_set (show qa < 65536 by omega)] at S2
    have S2o := S1o.keep K241 (ninS (Ne.symm hfe) nin0)
    refine i_aload w241 own_d1_153 rfl rfl (pc' := 155) rfl ?_
    refine i_iload w241 own_d1_155 rfl (pc' := 157) rfl ?_
    refine i_iload w241 own_d1_157 rfl (pc' := 159) rfl ?_
    refine c_static w241 (y := (⟨"com/example/millwright/millwright/TestReportUnescapePinLaw", "meaning", "(C)C"⟩ : MethodName)) (argsL := [(.int (Int32.ofNat qa))]) (st := [(.int (Int32.ofNat n)), (.ref ea)]) own_d1_159 (hw _ (List.mem_of_getElem? (i := 10) rfl)) (hw _ (List.mem_of_getElem? (i := 11) rfl)) (hw _ (List.mem_of_getElem? (i := 3) rfl)) (hw _ (List.mem_of_getElem? (i := 12) rfl)) (by decide) own_pd_pCqC rfl (own_meaning l Z a0 hw qa h241 n0 w241.old hqa) rfl (by decide) (W := 2) (Nat.le_of_eq rfl) (by decide) (by decide) (by decide) (fun _ q => nomatch q) (pc' := 162) rfl ?_
    intro v243 T243 h243 w243 K243 q243
    obtain ⟨rfl, rfl⟩ := q243
    show Goes p e below _ T243 (mkF m 162 #[.val (.long vv), .second, .val (.ref fa), .val (.int (Int32.ofNat at_)), .val (.ref ea), .val (.int (Int32.ofNat n)), .val (.int (2 : Int32)), .val (.int (Int32.ofNat ka)), .val (.int (Int32.ofNat kb)), .val (.int (Int32.ofNat qa)), .unset] [(.int (Int32.ofNat (own_mean qa))), (.int (Int32.ofNat n)), (.ref ea)])
    have hmx := own_mean_lt hqa
    refine i_castore w243 own_d1_162 S2o (i := n) rfl (by simp [chs_len]; omega) (Or.inl (List.mem_cons_of_mem _ (List.mem_singleton.mpr rfl))) (pc' := 163) rfl ?_
    intro T244 h244 w244 K244 S3
    show Goes p e below _ T244 (mkF m 163 #[.val (.long vv), .second, .val (.ref fa), .val (.int (Int32.ofNat at_)), .val (.ref ea), .val (.int (Int32.ofNat n)), .val (.int (2 : Int32)), .val (.int (Int32.ofNat ka)), .val (.int (Int32.ofNat kb)), .val (.int (Int32.ofNat qa)), .unset] [])
    rw [own_chs_set (show (own_mean qa) < 65536 by omega)] at S3
    have S3o := S2.keep K244 (ninS hfe nin0)
    refine i_iload w244 own_d1_163 rfl (pc' := 165) rfl ?_
    refine i_iconst w244 own_d1_165 (z := (1 : Int32)) (by decide) (pc' := 166) rfl ?_
    refine i_iadd w244 own_d1_166 (pc' := 167) rfl ?_
    exact i_retI w244 own_d1_167 rfl ⟨92, qa, [own_mean qa], es.set n (own_mean qa), by rw [own_inc]; rfl, by omega, hqa, by simp, by simp, by simp, own_take1 (by omega), fun rest => by rw [own_un_92, own_un_m]; rfl, S3o, S3⟩ (by decide) (by decide)
  ·
    rw [ek]
    show Goes p e below _ T (mkF m 6 #[.val (.long vv), .second, .val (.ref fa), .val (.int (Int32.ofNat at_)), .val (.ref ea), .val (.int (Int32.ofNat n)), .unset, .unset, .unset, .unset, .unset] [(.int (3 : Int32))])
    refine i_istore w own_d1_6 (l' := #[.val (.long vv), .second, .val (.ref fa), .val (.int (Int32.ofNat at_)), .val (.ref ea), .val (.int (Int32.ofNat n)), .val (.int (3 : Int32)), .unset, .unset, .unset, .unset]) rfl (pc' := 8) rfl ?_
    refine i_lloadN w own_d1_8 rfl (pc' := 9) rfl ?_
    refine i_iconst w own_d1_9 (z := (2 : Int32)) (by decide) (pc' := 10) rfl ?_
    refine i_lushr w own_d1_10 (pc' := 11) rfl ?_
    refine i_ldc2 w (hw _ (List.mem_of_getElem? (i := 6) rfl)) own_d1_11 (pc' := 14) rfl ?_
    refine i_land w own_d1_14 (pc' := 15) rfl ?_
    refine i_l2i w own_d1_15 (pc' := 16) rfl ?_
    refine i_i2c w own_d1_16 (pc' := 17) rfl ?_
    obtain ⟨ka, hka, eka⟩ := char_nat (((XT.ushrL vv (2 : Int32)) &&& (65535 : Int64)).toInt32)
    rw [eka]
    show Goes p e below _ T (mkF m 17 #[.val (.long vv), .second, .val (.ref fa), .val (.int (Int32.ofNat at_)), .val (.ref ea), .val (.int (Int32.ofNat n)), .val (.int (3 : Int32)), .unset, .unset, .unset, .unset] [(.int (Int32.ofNat ka))])
    refine i_istore w own_d1_17 (l' := #[.val (.long vv), .second, .val (.ref fa), .val (.int (Int32.ofNat at_)), .val (.ref ea), .val (.int (Int32.ofNat n)), .val (.int (3 : Int32)), .val (.int (Int32.ofNat ka)), .unset, .unset, .unset]) rfl (pc' := 19) rfl ?_
    refine i_lloadN w own_d1_19 rfl (pc' := 20) rfl ?_
    refine i_bipush w own_d1_20 (z := (18 : Int32)) (by decide) (pc' := 22) rfl ?_
    refine i_lushr w own_d1_22 (pc' := 23) rfl ?_
    refine i_ldc2 w (hw _ (List.mem_of_getElem? (i := 6) rfl)) own_d1_23 (pc' := 26) rfl ?_
    refine i_land w own_d1_26 (pc' := 27) rfl ?_
    refine i_l2i w own_d1_27 (pc' := 28) rfl ?_
    refine i_i2c w own_d1_28 (pc' := 29) rfl ?_
    obtain ⟨kb, hkb, ekb⟩ := char_nat (((XT.ushrL vv (18 : Int32)) &&& (65535 : Int64)).toInt32)
    rw [ekb]
    show Goes p e below _ T (mkF m 29 #[.val (.long vv), .second, .val (.ref fa), .val (.int (Int32.ofNat at_)), .val (.ref ea), .val (.int (Int32.ofNat n)), .val (.int (3 : Int32)), .val (.int (Int32.ofNat ka)), .unset, .unset, .unset] [(.int (Int32.ofNat kb))])
    refine i_istore w own_d1_29 (l' := #[.val (.long vv), .second, .val (.ref fa), .val (.int (Int32.ofNat at_)), .val (.ref ea), .val (.int (Int32.ofNat n)), .val (.int (3 : Int32)), .val (.int (Int32.ofNat ka)), .val (.int (Int32.ofNat kb)), .unset, .unset]) rfl (pc' := 31) rfl ?_
    refine i_iload w own_d1_31 rfl (pc' := 33) rfl ?_
    refine i_if_eq_N w (by decide) own_d1_33 (pc' := 36) rfl ?_
    refine i_iload w own_d1_36 rfl (pc' := 38) rfl ?_
    refine i_iconst w own_d1_38 (z := (3 : Int32)) (by decide) (pc' := 39) rfl ?_
    refine i_icmp_ne_N w rfl own_d1_39 (pc' := 42) rfl ?_
    refine i_iload w own_d1_42 rfl (pc' := 44) rfl ?_
    refine i_if_ne_Y w (by decide) own_d1_44 (pc' := 55) (by decide) ?_
    refine i_iload w own_d1_55 rfl (pc' := 57) rfl ?_
    refine i_bipush w own_d1_57 (z := (7 : Int32)) (by decide) (pc' := 59) rfl ?_
    refine i_iand w own_d1_59 (pc' := 60) rfl ?_
    refine c_static w (y := (⟨"com/example/millwright/millwright/TestReportUnescapePinLaw", "letter", "(I)C"⟩ : MethodName)) (argsL := [(.int ((Int32.ofNat ka) &&& (7 : Int32)))]) (st := []) own_d1_60 (hw _ (List.mem_of_getElem? (i := 7) rfl)) (hw _ (List.mem_of_getElem? (i := 8) rfl)) (hw _ (List.mem_of_getElem? (i := 3) rfl)) (hw _ (List.mem_of_getElem? (i := 9) rfl)) (by decide) own_pd_pIqC rfl (own_letter l Z a0 hw ((Int32.ofNat ka) &&& (7 : Int32)) h0 n0 w.old ) rfl (by decide) (W := 0) (Nat.le_of_eq rfl) (by decide) (by decide) (by decide) (fun _ q => nomatch q) (pc' := 63) rfl ?_
    intro v246 T246 h246 w246 K246 q246
    obtain ⟨qa, hqa, gqa, rfl, rfl⟩ := q246
    show Goes p e below _ T246 (mkF m 63 #[.val (.long vv), .second, .val (.ref fa), .val (.int (Int32.ofNat at_)), .val (.ref ea), .val (.int (Int32.ofNat n)), .val (.int (3 : Int32)), .val (.int (Int32.ofNat ka)), .val (.int (Int32.ofNat kb)), .unset, .unset] [(.int (Int32.ofNat qa))])
    refine i_istore w246 own_d1_63 (l' := #[.val (.long vv), .second, .val (.ref fa), .val (.int (Int32.ofNat at_)), .val (.ref ea), .val (.int (Int32.ofNat n)), .val (.int (3 : Int32)), .val (.int (Int32.ofNat ka)), .val (.int (Int32.ofNat kb)), .val (.int (Int32.ofNat qa)), .unset]) rfl (pc' := 65) rfl ?_
    refine i_iload w246 own_d1_65 rfl (pc' := 67) rfl ?_
    refine i_if_ne_Y w246 (by decide) own_d1_67 (pc' := 78) (by decide) ?_
    refine i_iload w246 own_d1_78 rfl (pc' := 80) rfl ?_
    refine i_bipush w246 own_d1_80 (z := (7 : Int32)) (by decide) (pc' := 82) rfl ?_
    refine i_iand w246 own_d1_82 (pc' := 83) rfl ?_
    refine c_static w246 (y := (⟨"com/example/millwright/millwright/TestReportUnescapePinLaw", "letter", "(I)C"⟩ : MethodName)) (argsL := [(.int ((Int32.ofNat kb) &&& (7 : Int32)))]) (st := []) own_d1_83 (hw _ (List.mem_of_getElem? (i := 7) rfl)) (hw _ (List.mem_of_getElem? (i := 8) rfl)) (hw _ (List.mem_of_getElem? (i := 3) rfl)) (hw _ (List.mem_of_getElem? (i := 9) rfl)) (by decide) own_pd_pIqC rfl (own_letter l Z a0 hw ((Int32.ofNat kb) &&& (7 : Int32)) h0 n0 w246.old ) rfl (by decide) (W := 0) (Nat.le_of_eq rfl) (by decide) (by decide) (by decide) (fun _ q => nomatch q) (pc' := 86) rfl ?_
    intro v247 T247 h247 w247 K247 q247
    obtain ⟨qb, hqb, gqb, rfl, rfl⟩ := q247
    show Goes p e below _ T247 (mkF m 86 #[.val (.long vv), .second, .val (.ref fa), .val (.int (Int32.ofNat at_)), .val (.ref ea), .val (.int (Int32.ofNat n)), .val (.int (3 : Int32)), .val (.int (Int32.ofNat ka)), .val (.int (Int32.ofNat kb)), .val (.int (Int32.ofNat qa)), .unset] [(.int (Int32.ofNat qb))])
    refine i_istore w247 own_d1_86 (l' := #[.val (.long vv), .second, .val (.ref fa), .val (.int (Int32.ofNat at_)), .val (.ref ea), .val (.int (Int32.ofNat n)), .val (.int (3 : Int32)), .val (.int (Int32.ofNat ka)), .val (.int (Int32.ofNat kb)), .val (.int (Int32.ofNat qa)), .val (.int (Int32.ofNat qb))]) rfl (pc' := 88) rfl ?_
    refine i_aloadN w247 own_d1_88 rfl rfl (pc' := 89) rfl ?_
    refine i_iloadN w247 own_d1_89 rfl (pc' := 90) rfl ?_
    refine i_iload w247 own_d1_90 rfl (pc' := 92) rfl ?_
    refine i_castore w247 own_d1_92 Af (i := at_) rfl (by simp [chs_len]; omega) (Or.inl List.mem_cons_self) (pc' := 93) rfl ?_
    intro T248 h248 w248 K248 S1
    show Goes p e below _ T248 (mkF m 93 #[.val (.long vv), .second, .val (.ref fa), .val (.int (Int32.ofNat at_)), .val (.ref ea), .val (.int (Int32.ofNat n)), .val (.int (3 : Int32)), .val (.int (Int32.ofNat ka)), .val (.int (Int32.ofNat kb)), .val (.int (Int32.ofNat qa)), .val (.int (Int32.ofNat qb))] [])
    rw [own_chs_set (show qa < 65536 by omega)] at S1
    have S1o := Ae.keep K248 (ninS (Ne.symm hfe) nin0)
    refine i_aloadN w248 own_d1_93 rfl rfl (pc' := 94) rfl ?_
    refine i_iloadN w248 own_d1_94 rfl (pc' := 95) rfl ?_
    refine i_iconst w248 own_d1_95 (z := (1 : Int32)) (by decide) (pc' := 96) rfl ?_
    refine i_iadd w248 own_d1_96 (pc' := 97) rfl ?_
    refine i_iload w248 own_d1_97 rfl (pc' := 99) rfl ?_
    refine i_castore w248 own_d1_99 S1 (i := (at_ + 1)) (add_nat at_ 1) (by simp [chs_len]; omega) (Or.inl List.mem_cons_self) (pc' := 100) rfl ?_
    intro T250 h250 w250 K250 S2
    show Goes p e below _ T250 (mkF m 100 #[.val (.long vv), .second, .val (.ref fa), .val (.int (Int32.ofNat at_)), .val (.ref ea), .val (.int (Int32.ofNat n)), .val (.int (3 : Int32)), .val (.int (Int32.ofNat ka)), .val (.int (Int32.ofNat kb)), .val (.int (Int32.ofNat qa)), .val (.int (Int32.ofNat qb))] [])
    rw [own_chs_set (show qb < 65536 by omega)] at S2
    have S2o := S1o.keep K250 (ninS (Ne.symm hfe) nin0)
    refine i_aload w250 own_d1_100 rfl rfl (pc' := 102) rfl ?_
    refine i_iload w250 own_d1_102 rfl (pc' := 104) rfl ?_
    refine i_iload w250 own_d1_104 rfl (pc' := 106) rfl ?_
    refine i_castore w250 own_d1_106 S2o (i := n) rfl (by simp [chs_len]; omega) (Or.inl (List.mem_cons_of_mem _ (List.mem_singleton.mpr rfl))) (pc' := 107) rfl ?_
    intro T252 h252 w252 K252 S3
    show Goes p e below _ T252 (mkF m 107 #[.val (.long vv), .second, .val (.ref fa), .val (.int (Int32.ofNat at_)), .val (.ref ea), .val (.int (Int32.ofNat n)), .val (.int (3 : Int32)), .val (.int (Int32.ofNat ka)), .val (.int (Int32.ofNat kb)), .val (.int (Int32.ofNat qa)), .val (.int (Int32.ofNat qb))] [])
    rw [own_chs_set (show qa < 65536 by omega)] at S3
    have S3o := S2.keep K252 (ninS hfe nin0)
    refine i_aload w252 own_d1_107 rfl rfl (pc' := 109) rfl ?_
    refine i_iload w252 own_d1_109 rfl (pc' := 111) rfl ?_
    refine i_iconst w252 own_d1_111 (z := (1 : Int32)) (by decide) (pc' := 112) rfl ?_
    refine i_iadd w252 own_d1_112 (pc' := 113) rfl ?_
    refine i_iload w252 own_d1_113 rfl (pc' := 115) rfl ?_
    refine i_castore w252 own_d1_115 S3 (i := (n + 1)) (add_nat n 1) (by simp [chs_len]; omega) (Or.inl (List.mem_cons_of_mem _ (List.mem_singleton.mpr rfl))) (pc' := 116) rfl ?_
    intro T254 h254 w254 K254 S4
    show Goes p e below _ T254 (mkF m 116 #[.val (.long vv), .second, .val (.ref fa), .val (.int (Int32.ofNat at_)), .val (.ref ea), .val (.int (Int32.ofNat n)), .val (.int (3 : Int32)), .val (.int (Int32.ofNat ka)), .val (.int (Int32.ofNat kb)), .val (.int (Int32.ofNat qa)), .val (.int (Int32.ofNat qb))] [])
    rw [own_chs_set (show qb < 65536 by omega)] at S4
    have S4o := S3o.keep K254 (ninS hfe nin0)
    refine i_iload w254 own_d1_116 rfl (pc' := 118) rfl ?_
    refine i_iconst w254 own_d1_118 (z := (2 : Int32)) (by decide) (pc' := 119) rfl ?_
    refine i_iadd w254 own_d1_119 (pc' := 120) rfl ?_
    exact i_retI w254 own_d1_120 rfl ⟨qa, qb, [qa, qb], (es.set n qa).set (n + 1) qb, by rw [show (2 : Int32) = Int32.ofNat 2 from rfl, add_nat]; rfl, hqa, hqb, by simp, by simp, by simp, own_take2 (by omega), fun rest => by rw [own_un_ch gqa, own_un_ch gqb]; rfl, S4o, S4⟩ (by decide) (by decide)
theorem own_d54_0 : decode method_3_code 0 = .ok (.iload_n 3, 1) := by decide +kernel
theorem own_d54_1 : decode method_3_code 1 = .ok (.iload_n 2, 1) := by decide +kernel
theorem own_d54_2 : decode method_3_code 2 = .ok (.if_icmp .ge 14, 3) := by decide +kernel
theorem own_d54_5 : decode method_3_code 5 = .ok (.aload_n 0, 1) := by decide +kernel
theorem own_d54_6 : decode method_3_code 6 = .ok (.iload_n 3, 1) := by decide +kernel
theorem own_d54_7 : decode method_3_code 7 = .ok (.invokevirtual 44, 3) := by decide +kernel
theorem own_d54_10 : decode method_3_code 10 = .ok (.aload_n 1, 1) := by decide +kernel
theorem own_d54_11 : decode method_3_code 11 = .ok (.iload_n 3, 1) := by decide +kernel
theorem own_d54_12 : decode method_3_code 12 = .ok (.caload, 1) := by decide +kernel
theorem own_d54_13 : decode method_3_code 13 = .ok (.if_icmp .ne 7, 3) := by decide +kernel
theorem own_d54_16 : decode method_3_code 16 = .ok (.iconst 1, 1) := by decide +kernel
theorem own_d54_17 : decode method_3_code 17 = .ok (.goto 4, 3) := by decide +kernel
theorem own_d54_20 : decode method_3_code 20 = .ok (.iconst 0, 1) := by decide +kernel
theorem own_d54_21 : decode method_3_code 21 = .ok (.ireturn, 1) := by decide +kernel
theorem own_pd_pLjava_lang_StringeACIIqZ : parseMethodDescriptor "(Ljava/lang/String;[CII)Z" = some ⟨[(.object "java/lang/String"), (.array .char), .int, .int], some .boolean⟩ := by decide +kernel
theorem own_ef_own_d54 (m : MethodId) (x0 : Addr) (x1 : Addr) (x2 : Int32) (x3 : Int32) : entryFrame m #[(.ref x0), (.ref x1), (.int x2), (.int x3)] 4 = mkF m 0 #[.val (.ref x0), .val (.ref x1), .val (.int x2), .val (.int x3)] [] := by
  first | (simp [entryFrame, mkF, argsToLocals, Value.category]; done) | rfl
set_option maxRecDepth 65536 in
set_option maxHeartbeats 40000000 in
theorem own_same (l : Launch) (Z : State) (a0 : Array Value) (hw : ∀ d ∈ tables_1, d.before a0 Z = true) (r tr ea : Addr) (cr ce : ClassId) (rs es : List Nat) (n i : Nat) (G1 : Int32) (hG : ¬ G1 = 0) (SG : Sta Z Z.heap "java/lang/String" "COMPACT_STRINGS" "Z" (.int G1)) (SA : Sta Z Z.heap "java/lang/StringUTF16" "$assertionsDisabled" "Z" (.int 1)) (SHi : Sta Z Z.heap "java/lang/StringUTF16" "HI_BYTE_SHIFT" "I" (.int 0)) (SLo : Sta Z Z.heap "java/lang/StringUTF16" "LO_BYTE_SHIFT" "I" (.int 8)) (G3 : Value) (hG3 : G3.isRef = true) (SF : Sta Z Z.heap "jdk/internal/util/Preconditions" "SIOOBE_FORMATTER" "Ljava/util/function/BiFunction;" G3) (h0 : Heap) (n0 : Nat) (O : Old Z n0 h0) (R : Str Z h0 r tr cr rs) (Ae : Ary Z h0 ea ce .char (chs es)) (hn : rs.length = n) (ht : es.take n = rs) (hn6 : n < 65536) (hi : i < 65536) :
    Ctr l Z n0 (⟨"com/example/millwright/millwright/TestReportUnescapePinLaw", "same", "(Ljava/lang/String;[CII)Z"⟩ : MethodName) method_3_code 4 (some .boolean) [] ({ frames := 5, cells := 0, slots := 0, locals := 66 } : Room) #[(.ref r), (.ref ea), (.int (Int32.ofNat n)), (.int (Int32.ofNat i))] h0 [] (fun v h => v = some (.int 1) ∧ h0 = h) := by
  refine enter (plainFor_of_name own_pn_com_example_millwright_millwright_TestReportUnescapePinLaw) (fun m => own_ef_own_d54 m r ea (Int32.ofNat n) (Int32.ofNat i)) O (fun _ q => nomatch q) ?_
  intro p e s m below meth c T w
  refine i_iloadN w own_d54_0 rfl (pc' := 1) rfl ?_
  refine i_iloadN w own_d54_1 rfl (pc' := 2) rfl ?_
  refine i_icmp_ge w own_d54_2 (pcY := 16) (by decide) (pc' := 5) rfl (fun hc2 => ?_) (fun hc2 => ?_)
  ·
    refine i_iconst w own_d54_16 (z := (1 : Int32)) (by decide) (pc' := 17) rfl ?_
    refine i_goto w own_d54_17 (pc' := 21) (by decide) ?_
    exact i_retN w own_d54_21 rfl (by simp) ⟨rfl, rfl⟩ (by decide) (by decide)
  ·
    refine i_aloadN w own_d54_5 rfl rfl (pc' := 6) rfl ?_
    refine i_iloadN w own_d54_6 rfl (pc' := 7) rfl ?_
    have hin : i < n := (lt_nat (by omega) (by omega)).mp hc2
    obtain ⟨k, hk⟩ : ∃ k, rs[i]? = some k := ⟨_, List.getElem?_eq_getElem (by omega)⟩
    have hk2 : es[i]? = some k := by have q := hk; rw [← ht, List.getElem?_take, if_pos hin] at q; exact q
    refine c_virtual w (y := (⟨"java/lang/String", "charAt", "(I)C"⟩ : MethodName)) (C := "java/lang/String") (a := r) (argsL := [(.int (Int32.ofNat i))]) (st := []) own_d54_7 (hw _ (List.mem_of_getElem? (i := 239) rfl)) (hw _ (List.mem_of_getElem? (i := 240) rfl)) (hw _ (List.mem_of_getElem? (i := 242) rfl)) (hw _ (List.mem_of_getElem? (i := 241) rfl)) (hw _ (List.mem_of_getElem? (i := 243) rfl)) (hw _ (List.mem_of_getElem? (i := 18) rfl)) (by decide) own_pd_pIqC rfl R.exa (own_charAt l Z a0 hw r tr cr rs i k G1 hG SG G3 hG3 SF SA SHi SLo h0 n0 w.old R hk) rfl (by decide) (W := 0) (Nat.le_of_eq rfl) (by decide) (by decide) (by decide) (fun _ q => nomatch q) (pc' := 10) rfl ?_
    intro v256 T256 h256 w256 K256 q256
    obtain ⟨rfl, rfl⟩ := q256
    show Goes p e below _ T256 (mkF m 10 #[.val (.ref r), .val (.ref ea), .val (.int (Int32.ofNat n)), .val (.int (Int32.ofNat i))] [(.int (Int32.ofNat k))])
    refine i_aloadN w256 own_d54_10 rfl rfl (pc' := 11) rfl ?_
    refine i_iloadN w256 own_d54_11 rfl (pc' := 12) rfl ?_
    refine i_caload w256 own_d54_12 Ae rfl (chs_at hk2) (pc' := 13) rfl ?_
    refine i_icmp_ne_N w256 rfl own_d54_13 (pc' := 16) rfl ?_
    refine i_iconst w256 own_d54_16 (z := (1 : Int32)) (by decide) (pc' := 17) rfl ?_
    refine i_goto w256 own_d54_17 (pc' := 21) (by decide) ?_
    exact i_retN w256 own_d54_21 rfl (by simp) ⟨rfl, rfl⟩ (by decide) (by decide)
set_option maxRecDepth 65536 in
set_option maxHeartbeats 40000000 in
theorem own_seg (l : Launch) (Z : State) (a0 : Array Value) (hw : ∀ d ∈ tables_1, d.before a0 Z = true) (y0 y1 y2 : Int64) (y3 : Int32) (fa ea : Addr) (cf ce : ClassId) (fs es : List Nat) (n : Nat) (o10 : Slot) (G1 : Int32) (hG : ¬ G1 = 0) (SG : Sta Z Z.heap "java/lang/String" "COMPACT_STRINGS" "Z" (.int G1)) (SA : Sta Z Z.heap "java/lang/StringUTF16" "$assertionsDisabled" "Z" (.int 1)) (SHi : Sta Z Z.heap "java/lang/StringUTF16" "HI_BYTE_SHIFT" "I" (.int 0)) (SLo : Sta Z Z.heap "java/lang/StringUTF16" "LO_BYTE_SHIFT" "I" (.int 8)) (G3 : Value) (hG3 : G3.isRef = true) (SF : Sta Z Z.heap "jdk/internal/util/Preconditions" "SIOOBE_FORMATTER" "Ljava/util/function/BiFunction;" G3) (h0 : Heap) (n0 : Nat) {p : Program} {e : Env} {s : State} {m : MethodId} {below : List Frame} {meth : Method} {c : Code} {vm : Vm} {kS : Nat} {T : State} {h : Heap} (w : Wk p l e room_1 (s.setVm vm) m #[(.long y0), (.long y1), (.long y2), (.int y3)] below meth c Z x.cls code maxLocals ret x.name n0 h0 [] T h 4 20) (hS : s.Since vm kS) (hkS : kS ≤ h.size) (C0 : CHr Z consts_1 s.vm s.heap vm h) (ho10 : One o10) (Af : Ary Z h fa cf .char (chs fs)) (Ae : Ary Z h ea ce .char (chs es)) (hfl : fs.length = 6) (hf16 : ∀ c ∈ fs, c < 65536) (hnl : (own_un false fs).length = n) (hn6 : n ≤ 6) (het : es.take n = own_un false fs) :
    Goes p e below (PH consts_1 Z s n0 h0 [] (fun v h => v = some (.int 1)) room_1.cells room_1.slots) T (mkF m 105 #[.val (.long y0), .second, .val (.long y1), .second, .val (.long y2), .second, .val (.int y3), .val (.ref fa), .val (.ref ea), .val (.int (Int32.ofNat n)), o10] []) := by
  refine i_new w at_105 (hw _ (List.mem_of_getElem? (i := 16) rfl)) (hw _ (List.mem_of_getElem? (i := 17) rfl)) (hw _ (List.mem_of_getElem? (i := 18) rfl)) (by decide) (by decide) (pc' := 108) rfl ?_
  intro q T257 h257 g_q w257 z_q E257 A_q D_q
  show Goes p e below _ T257 (mkF m 108 #[.val (.long y0), .second, .val (.long y1), .second, .val (.long y2), .second, .val (.int y3), .val (.ref fa), .val (.ref ea), .val (.int (Int32.ofNat n)), o10] [(.ref q)])
  have lt_fa_q : fa < q := Nat.lt_of_lt_of_le Af.lt (Nat.le_of_eq g_q.symm)
  have lt_ea_q : ea < q := Nat.lt_of_lt_of_le Ae.lt (Nat.le_of_eq g_q.symm)
  have Af_258 := Af.ext E257
  have Ae_258 := Ae.ext E257
  have C259 := C0.trans (CHr.ext E257 C0.1)
  have Fv_q : Fld Z h257 q ST "value" "[B" .null := D_q (Or.inr (hw _ (List.mem_of_getElem? (i := 63) rfl))) (ty := .array .byte) (by decide)
  have Fc_q : Fld Z h257 q ST "coder" "B" (.int 0) := D_q (Or.inr (hw _ (List.mem_of_getElem? (i := 61) rfl))) (ty := .byte) (by decide)
  have Sf_q := Safe.ext E257 C0.1 (Safe.new (x := q) (Nat.le_of_eq g_q.symm))
  refine i_dup w257 at_108 rfl (pc' := 109) rfl ?_
  refine i_aload w257 at_109 rfl rfl (pc' := 111) rfl ?_
  refine c_special w257 (y := (⟨"java/lang/String", "<init>", "([C)V"⟩ : MethodName)) (a := q) (argsL := [(.ref fa)]) (st := [(.ref q)]) at_111 rfl (hw _ (List.mem_of_getElem? (i := 19) rfl)) (hw _ (List.mem_of_getElem? (i := 20) rfl)) (hw _ (List.mem_of_getElem? (i := 18) rfl)) (hw _ (List.mem_of_getElem? (i := 21) rfl)) (by decide) own_pd_pACqV rfl (own_new1 l Z a0 hw q fa cf fs G1 hG SG SA SHi SLo h257 n0 w257.old (Nat.le_trans w257.n0h0 z_q) hf16 (by omega) (by omega) A_q Fv_q Fc_q Af_258) rfl (by decide) (W := 1) (Nat.le_of_eq rfl) (by decide) (by decide) (by decide) (allS (Or.inr z_q) all0) (pc' := 114) rfl ?_
  intro v260 T260 h260 w260 K260 q260
  obtain ⟨rfl, tq, cq, ztq, SQ⟩ := q260
  show Goes p e below _ T260 (mkF m 114 #[.val (.long y0), .second, .val (.long y1), .second, .val (.long y2), .second, .val (.int y3), .val (.ref fa), .val (.ref ea), .val (.int (Int32.ofNat n)), o10] [(.ref q)])
  have lt_fa_tq : fa < tq := Nat.lt_of_lt_of_le Af_258.lt ztq
  have lt_ea_tq : ea < tq := Nat.lt_of_lt_of_le Ae_258.lt ztq
  have Af_261 := Af_258.keep K260 (ninS (Nat.ne_of_lt lt_fa_q) nin0)
  have Ae_261 := Ae_258.keep K260 (ninS (Nat.ne_of_lt lt_ea_q) nin0)
  have C262 := C259.trans (CHr.keep K260 (sfS Sf_q sf0) C259.1)
  refine c_static w260 (y := (⟨"com/example/millwright/millwright/TestReport", "unescape", "(Ljava/lang/String;)Ljava/lang/String;"⟩ : MethodName)) (argsL := [(.ref q)]) (st := []) at_114 (hw _ (List.mem_of_getElem? (i := 64) rfl)) (hw _ (List.mem_of_getElem? (i := 65) rfl)) (hw _ (List.mem_of_getElem? (i := 66) rfl)) (hw _ (List.mem_of_getElem? (i := 67) rfl)) (by decide) own_pd_pLjava_lang_StringeqLjava_lang_Stringe rfl (own_unescape l Z a0 hw q tq cq fs G1 hG SG SA SHi SLo G3 hG3 SF h260 n0 w260.old SQ (by omega)) rfl (by decide) (W := 0) (Nat.le_of_eq rfl) (by decide) (by decide) (by decide) (fun _ q => nomatch q) (pc' := 117) rfl ?_
  intro v263 T263 h263 w263 K263 q263
  obtain ⟨r, tr, cr, rfl, zr, R⟩ := q263
  show Goes p e below _ T263 (mkF m 117 #[.val (.long y0), .second, .val (.long y1), .second, .val (.long y2), .second, .val (.int y3), .val (.ref fa), .val (.ref ea), .val (.int (Int32.ofNat n)), o10] [(.ref r)])
  have lt_fa_r : fa < r := Nat.lt_of_lt_of_le Af_261.lt zr
  have lt_ea_r : ea < r := Nat.lt_of_lt_of_le Ae_261.lt zr
  have lt_q_r : q < r := Nat.lt_of_lt_of_le SQ.lt zr
  have lt_tq_r : tq < r := Nat.lt_of_lt_of_le SQ.ltT zr
  have Af_264 := Af_261.keep K263 nin0
  have Ae_264 := Ae_261.keep K263 nin0
  have SQ_264 := SQ.keep K263 nin0 nin0
  have C265 := C262.trans (CHr.keep K263 sf0 C262.1)
  refine i_astore w263 at_117 rfl (l' := #[.val (.long y0), .second, .val (.long y1), .second, .val (.long y2), .second, .val (.int y3), .val (.ref fa), .val (.ref ea), .val (.int (Int32.ofNat n)), .val (.ref r)]) (XS.store1 rfl ho10 rfl) (pc' := 119) rfl ?_
  refine i_ldcR (own_EW hw) w263 hS (Nat.le_trans (Nat.le_trans (Nat.le_trans hkS E257.1) K260.1) K263.1) C265.1 at_119 (hw _ (List.mem_of_getElem? (i := 212) rfl)) (fun d hd => hw d ((by decide +kernel : ∀ d ∈ Bundle.stringAtoms, d ∈ tables_1) d hd)) (N := 0) (by decide) (by decide) (by decide) (by decide) (pc' := 121) rfl (cs := ([] : List Nat)) (by decide) (by decide) (by decide) (by decide) (by decide) ?_
  intro g bg cbg T266 h266 vm266 w266 hS266 E266 hC266 S_g N_g
  show Goes p e below _ T266 (mkF m 121 #[.val (.long y0), .second, .val (.long y1), .second, .val (.long y2), .second, .val (.int y3), .val (.ref fa), .val (.ref ea), .val (.int (Int32.ofNat n)), .val (.ref r)] [(.ref g)])
  have Af_267 := Af_264.ext E266
  have Ae_267 := Ae_264.ext E266
  have SQ_267 := SQ_264.ext E266
  have R_267 := R.ext E266
  have C268 := C265.trans hC266
  refine c_static w266 (y := (⟨"com/example/millwright/millwright/TestReport", "unescape", "(Ljava/lang/String;)Ljava/lang/String;"⟩ : MethodName)) (argsL := [(.ref g)]) (st := []) at_121 (hw _ (List.mem_of_getElem? (i := 64) rfl)) (hw _ (List.mem_of_getElem? (i := 65) rfl)) (hw _ (List.mem_of_getElem? (i := 66) rfl)) (hw _ (List.mem_of_getElem? (i := 67) rfl)) (by decide) own_pd_pLjava_lang_StringeqLjava_lang_Stringe rfl (own_unescape l Z a0 hw g bg cbg [] G1 hG SG SA SHi SLo G3 hG3 SF h266 n0 w266.old (Or.inl S_g) (by decide)) rfl (by decide) (W := 0) (Nat.le_of_eq rfl) (by decide) (by decide) (by decide) (fun _ q => nomatch q) (pc' := 124) rfl ?_
  intro v269 T269 h269 w269 K269 q269
  obtain ⟨r2, tr2, cr2, rfl, zr2, R2⟩ := q269
  show Goes p e below _ T269 (mkF m 124 #[.val (.long y0), .second, .val (.long y1), .second, .val (.long y2), .second, .val (.int y3), .val (.ref fa), .val (.ref ea), .val (.int (Int32.ofNat n)), .val (.ref r)] [(.ref r2)])
  have lt_fa_r2 : fa < r2 := Nat.lt_of_lt_of_le Af_267.lt zr2
  have lt_ea_r2 : ea < r2 := Nat.lt_of_lt_of_le Ae_267.lt zr2
  have lt_q_r2 : q < r2 := Nat.lt_of_lt_of_le SQ_267.lt zr2
  have lt_tq_r2 : tq < r2 := Nat.lt_of_lt_of_le SQ_267.ltT zr2
  have lt_r_r2 : r < r2 := Nat.lt_of_lt_of_le R_267.lt zr2
  have lt_tr_r2 : tr < r2 := Nat.lt_of_lt_of_le R_267.ltT zr2
  have lt_g_r2 : g < r2 := Nat.lt_of_lt_of_le S_g.lt zr2
  have lt_bg_r2 : bg < r2 := Nat.lt_of_lt_of_le S_g.ltT zr2
  have Af_270 := Af_267.keep K269 nin0
  have Ae_270 := Ae_267.keep K269 nin0
  have SQ_270 := SQ_267.keep K269 nin0 nin0
  have R_270 := R_267.keep K269 nin0 nin0
  have G_270 := S_g.keep K269 nin0 nin0
  have C271 := C268.trans (CHr.keep K269 sf0 C268.1)
  refine c_virtual w269 (y := (⟨"java/lang/String", "isEmpty", "()Z"⟩ : MethodName)) (C := "java/lang/String") (a := r2) (argsL := []) (st := []) at_124 (hw _ (List.mem_of_getElem? (i := 221) rfl)) (hw _ (List.mem_of_getElem? (i := 222) rfl)) (hw _ (List.mem_of_getElem? (i := 224) rfl)) (hw _ (List.mem_of_getElem? (i := 223) rfl)) (hw _ (List.mem_of_getElem? (i := 225) rfl)) (hw _ (List.mem_of_getElem? (i := 18) rfl)) (by decide) own_pd_pqZ rfl R2.exa (own_isEmpty l Z a0 hw r2 tr2 cr2 (own_un false []) h269 n0 w269.old R2) rfl (by decide) (W := 0) (Nat.le_of_eq rfl) (by decide) (by decide) (by decide) (fun _ q => nomatch q) (pc' := 127) rfl ?_
  intro v272 T272 h272 w272 K272 q272
  obtain ⟨rfl, rfl⟩ := q272
  show Goes p e below _ T272 (mkF m 127 #[.val (.long y0), .second, .val (.long y1), .second, .val (.long y2), .second, .val (.int y3), .val (.ref fa), .val (.ref ea), .val (.int (Int32.ofNat n)), .val (.ref r)] [(.int (if (own_un false []).length = 0 then 1 else 0))])
  rw [if_pos (show (own_un false []).length = 0 by simp [own_un])]
  show Goes p e below _ T272 (mkF m 127 #[.val (.long y0), .second, .val (.long y1), .second, .val (.long y2), .second, .val (.int y3), .val (.ref fa), .val (.ref ea), .val (.int (Int32.ofNat n)), .val (.ref r)] [(.int (1 : Int32))])
  refine i_if_ne_Y w272 (by decide) at_127 (pc' := 132) (by decide) ?_
  refine i_aload w272 at_132 rfl rfl (pc' := 134) rfl ?_
  refine c_virtual w272 (y := (⟨"java/lang/String", "length", "()I"⟩ : MethodName)) (C := "java/lang/String") (a := r) (argsL := []) (st := []) at_134 (hw _ (List.mem_of_getElem? (i := 226) rfl)) (hw _ (List.mem_of_getElem? (i := 227) rfl)) (hw _ (List.mem_of_getElem? (i := 229) rfl)) (hw _ (List.mem_of_getElem? (i := 228) rfl)) (hw _ (List.mem_of_getElem? (i := 230) rfl)) (hw _ (List.mem_of_getElem? (i := 18) rfl)) (by decide) own_pd_pqI rfl R_270.exa (own_length l Z a0 hw r tr cr (own_un false fs) G1 hG SG h269 n0 w272.old R_270) rfl (by decide) (W := 0) (Nat.le_of_eq rfl) (by decide) (by decide) (by decide) (fun _ q => nomatch q) (pc' := 137) rfl ?_
  intro v273 T273 h273 w273 K273 q273
  obtain ⟨rfl, rfl⟩ := q273
  show Goes p e below _ T273 (mkF m 137 #[.val (.long y0), .second, .val (.long y1), .second, .val (.long y2), .second, .val (.int y3), .val (.ref fa), .val (.ref ea), .val (.int (Int32.ofNat n)), .val (.ref r)] [(.int (Int32.ofNat (own_un false fs).length))])
  refine i_iload w273 at_137 rfl (pc' := 139) rfl ?_
  refine i_icmp_eq_Y w273 (by rw [hnl]) at_139 (pc' := 144) (by decide) ?_
  refine i_aload w273 at_144 rfl rfl (pc' := 146) rfl ?_
  refine i_aload w273 at_146 rfl rfl (pc' := 148) rfl ?_
  refine i_iload w273 at_148 rfl (pc' := 150) rfl ?_
  refine i_iconst w273 at_150 (z := (0 : Int32)) (by decide) (pc' := 151) rfl ?_
  refine c_static w273 (y := (⟨"com/example/millwright/millwright/TestReportUnescapePinLaw", "same", "(Ljava/lang/String;[CII)Z"⟩ : MethodName)) (argsL := [(.ref r), (.ref ea), (.int (Int32.ofNat n)), (.int (0 : Int32))]) (st := []) at_151 (hw _ (List.mem_of_getElem? (i := 236) rfl)) (hw _ (List.mem_of_getElem? (i := 237) rfl)) (hw _ (List.mem_of_getElem? (i := 3) rfl)) (hw _ (List.mem_of_getElem? (i := 238) rfl)) (by decide) own_pd_pLjava_lang_StringeACIIqZ rfl (own_same l Z a0 hw r tr ea cr ce (own_un false fs) es n 0 G1 hG SG SA SHi SLo G3 hG3 SF h269 n0 w273.old R_270 Ae_270 hnl het (by omega) (by decide)) rfl (by decide) (W := 0) (Nat.le_of_eq rfl) (by decide) (by decide) (by decide) (fun _ q => nomatch q) (pc' := 154) rfl ?_
  intro v274 T274 h274 w274 K274 q274
  obtain ⟨rfl, rfl⟩ := q274
  show Goes p e below _ T274 (mkF m 154 #[.val (.long y0), .second, .val (.long y1), .second, .val (.long y2), .second, .val (.int y3), .val (.ref fa), .val (.ref ea), .val (.int (Int32.ofNat n)), .val (.ref r)] [(.int (1 : Int32))])
  refine i_if_eq_N w274 (by decide) at_154 (pc' := 157) rfl ?_
  refine i_aload w274 at_157 rfl rfl (pc' := 159) rfl ?_
  refine i_aload w274 at_159 rfl rfl (pc' := 161) rfl ?_
  refine i_iload w274 at_161 rfl (pc' := 163) rfl ?_
  refine i_iconst w274 at_163 (z := (1 : Int32)) (by decide) (pc' := 164) rfl ?_
  refine c_static w274 (y := (⟨"com/example/millwright/millwright/TestReportUnescapePinLaw", "same", "(Ljava/lang/String;[CII)Z"⟩ : MethodName)) (argsL := [(.ref r), (.ref ea), (.int (Int32.ofNat n)), (.int (1 : Int32))]) (st := []) at_164 (hw _ (List.mem_of_getElem? (i := 236) rfl)) (hw _ (List.mem_of_getElem? (i := 237) rfl)) (hw _ (List.mem_of_getElem? (i := 3) rfl)) (hw _ (List.mem_of_getElem? (i := 238) rfl)) (by decide) own_pd_pLjava_lang_StringeACIIqZ rfl (own_same l Z a0 hw r tr ea cr ce (own_un false fs) es n 1 G1 hG SG SA SHi SLo G3 hG3 SF h269 n0 w274.old R_270 Ae_270 hnl het (by omega) (by decide)) rfl (by decide) (W := 0) (Nat.le_of_eq rfl) (by decide) (by decide) (by decide) (fun _ q => nomatch q) (pc' := 167) rfl ?_
  intro v275 T275 h275 w275 K275 q275
  obtain ⟨rfl, rfl⟩ := q275
  show Goes p e below _ T275 (mkF m 167 #[.val (.long y0), .second, .val (.long y1), .second, .val (.long y2), .second, .val (.int y3), .val (.ref fa), .val (.ref ea), .val (.int (Int32.ofNat n)), .val (.ref r)] [(.int (1 : Int32))])
  refine i_if_eq_N w275 (by decide) at_167 (pc' := 170) rfl ?_
  refine i_aload w275 at_170 rfl rfl (pc' := 172) rfl ?_
  refine i_aload w275 at_172 rfl rfl (pc' := 174) rfl ?_
  refine i_iload w275 at_174 rfl (pc' := 176) rfl ?_
  refine i_iconst w275 at_176 (z := (2 : Int32)) (by decide) (pc' := 177) rfl ?_
  refine c_static w275 (y := (⟨"com/example/millwright/millwright/TestReportUnescapePinLaw", "same", "(Ljava/lang/String;[CII)Z"⟩ : MethodName)) (argsL := [(.ref r), (.ref ea), (.int (Int32.ofNat n)), (.int (2 : Int32))]) (st := []) at_177 (hw _ (List.mem_of_getElem? (i := 236) rfl)) (hw _ (List.mem_of_getElem? (i := 237) rfl)) (hw _ (List.mem_of_getElem? (i := 3) rfl)) (hw _ (List.mem_of_getElem? (i := 238) rfl)) (by decide) own_pd_pLjava_lang_StringeACIIqZ rfl (own_same l Z a0 hw r tr ea cr ce (own_un false fs) es n 2 G1 hG SG SA SHi SLo G3 hG3 SF h269 n0 w275.old R_270 Ae_270 hnl het (by omega) (by decide)) rfl (by decide) (W := 0) (Nat.le_of_eq rfl) (by decide) (by decide) (by decide) (fun _ q => nomatch q) (pc' := 180) rfl ?_
  intro v276 T276 h276 w276 K276 q276
  obtain ⟨rfl, rfl⟩ := q276
  show Goes p e below _ T276 (mkF m 180 #[.val (.long y0), .second, .val (.long y1), .second, .val (.long y2), .second, .val (.int y3), .val (.ref fa), .val (.ref ea), .val (.int (Int32.ofNat n)), .val (.ref r)] [(.int (1 : Int32))])
  refine i_if_eq_N w276 (by decide) at_180 (pc' := 183) rfl ?_
  refine i_aload w276 at_183 rfl rfl (pc' := 185) rfl ?_
  refine i_aload w276 at_185 rfl rfl (pc' := 187) rfl ?_
  refine i_iload w276 at_187 rfl (pc' := 189) rfl ?_
  refine i_iconst w276 at_189 (z := (3 : Int32)) (by decide) (pc' := 190) rfl ?_
  refine c_static w276 (y := (⟨"com/example/millwright/millwright/TestReportUnescapePinLaw", "same", "(Ljava/lang/String;[CII)Z"⟩ : MethodName)) (argsL := [(.ref r), (.ref ea), (.int (Int32.ofNat n)), (.int (3 : Int32))]) (st := []) at_190 (hw _ (List.mem_of_getElem? (i := 236) rfl)) (hw _ (List.mem_of_getElem? (i := 237) rfl)) (hw _ (List.mem_of_getElem? (i := 3) rfl)) (hw _ (List.mem_of_getElem? (i := 238) rfl)) (by decide) own_pd_pLjava_lang_StringeACIIqZ rfl (own_same l Z a0 hw r tr ea cr ce (own_un false fs) es n 3 G1 hG SG SA SHi SLo G3 hG3 SF h269 n0 w276.old R_270 Ae_270 hnl het (by omega) (by decide)) rfl (by decide) (W := 0) (Nat.le_of_eq rfl) (by decide) (by decide) (by decide) (fun _ q => nomatch q) (pc' := 193) rfl ?_
  intro v277 T277 h277 w277 K277 q277
  obtain ⟨rfl, rfl⟩ := q277
  show Goes p e below _ T277 (mkF m 193 #[.val (.long y0), .second, .val (.long y1), .second, .val (.long y2), .second, .val (.int y3), .val (.ref fa), .val (.ref ea), .val (.int (Int32.ofNat n)), .val (.ref r)] [(.int (1 : Int32))])
  refine i_if_eq_N w277 (by decide) at_193 (pc' := 196) rfl ?_
  refine i_aload w277 at_196 rfl rfl (pc' := 198) rfl ?_
  refine i_aload w277 at_198 rfl rfl (pc' := 200) rfl ?_
  refine i_iload w277 at_200 rfl (pc' := 202) rfl ?_
  refine i_iconst w277 at_202 (z := (4 : Int32)) (by decide) (pc' := 203) rfl ?_
  refine c_static w277 (y := (⟨"com/example/millwright/millwright/TestReportUnescapePinLaw", "same", "(Ljava/lang/String;[CII)Z"⟩ : MethodName)) (argsL := [(.ref r), (.ref ea), (.int (Int32.ofNat n)), (.int (4 : Int32))]) (st := []) at_203 (hw _ (List.mem_of_getElem? (i := 236) rfl)) (hw _ (List.mem_of_getElem? (i := 237) rfl)) (hw _ (List.mem_of_getElem? (i := 3) rfl)) (hw _ (List.mem_of_getElem? (i := 238) rfl)) (by decide) own_pd_pLjava_lang_StringeACIIqZ rfl (own_same l Z a0 hw r tr ea cr ce (own_un false fs) es n 4 G1 hG SG SA SHi SLo G3 hG3 SF h269 n0 w277.old R_270 Ae_270 hnl het (by omega) (by decide)) rfl (by decide) (W := 0) (Nat.le_of_eq rfl) (by decide) (by decide) (by decide) (fun _ q => nomatch q) (pc' := 206) rfl ?_
  intro v278 T278 h278 w278 K278 q278
  obtain ⟨rfl, rfl⟩ := q278
  show Goes p e below _ T278 (mkF m 206 #[.val (.long y0), .second, .val (.long y1), .second, .val (.long y2), .second, .val (.int y3), .val (.ref fa), .val (.ref ea), .val (.int (Int32.ofNat n)), .val (.ref r)] [(.int (1 : Int32))])
  refine i_if_eq_N w278 (by decide) at_206 (pc' := 209) rfl ?_
  refine i_aload w278 at_209 rfl rfl (pc' := 211) rfl ?_
  refine i_aload w278 at_211 rfl rfl (pc' := 213) rfl ?_
  refine i_iload w278 at_213 rfl (pc' := 215) rfl ?_
  refine i_iconst w278 at_215 (z := (5 : Int32)) (by decide) (pc' := 216) rfl ?_
  refine c_static w278 (y := (⟨"com/example/millwright/millwright/TestReportUnescapePinLaw", "same", "(Ljava/lang/String;[CII)Z"⟩ : MethodName)) (argsL := [(.ref r), (.ref ea), (.int (Int32.ofNat n)), (.int (5 : Int32))]) (st := []) at_216 (hw _ (List.mem_of_getElem? (i := 236) rfl)) (hw _ (List.mem_of_getElem? (i := 237) rfl)) (hw _ (List.mem_of_getElem? (i := 3) rfl)) (hw _ (List.mem_of_getElem? (i := 238) rfl)) (by decide) own_pd_pLjava_lang_StringeACIIqZ rfl (own_same l Z a0 hw r tr ea cr ce (own_un false fs) es n 5 G1 hG SG SA SHi SLo G3 hG3 SF h269 n0 w278.old R_270 Ae_270 hnl het (by omega) (by decide)) rfl (by decide) (W := 0) (Nat.le_of_eq rfl) (by decide) (by decide) (by decide) (fun _ q => nomatch q) (pc' := 219) rfl ?_
  intro v279 T279 h279 w279 K279 q279
  obtain ⟨rfl, rfl⟩ := q279
  show Goes p e below _ T279 (mkF m 219 #[.val (.long y0), .second, .val (.long y1), .second, .val (.long y2), .second, .val (.int y3), .val (.ref fa), .val (.ref ea), .val (.int (Int32.ofNat n)), .val (.ref r)] [(.int (1 : Int32))])
  refine i_if_eq_N w279 (by decide) at_219 (pc' := 222) rfl ?_
  refine i_iconst w279 at_222 (z := (1 : Int32)) (by decide) (pc' := 223) rfl ?_
  refine i_goto w279 at_223 (pc' := 227) (by decide) ?_
  exact i_retNH (own_EW hw) w279 hS266 (Nat.le_trans (Nat.le_trans (Nat.le_trans (Nat.le_trans (Nat.le_trans (Nat.le_trans (Nat.le_trans (Nat.le_trans (Nat.le_trans (Nat.le_refl _) K269.1) K272.1) K273.1) K274.1) K275.1) K276.1) K277.1) K278.1) K279.1) C271 at_227 rfl (by simp) rfl (by decide) (by decide)
theorem own_ef_at (m : MethodId) (x0 : Int64) (x1 : Int64) (x2 : Int64) (x3 : Int32) : entryFrame m #[(.long x0), (.long x1), (.long x2), (.int x3)] maxLocals = mkF m 0 #[.val (.long x0), .second, .val (.long x1), .second, .val (.long x2), .second, .val (.int x3), .unset, .unset, .unset, .unset] [] := by
  first | (simp [entryFrame, mkF, argsToLocals, Value.category, maxLocals]; done) | rfl
set_option maxRecDepth 65536 in
set_option maxHeartbeats 40000000 in
theorem own_law (l : Launch) (Z : State) (a0 : Array Value) (hw : ∀ d ∈ tables_1, d.before a0 Z = true) (y0 y1 y2 : Int64) (y3 : Int32) (G1 : Int32) (hG : ¬ G1 = 0) (SG : Sta Z Z.heap "java/lang/String" "COMPACT_STRINGS" "Z" (.int G1)) (SA : Sta Z Z.heap "java/lang/StringUTF16" "$assertionsDisabled" "Z" (.int 1)) (SHi : Sta Z Z.heap "java/lang/StringUTF16" "HI_BYTE_SHIFT" "I" (.int 0)) (SLo : Sta Z Z.heap "java/lang/StringUTF16" "LO_BYTE_SHIFT" "I" (.int 8)) (G3 : Value) (hG3 : G3.isRef = true) (SF : Sta Z Z.heap "jdk/internal/util/Preconditions" "SIOOBE_FORMATTER" "Ljava/util/function/BiFunction;" G3) (h0 : Heap) (n0 : Nat) (O : Old Z n0 h0)  :
    CtrH consts_1 l Z n0 x code maxLocals ret tables_1 room_1 #[(.long y0), (.long y1), (.long y2), (.int y3)] h0 [] (fun v h => v = some (.int 1)) := by
  refine enterH (plainFor_of_name own_pn_com_example_millwright_millwright_TestReportUnescapePinLaw) (fun m => own_ef_at m y0 y1 y2 y3) O (fun _ q => nomatch q) ?_
  intro p e s m below meth c T w hS C0
  refine i_bipush w at_0 (z := (6 : Int32)) (by decide) (pc' := 2) rfl ?_
  refine i_newP w at_2 (hw _ (List.mem_of_getElem? (i := 0) rfl)) (N := 6) rfl (by decide) (cap := 6) (by decide) (by decide) (by decide) (by decide) (pc' := 4) rfl ?_
  intro fa T280 h280 ca_fa g_fa w280 z_fa E280 A_fa
  show Goes p e below _ T280 (mkF m 4 #[.val (.long y0), .second, .val (.long y1), .second, .val (.long y2), .second, .val (.int y3), .unset, .unset, .unset, .unset] [(.ref fa)])
  have C282 := C0.trans (CHr.ext E280 C0.1)
  have X_fa : Ary Z h280 fa ca_fa .char (chs [0, 0, 0, 0, 0, 0]) := A_fa
  refine i_astore w280 at_4 rfl (l' := #[.val (.long y0), .second, .val (.long y1), .second, .val (.long y2), .second, .val (.int y3), .val (.ref fa), .unset, .unset, .unset]) rfl (pc' := 6) rfl ?_
  refine i_bipush w280 at_6 (z := (6 : Int32)) (by decide) (pc' := 8) rfl ?_
  refine i_newP w280 at_8 (hw _ (List.mem_of_getElem? (i := 0) rfl)) (N := 6) rfl (by decide) (cap := 6) (by decide) (by decide) (by decide) (by decide) (pc' := 10) rfl ?_
  intro ea T283 h283 ca_ea g_ea w283 z_ea E283 A_ea
  show Goes p e below _ T283 (mkF m 10 #[.val (.long y0), .second, .val (.long y1), .second, .val (.long y2), .second, .val (.int y3), .val (.ref fa), .unset, .unset, .unset] [(.ref ea)])
  have lt_fa_ea : fa < ea := Nat.lt_of_lt_of_le X_fa.lt (Nat.le_of_eq g_ea.symm)
  have fa_284 := X_fa.ext E283
  have C285 := C282.trans (CHr.ext E283 C282.1)
  have X_ea : Ary Z h283 ea ca_ea .char (chs [0, 0, 0, 0, 0, 0]) := A_ea
  refine i_astore w283 at_10 rfl (l' := #[.val (.long y0), .second, .val (.long y1), .second, .val (.long y2), .second, .val (.int y3), .val (.ref fa), .val (.ref ea), .unset, .unset]) rfl (pc' := 12) rfl ?_
  refine i_iconst w283 at_12 (z := (0 : Int32)) (by decide) (pc' := 13) rfl ?_
  refine i_istore w283 at_13 (l' := #[.val (.long y0), .second, .val (.long y1), .second, .val (.long y2), .second, .val (.int y3), .val (.ref fa), .val (.ref ea), .val (.int (0 : Int32)), .unset]) rfl (pc' := 15) rfl ?_
  refine i_lloadN w283 at_15 rfl (pc' := 16) rfl ?_
  refine i_aload w283 at_16 rfl rfl (pc' := 18) rfl ?_
  refine i_iconst w283 at_18 (z := (0 : Int32)) (by decide) (pc' := 19) rfl ?_
  refine i_aload w283 at_19 rfl rfl (pc' := 21) rfl ?_
  refine i_iload w283 at_21 rfl (pc' := 23) rfl ?_
  refine c_static w283 (y := (⟨"com/example/millwright/millwright/TestReportUnescapePinLaw", "token", "(J[CI[CI)I"⟩ : MethodName)) (argsL := [(.long y0), (.ref fa), (.int (0 : Int32)), (.ref ea), (.int (0 : Int32))]) (st := []) at_23 (hw _ (List.mem_of_getElem? (i := 1) rfl)) (hw _ (List.mem_of_getElem? (i := 2) rfl)) (hw _ (List.mem_of_getElem? (i := 3) rfl)) (hw _ (List.mem_of_getElem? (i := 4) rfl)) (by decide) own_pd_pJACIACIqI rfl (own_token l Z a0 hw y0 fa ea ca_fa ca_ea 0 0 [0, 0, 0, 0, 0, 0] [0, 0, 0, 0, 0, 0] h283 n0 w283.old (Nat.le_trans w283.n0h0 z_fa) (Nat.le_trans w283.n0h0 z_ea) (Nat.ne_of_lt lt_fa_ea) fa_284 X_ea (by simp) (by decide) (by simp) (by decide)) rfl (by decide) (W := 0) (Nat.le_of_eq rfl) (by decide) (by decide) (by decide) (allS (Or.inr z_fa) (allS (Or.inr z_ea) all0)) (pc' := 26) rfl ?_
  intro v286 T286 h286 w286 K286 q286
  obtain ⟨xa, xb, ua, es1, rfl, hxa, hxb, la1, lb1, hl1, ht1, hu1, Af1, Ae1⟩ := q286
  show Goes p e below _ T286 (mkF m 26 #[.val (.long y0), .second, .val (.long y1), .second, .val (.long y2), .second, .val (.int y3), .val (.ref fa), .val (.ref ea), .val (.int (0 : Int32)), .unset] [(.int (Int32.ofNat (0 + ua.length)))])
  have C288 := C285.trans (CHr.keep K286 (sfS (Safe.arv w283.hZ.alike fa_284.2 (by decide)) (sfS (Safe.arv w283.hZ.alike X_ea.2 (by decide)) sf0)) C285.1)
  refine i_istore w286 at_26 (l' := #[.val (.long y0), .second, .val (.long y1), .second, .val (.long y2), .second, .val (.int y3), .val (.ref fa), .val (.ref ea), .val (.int (Int32.ofNat (0 + ua.length))), .unset]) rfl (pc' := 28) rfl ?_
  refine i_lloadN w286 at_28 rfl (pc' := 29) rfl ?_
  refine i_aload w286 at_29 rfl rfl (pc' := 31) rfl ?_
  refine i_iconst w286 at_31 (z := (2 : Int32)) (by decide) (pc' := 32) rfl ?_
  refine i_aload w286 at_32 rfl rfl (pc' := 34) rfl ?_
  refine i_iload w286 at_34 rfl (pc' := 36) rfl ?_
  refine c_static w286 (y := (⟨"com/example/millwright/millwright/TestReportUnescapePinLaw", "token", "(J[CI[CI)I"⟩ : MethodName)) (argsL := [(.long y1), (.ref fa), (.int (2 : Int32)), (.ref ea), (.int (Int32.ofNat (0 + ua.length)))]) (st := []) at_36 (hw _ (List.mem_of_getElem? (i := 1) rfl)) (hw _ (List.mem_of_getElem? (i := 2) rfl)) (hw _ (List.mem_of_getElem? (i := 3) rfl)) (hw _ (List.mem_of_getElem? (i := 4) rfl)) (by decide) own_pd_pJACIACIqI rfl (own_token l Z a0 hw y1 fa ea ca_fa ca_ea 2 (0 + ua.length) [xa, xb, 0, 0, 0, 0] es1 h286 n0 w286.old (Nat.le_trans w286.n0h0 z_fa) (Nat.le_trans w286.n0h0 z_ea) (Nat.ne_of_lt lt_fa_ea) Af1 Ae1 (by simp) (by rw [hl1]; simp; omega) (by simp) (by rw [hl1]; decide)) rfl (by decide) (W := 0) (Nat.le_of_eq rfl) (by decide) (by decide) (by decide) (allS (Or.inr z_fa) (allS (Or.inr z_ea) all0)) (pc' := 39) rfl ?_
  intro v289 T289 h289 w289 K289 q289
  obtain ⟨xc, xd, ub, es2, rfl, hxc, hxd, la2, lb2, hl2, ht2, hu2, Af2, Ae2⟩ := q289
  show Goes p e below _ T289 (mkF m 39 #[.val (.long y0), .second, .val (.long y1), .second, .val (.long y2), .second, .val (.int y3), .val (.ref fa), .val (.ref ea), .val (.int (Int32.ofNat (0 + ua.length))), .unset] [(.int (Int32.ofNat ((0 + ua.length) + ub.length)))])
  have C291 := C288.trans (CHr.keep K289 (sfS (Safe.arv w286.hZ.alike Af1.2 (by decide)) (sfS (Safe.arv w286.hZ.alike Ae1.2 (by decide)) sf0)) C288.1)
  refine i_istore w289 at_39 (l' := #[.val (.long y0), .second, .val (.long y1), .second, .val (.long y2), .second, .val (.int y3), .val (.ref fa), .val (.ref ea), .val (.int (Int32.ofNat ((0 + ua.length) + ub.length))), .unset]) rfl (pc' := 41) rfl ?_
  refine i_iload w289 at_41 rfl (pc' := 43) rfl ?_
  refine i_iconst w289 at_43 (z := (1 : Int32)) (by decide) (pc' := 44) rfl ?_
  refine i_iand w289 at_44 (pc' := 45) rfl ?_
  refine i_if_eq w289 at_45 (pcY := 91) (by decide) (pc' := 48) rfl (fun hc45 => ?_) (fun hc45 => ?_)
  ·
    refine i_lload w289 at_91 rfl (pc' := 93) rfl ?_
    refine i_aload w289 at_93 rfl rfl (pc' := 95) rfl ?_
    refine i_iconst w289 at_95 (z := (4 : Int32)) (by decide) (pc' := 96) rfl ?_
    refine i_aload w289 at_96 rfl rfl (pc' := 98) rfl ?_
    refine i_iload w289 at_98 rfl (pc' := 100) rfl ?_
    refine c_static w289 (y := (⟨"com/example/millwright/millwright/TestReportUnescapePinLaw", "token", "(J[CI[CI)I"⟩ : MethodName)) (argsL := [(.long y2), (.ref fa), (.int (4 : Int32)), (.ref ea), (.int (Int32.ofNat ((0 + ua.length) + ub.length)))]) (st := []) at_100 (hw _ (List.mem_of_getElem? (i := 1) rfl)) (hw _ (List.mem_of_getElem? (i := 2) rfl)) (hw _ (List.mem_of_getElem? (i := 3) rfl)) (hw _ (List.mem_of_getElem? (i := 4) rfl)) (by decide) own_pd_pJACIACIqI rfl (own_token l Z a0 hw y2 fa ea ca_fa ca_ea 4 (0 + ua.length + ub.length) [xa, xb, xc, xd, 0, 0] es2 h289 n0 w289.old (Nat.le_trans w289.n0h0 z_fa) (Nat.le_trans w289.n0h0 z_ea) (Nat.ne_of_lt lt_fa_ea) Af2 Ae2 (by simp) (by rw [hl2, hl1]; simp; omega) (by simp) (by rw [hl2, hl1]; decide)) rfl (by decide) (W := 0) (Nat.le_of_eq rfl) (by decide) (by decide) (by decide) (allS (Or.inr z_fa) (allS (Or.inr z_ea) all0)) (pc' := 103) rfl ?_
    intro v292 T292 h292 w292 K292 q292
    obtain ⟨xe, xf, uc, es3, rfl, hxe, hxf, la3, lb3, hl3, ht3, hu3, Af3, Ae3⟩ := q292
    show Goes p e below _ T292 (mkF m 103 #[.val (.long y0), .second, .val (.long y1), .second, .val (.long y2), .second, .val (.int y3), .val (.ref fa), .val (.ref ea), .val (.int (Int32.ofNat ((0 + ua.length) + ub.length))), .unset] [(.int (Int32.ofNat ((0 + ua.length + ub.length) + uc.length)))])
    have C294 := C291.trans (CHr.keep K292 (sfS (Safe.arv w289.hZ.alike Af2.2 (by decide)) (sfS (Safe.arv w289.hZ.alike Ae2.2 (by decide)) sf0)) C291.1)
    refine i_istore w292 at_103 (l' := #[.val (.long y0), .second, .val (.long y1), .second, .val (.long y2), .second, .val (.int y3), .val (.ref fa), .val (.ref ea), .val (.int (Int32.ofNat ((0 + ua.length + ub.length) + uc.length))), .unset]) rfl (pc' := 105) rfl ?_
    have hun9 : own_un false [xa, xb, xc, xd, xe, xf] = (ua ++ ub) ++ uc := by rw [hu1, hu2, hu3]; simp [own_un]
    have het9 : es3.take ((0 + ua.length + ub.length) + uc.length) = own_un false [xa, xb, xc, xd, xe, xf] := by
      rw [hun9, ht3, ht2, ht1]; simp
    have hln9 : (own_un false [xa, xb, xc, xd, xe, xf]).length = (0 + ua.length + ub.length) + uc.length := by rw [hun9]; simp; try omega
    exact own_seg l Z a0 hw y0 y1 y2 y3 fa ea ca_fa ca_ea [xa, xb, xc, xd, xe, xf] es3 ((0 + ua.length + ub.length) + uc.length) .unset G1 hG SG SA SHi SLo G3 hG3 SF h0 n0 (w292.mono (by decide) (by decide)) hS (Nat.le_trans (Nat.le_trans (Nat.le_trans (Nat.le_trans (Nat.le_trans (Nat.le_refl _) E280.1) E283.1) K286.1) K289.1) K292.1) C294 One.u Af3 Ae3 rfl (fun c hc => by simp at hc; omega) hln9 (by simp; try omega) het9
  ·
    refine i_lload w289 at_48 rfl (pc' := 50) rfl ?_
    refine i_iconst w289 at_50 (z := (2 : Int32)) (by decide) (pc' := 51) rfl ?_
    refine i_lushr w289 at_51 (pc' := 52) rfl ?_
    refine i_ldc2 w289 (hw _ (List.mem_of_getElem? (i := 6) rfl)) at_52 (pc' := 55) rfl ?_
    refine i_land w289 at_55 (pc' := 56) rfl ?_
    refine i_l2i w289 at_56 (pc' := 57) rfl ?_
    refine i_i2c w289 at_57 (pc' := 58) rfl ?_
    obtain ⟨kp, hkp, ekp⟩ := char_nat (((XT.ushrL y2 (2 : Int32)) &&& (65535 : Int64)).toInt32)
    rw [ekp]
    show Goes p e below _ T289 (mkF m 58 #[.val (.long y0), .second, .val (.long y1), .second, .val (.long y2), .second, .val (.int y3), .val (.ref fa), .val (.ref ea), .val (.int (Int32.ofNat ((0 + ua.length) + ub.length))), .unset] [(.int (Int32.ofNat kp))])
    refine c_static w289 (y := (⟨"com/example/millwright/millwright/TestReportUnescapePinLaw", "plain", "(C)C"⟩ : MethodName)) (argsL := [(.int (Int32.ofNat kp))]) (st := []) at_58 (hw _ (List.mem_of_getElem? (i := 13) rfl)) (hw _ (List.mem_of_getElem? (i := 14) rfl)) (hw _ (List.mem_of_getElem? (i := 3) rfl)) (hw _ (List.mem_of_getElem? (i := 15) rfl)) (by decide) own_pd_pCqC rfl (own_plain l Z a0 hw kp h289 n0 w289.old hkp) rfl (by decide) (W := 0) (Nat.le_of_eq rfl) (by decide) (by decide) (by decide) (fun _ q => nomatch q) (pc' := 61) rfl ?_
    intro v295 T295 h295 w295 K295 q295
    obtain ⟨xe, hxe, gxe, rfl, rfl⟩ := q295
    show Goes p e below _ T295 (mkF m 61 #[.val (.long y0), .second, .val (.long y1), .second, .val (.long y2), .second, .val (.int y3), .val (.ref fa), .val (.ref ea), .val (.int (Int32.ofNat ((0 + ua.length) + ub.length))), .unset] [(.int (Int32.ofNat xe))])
    refine i_istore w295 at_61 (l' := #[.val (.long y0), .second, .val (.long y1), .second, .val (.long y2), .second, .val (.int y3), .val (.ref fa), .val (.ref ea), .val (.int (Int32.ofNat ((0 + ua.length) + ub.length))), .val (.int (Int32.ofNat xe))]) rfl (pc' := 63) rfl ?_
    refine i_aload w295 at_63 rfl rfl (pc' := 65) rfl ?_
    refine i_iconst w295 at_65 (z := (4 : Int32)) (by decide) (pc' := 66) rfl ?_
    refine i_iload w295 at_66 rfl (pc' := 68) rfl ?_
    refine i_castore w295 at_68 Af2 (i := 4) rfl (by rw [chs_len]; simp) (Or.inr z_fa) (pc' := 69) rfl ?_
    intro T296 h296 w296 K296 B1
    show Goes p e below _ T296 (mkF m 69 #[.val (.long y0), .second, .val (.long y1), .second, .val (.long y2), .second, .val (.int y3), .val (.ref fa), .val (.ref ea), .val (.int (Int32.ofNat ((0 + ua.length) + ub.length))), .val (.int (Int32.ofNat xe))] [])
    have ea_297 := Ae2.keep K296 (ninS (Nat.ne_of_gt lt_fa_ea) nin0)
    have C298 := C291.trans (CHr.keep K296 (sfS (Safe.arv w296.hZ.alike Af2.2 (by decide)) sf0) C291.1)
    rw [own_chs_set (show xe < 65536 by omega)] at B1
    refine i_aload w296 at_69 rfl rfl (pc' := 71) rfl ?_
    refine i_iconst w296 at_71 (z := (5 : Int32)) (by decide) (pc' := 72) rfl ?_
    refine i_bipush w296 at_72 (z := (92 : Int32)) (by decide) (pc' := 74) rfl ?_
    show Goes p e below _ T296 (mkF m 74 #[.val (.long y0), .second, .val (.long y1), .second, .val (.long y2), .second, .val (.int y3), .val (.ref fa), .val (.ref ea), .val (.int (Int32.ofNat ((0 + ua.length) + ub.length))), .val (.int (Int32.ofNat xe))] [(.int (Int32.ofNat 92)), (.int (5 : Int32)), (.ref fa)])
    refine i_castore w296 at_74 B1 (i := 5) rfl (by rw [chs_len]; simp) (Or.inr z_fa) (pc' := 75) rfl ?_
    intro T299 h299 w299 K299 B2
    show Goes p e below _ T299 (mkF m 75 #[.val (.long y0), .second, .val (.long y1), .second, .val (.long y2), .second, .val (.int y3), .val (.ref fa), .val (.ref ea), .val (.int (Int32.ofNat ((0 + ua.length) + ub.length))), .val (.int (Int32.ofNat xe))] [])
    have ea_300 := ea_297.keep K299 (ninS (Nat.ne_of_gt lt_fa_ea) nin0)
    have C301 := C298.trans (CHr.keep K299 (sfS (Safe.arv w299.hZ.alike B1.2 (by decide)) sf0) C298.1)
    rw [own_chs_set (show 92 < 65536 by omega)] at B2
    refine i_aload w299 at_75 rfl rfl (pc' := 77) rfl ?_
    refine i_iload w299 at_77 rfl (pc' := 79) rfl ?_
    refine i_iload w299 at_79 rfl (pc' := 81) rfl ?_
    refine i_castore w299 at_81 ea_300 (i := (0 + ua.length + ub.length)) rfl (by rw [chs_len, hl2, hl1]; simp; omega) (Or.inr z_ea) (pc' := 82) rfl ?_
    intro T302 h302 w302 K302 B3
    show Goes p e below _ T302 (mkF m 82 #[.val (.long y0), .second, .val (.long y1), .second, .val (.long y2), .second, .val (.int y3), .val (.ref fa), .val (.ref ea), .val (.int (Int32.ofNat ((0 + ua.length) + ub.length))), .val (.int (Int32.ofNat xe))] [])
    have fa_303 := B2.keep K302 (ninS (Nat.ne_of_lt lt_fa_ea) nin0)
    have C304 := C301.trans (CHr.keep K302 (sfS (Safe.arv w302.hZ.alike ea_300.2 (by decide)) sf0) C301.1)
    rw [own_chs_set (show xe < 65536 by omega)] at B3
    refine i_iload w302 at_82 rfl (pc' := 84) rfl ?_
    refine i_iconst w302 at_84 (z := (1 : Int32)) (by decide) (pc' := 85) rfl ?_
    refine i_iadd w302 at_85 (pc' := 86) rfl ?_
    rw [own_inc]
    show Goes p e below _ T302 (mkF m 86 #[.val (.long y0), .second, .val (.long y1), .second, .val (.long y2), .second, .val (.int y3), .val (.ref fa), .val (.ref ea), .val (.int (Int32.ofNat ((0 + ua.length) + ub.length))), .val (.int (Int32.ofNat xe))] [(.int (Int32.ofNat ((0 + ua.length + ub.length) + 1)))])
    refine i_istore w302 at_86 (l' := #[.val (.long y0), .second, .val (.long y1), .second, .val (.long y2), .second, .val (.int y3), .val (.ref fa), .val (.ref ea), .val (.int (Int32.ofNat ((0 + ua.length + ub.length) + 1))), .val (.int (Int32.ofNat xe))]) rfl (pc' := 88) rfl ?_
    refine i_goto w302 at_88 (pc' := 105) (by decide) ?_
    have hun9 : own_un false [xa, xb, xc, xd, xe, 92] = (ua ++ ub) ++ [xe] := by rw [hu1, hu2, own_un_ch gxe, own_un_92]; simp [own_un]
    have het9 : (es2.set (0 + ua.length + ub.length) xe).take ((0 + ua.length + ub.length) + [xe].length) = own_un false [xa, xb, xc, xd, xe, 92] := by
      rw [hun9, show ((0 + ua.length + ub.length) + [xe].length) = (0 + ua.length + ub.length) + 1 from rfl, own_take1 (by rw [hl2, hl1]; simp; omega), ht2, ht1]; simp
    have hln9 : (own_un false [xa, xb, xc, xd, xe, 92]).length = (0 + ua.length + ub.length) + [xe].length := by rw [hun9]; simp; try omega
    exact own_seg l Z a0 hw y0 y1 y2 y3 fa ea ca_fa ca_ea [xa, xb, xc, xd, xe, 92] (es2.set (0 + ua.length + ub.length) xe) ((0 + ua.length + ub.length) + [xe].length) _ G1 hG SG SA SHi SLo G3 hG3 SF h0 n0 (w302.mono (by decide) (by decide)) hS (Nat.le_trans (Nat.le_trans (Nat.le_trans (Nat.le_trans (Nat.le_trans (Nat.le_trans (Nat.le_trans (Nat.le_trans (Nat.le_refl _) E280.1) E283.1) K286.1) K289.1) K295.1) K296.1) K299.1) K302.1) C304 (One.val rfl) fa_303 B3 rfl (fun c hc => by simp at hc; omega) hln9 (by simp; try omega) het9
set_option maxRecDepth 65536 in
set_option maxHeartbeats 40000000 in
theorem comes_1 {Post : Tables → Env → Array Value → State → Outcome → State → Prop} (hpost : ∀ tb e args s v u, (limb_1_1.after args s (.returned v) u = true ∧ limb_1_2.after args s (.returned v) u = true ∧ True) → ReturnedEndW s (.returned v) u (Jvm.fieldLocs frame_1_writes args s ++ Jvm.arrayLocs frame_1_arrays args s ++ Jvm.staticLocs frame_1_statics s) 48 1408 → Post tb e args s (.returned v) u) :
    ArmFor flags0 classFile x code maxLocals ret World_1 tables_1 room_1 Calls_1 rest_1 Pre_1 Post := by
  intro l hfl _ _ p e ha hc hk s m args below hf hA hF happ hP
  obtain ⟨hcalls, hrest, hpre⟩ := hP
  obtain ⟨-, -, -, hnamed, -, -, -, hat⟩ := (Spec.applies_iff hf).mp happ
  obtain ⟨hg, hn⟩ := and_e (Cond.before_iff.mp (show (Jvm.Cond.and given_1 narrow_1).before args s = true from hpre))
  obtain ⟨gc, g0⟩ := and_e hg
  obtain ⟨q0, g1⟩ := and_e g0
  obtain ⟨q1, g2⟩ := and_e g1
  obtain ⟨q2, g3⟩ := and_e g2
  have q3 := g3
  obtain ⟨x0, x1, x2, x3, rfl⟩ : ∃ x0 x1 x2 x3 : Value, args = #[x0, x1, x2, x3] := by
    have hs : args.size = 4 := by simpa [Cond.value, given_1] using gc
    obtain ⟨L⟩ := args
    match L, hs with
    | [x0, x1, x2, x3], _ => exact ⟨x0, x1, x2, x3, rfl⟩
  have hw := fun d (hd : d ∈ tables_1) => atoms_spec (ws := Jvm.Cond.code x code maxLocals ret :: tables_1) hat d (List.mem_cons_of_mem _ hd)
  have hfit : Fit s := fun {y c} hc i hi => by
    obtain ⟨ha, rfl⟩ := Array.getElem?_eq_some_iff.mp hc
    have q := List.all_eq_true.mp ((Array.all_eq_true_iff_forall_mem.mp hF) _ (Array.getElem_mem ha)) i (List.mem_range.mpr hi)
    simpa [Array.getElem?_eq_getElem hi] using q
  obtain ⟨hsets, hown0⟩ := atoms_of _ (rest_1_c_eq ▸ (show rest_1_c.before _ s = true from hrest))
  obtain ⟨y0, ey0⟩ := isL_v q0
  obtain rfl : x0 = (.long y0) := Option.some.inj ey0
  obtain ⟨y1, ey1⟩ := isL_v q1
  obtain rfl : x1 = (.long y1) := Option.some.inj ey1
  obtain ⟨y2, ey2⟩ := isL_v q2
  obtain rfl : x2 = (.long y2) := Option.some.inj ey2
  obtain ⟨y3, ey3⟩ := is_v q3
  obtain rfl : x3 = (.int y3) := Option.some.inj ey3
  have n2 := not_v (Cond.before_iff.mp (hsets _ (List.mem_of_getElem? (i := 2) rfl)))
  obtain ⟨G1, eG1⟩ := is_v (Cond.before_iff.mp (hsets _ (List.mem_of_getElem? (i := 1) rfl)))
  have SG : Sta s s.heap "java/lang/String" "COMPACT_STRINGS" "Z" (.int G1) := Sta.start eG1 (Or.inl (hsets _ (List.mem_of_getElem? (i := 0) rfl)))
  have hG : ¬ G1 = 0 := gotF (Cond.eq_ints eG1 (Term.int_eval (0))) n2
  obtain ⟨G3, eG3, hG3⟩ := isR_v (Cond.before_iff.mp (hsets _ (List.mem_of_getElem? (i := 8) rfl)))
  have SF : Sta s s.heap "jdk/internal/util/Preconditions" "SIOOBE_FORMATTER" "Ljava/util/function/BiFunction;" G3 := Sta.start eG3 (Or.inl (hsets _ (List.mem_of_getElem? (i := 7) rfl)))
  have SA : Sta s s.heap "java/lang/StringUTF16" "$assertionsDisabled" "Z" (.int 1) := own_sta (hsets _ (List.mem_of_getElem? (i := 12) rfl)) (hsets _ (List.mem_of_getElem? (i := 11) rfl))
  have SHi : Sta s s.heap "java/lang/StringUTF16" "HI_BYTE_SHIFT" "I" (.int 0) := own_sta (hsets _ (List.mem_of_getElem? (i := 15) rfl)) (hsets _ (List.mem_of_getElem? (i := 14) rfl))
  have SLo : Sta s s.heap "java/lang/StringUTF16" "LO_BYTE_SHIFT" "I" (.int 8) := own_sta (hsets _ (List.mem_of_getElem? (i := 18) rfl)) (hsets _ (List.mem_of_getElem? (i := 17) rfl))
  obtain ⟨n, o, h1, h2, h3, _, L, rfl, ⟨rfl, N, -⟩, -, hq⟩ := own_law l s _ hw y0 y1 y2 y3 G1 hG SG SA SHi SLo G3 hG3 SF s.heap s.heap.size (Old.start s)  p e ha hc hk s m _ below hf ((Spec.applies_iff_loose hf).mp happ).1 ⟨rfl, State.Warmed39.refl s, rfl, CHv.start (own_EW hw) hcalls.1 (hsets _ (List.mem_of_getElem? (i := 2) rfl)) (hw _ (List.mem_of_getElem? (i := 34) rfl)) (hw _ (List.mem_of_getElem? (i := 17) rfl))⟩ trivial
  refine ⟨n, _, h1, h2, h3, hpost _ _ _ _ _ _ ⟨Cond.after_iff.mpr rfl, Cond.after_iff.mpr (eq_i res_at (Term.int_eval (1)) rfl), trivial⟩ ⟨hq.1, hq.2.1, hq.2.2.1, (hq.2.2.2.sift fun y hy => Or.inr (N y hy)).mono (by decide) (by decide)⟩⟩
theorem main_1_1 : Claimed_1_1 := comes_1 fun _ _ _ _ _ _ h hF => ⟨h.1, hF⟩
theorem main_1_2 : Claimed_1_2 := comes_1 fun _ _ _ _ _ _ h hF => ⟨h.2.1, hF⟩
end Jvm.Pilot.@@N@@
namespace Jvm.Pilot.@@N@@
open Jvm Jvm.ClassFile Sem Op Lib Jvm.Free Jvm.Stand Jvm.Pilot.@@N@@.Jvm.D
/-! MADE BY PROGRAM (witnessworld.py) out of the Statement's table words and the real class files: 28 classes; the members and pool entries that the words name. The judged class is class 1, her method 1. -/
namespace start1
open Jvm.ClassFile
def u (s : String) : CpInfo := .utf8 (stringToUtf16 s)
/-- a pool by its gaps: so many unusable entries, then the entry; so many at the end -/
def gap : Nat → List CpInfo → List CpInfo
  | 0, r => r
  | n + 1, r => .unusable :: gap n r
def poolList (es : List (Nat × CpInfo)) (last : Nat) : List CpInfo := es.foldr (fun e r => gap e.1 (e.2 :: r)) (gap last [])
def pool (es : List (Nat × CpInfo)) (last : Nat) : Array CpInfo := ⟨poolList es last⟩
def fileOf (pool : Array CpInfo) (this : Nat) (attrs : Array Attribute := #[]) (ms : Array MethodInfo := #[]) (fl : Nat := 33) (sup : Nat := 0) (ifs : Array Nat := #[]) (fds : Array FieldInfo := #[]) : ClassFile where
  minorVersion := 0
  majorVersion := 65
  constantPool := pool
  accessFlags := fl
  thisClass := this
  superClass := sup
  interfaces := ifs
  fields := fds
  methods := ms
  attributes := attrs
def plain (name : String) (sup : Option ClassId) : Class where
  name := name
  kind := .ordinary
  loader := none
  accessFlags := 33
  super := sup
  interfaces := #[]
  cf := none
  fields := #[]
  methods := #[]
  instanceTypes := #[]
  staticTypes := #[]
  resolved := #[]
  callSites := []
  init := .initialized
  statics := none
  mirror := none

def pool0 : Array CpInfo := pool [(5, u "<init>"), (0, u "()V"), (1, .class_ 10), (1, u "java/lang/Object")] 113

def k0c0 : Code := { maxStack := 0, maxLocals := 1, code := object_method_1_code, exceptionTable := #[], attributes := #[] }
def k0m0 : Method := { name := "<init>", desc := "()V", sig := { parameters := [], returnType := none }, accessFlags := 1, code := some k0c0 }
/-- java/lang/Object -/
def k0 : Class := { plain "java/lang/Object" none with
  accessFlags := 33
  interfaces := #[]
  cf := some (fileOf pool0 8 #[] #[{ accessFlags := 1, nameIndex := 5, descriptorIndex := 6, attributes := #[] }] 33 0 #[] #[])
  fields := #[]
  methods := #[k0m0]
  instanceTypes := #[]
  staticTypes := #[]
  resolved := Array.replicate 124 none
  statics := none }

def pool1 : Array CpInfo := pool [(2, .class_ 4), (1, u "java/lang/Object"), (0, u "<init>"), (0, u "()V"), (0, .methodref 8 9), (0, .class_ 10), (0, .nameAndType 11 12), (0, u "com/example/millwright/millwright/TestReportUnescapePinLaw"), (0, u "token"), (0, u "(J[CI[CI)I"), (0, .long 65535), (1, .methodref 8 16), (0, .nameAndType 17 18), (0, u "plain"), (0, u "(C)C"), (0, .class_ 20), (0, u "java/lang/String"), (0, .methodref 19 22), (0, .nameAndType 5 23), (0, u "([C)V"), (0, .methodref 25 26), (0, .class_ 27), (0, .nameAndType 28 29), (0, u "com/example/millwright/millwright/TestReport"), (0, u "unescape"), (0, u "(Ljava/lang/String;)Ljava/lang/String;"), (0, .string 31), (0, u ""), (0, .methodref 19 33), (0, .nameAndType 34 35), (0, u "isEmpty"), (0, u "()Z"), (0, .methodref 19 37), (0, .nameAndType 38 39), (0, u "length"), (0, u "()I"), (0, .methodref 8 41), (0, .nameAndType 42 43), (0, u "same"), (0, u "(Ljava/lang/String;[CII)Z"), (0, .methodref 19 45), (0, .nameAndType 46 47), (0, u "charAt"), (0, u "(I)C"), (0, .long 3), (1, .methodref 8 51), (0, .nameAndType 52 47), (0, u "letter"), (0, .methodref 8 54), (0, .nameAndType 55 47), (0, u "special"), (0, .methodref 8 57), (0, .nameAndType 58 18), (0, u "meaning"), (2, u "law"), (0, u "(JJJI)Z")] 5

def k1m0 : Method := { name := "<init>", desc := "()V", sig := { parameters := [], returnType := none }, accessFlags := 1, code := none }
def k1c1 : Code := { maxStack := 6, maxLocals := 11, code := code, exceptionTable := #[], attributes := #[] }
def k1m1 : Method := { name := "law", desc := "(JJJI)Z", sig := { parameters := [.long, .long, .long, .int], returnType := some .boolean }, accessFlags := 9, code := some k1c1 }
def k1c2 : Code := { maxStack := 3, maxLocals := 4, code := method_3_code, exceptionTable := #[], attributes := #[] }
def k1m2 : Method := { name := "same", desc := "(Ljava/lang/String;[CII)Z", sig := { parameters := [(.object "java/lang/String"), (.array .char), .int, .int], returnType := some .boolean }, accessFlags := 10, code := some k1c2 }
def k1c3 : Code := { maxStack := 4, maxLocals := 11, code := method_4_code, exceptionTable := #[], attributes := #[] }
def k1m3 : Method := { name := "token", desc := "(J[CI[CI)I", sig := { parameters := [.long, (.array .char), .int, (.array .char), .int], returnType := some .int }, accessFlags := 10, code := some k1c3 }
def k1c4 : Code := { maxStack := 2, maxLocals := 1, code := method_5_code, exceptionTable := #[], attributes := #[] }
def k1m4 : Method := { name := "plain", desc := "(C)C", sig := { parameters := [.char], returnType := some .char }, accessFlags := 10, code := some k1c4 }
def k1c5 : Code := { maxStack := 2, maxLocals := 1, code := method_6_code, exceptionTable := #[], attributes := #[] }
def k1m5 : Method := { name := "letter", desc := "(I)C", sig := { parameters := [.int], returnType := some .char }, accessFlags := 10, code := some k1c5 }
def k1c6 : Code := { maxStack := 2, maxLocals := 1, code := method_7_code, exceptionTable := #[], attributes := #[] }
def k1m6 : Method := { name := "special", desc := "(I)C", sig := { parameters := [.int], returnType := some .char }, accessFlags := 10, code := some k1c6 }
def k1c7 : Code := { maxStack := 2, maxLocals := 1, code := method_8_code, exceptionTable := #[], attributes := #[] }
def k1m7 : Method := { name := "meaning", desc := "(C)C", sig := { parameters := [.char], returnType := some .char }, accessFlags := 10, code := some k1c7 }
/-- com/example/millwright/millwright/TestReportUnescapePinLaw -/
def k1 : Class := { plain "com/example/millwright/millwright/TestReportUnescapePinLaw" (some 0) with
  accessFlags := 49
  interfaces := #[]
  cf := some (fileOf pool1 8 #[] #[{ accessFlags := 1, nameIndex := 5, descriptorIndex := 6, attributes := #[] }, { accessFlags := 9, nameIndex := 61, descriptorIndex := 62, attributes := #[] }, { accessFlags := 10, nameIndex := 42, descriptorIndex := 43, attributes := #[] }, { accessFlags := 10, nameIndex := 11, descriptorIndex := 12, attributes := #[] }, { accessFlags := 10, nameIndex := 17, descriptorIndex := 18, attributes := #[] }, { accessFlags := 10, nameIndex := 52, descriptorIndex := 47, attributes := #[] }, { accessFlags := 10, nameIndex := 55, descriptorIndex := 47, attributes := #[] }, { accessFlags := 10, nameIndex := 58, descriptorIndex := 18, attributes := #[] }] 49 2 #[] #[])
  fields := #[]
  methods := #[k1m0, k1m1, k1m2, k1m3, k1m4, k1m5, k1m6, k1m7]
  instanceTypes := #[]
  staticTypes := #[]
  resolved := Array.replicate 68 none
  statics := none }

def pool2 : Array CpInfo := pool [(1, .class_ 2), (0, u "java/io/Serializable"), (0, .class_ 4), (0, u "java/lang/Object")] 2

/-- java/io/Serializable -/
def k2 : Class := { plain "java/io/Serializable" (some 0) with
  accessFlags := 1537
  interfaces := #[]
  cf := some (fileOf pool2 1 #[] #[] 1537 3 #[] #[])
  fields := #[]
  methods := #[]
  instanceTypes := #[]
  staticTypes := #[]
  resolved := Array.replicate 7 none
  statics := none }

def pool3 : Array CpInfo := pool [(1, .class_ 2), (0, u "java/lang/Comparable"), (0, .class_ 4), (0, u "java/lang/Object")] 7

/-- java/lang/Comparable -/
def k3 : Class := { plain "java/lang/Comparable" (some 0) with
  accessFlags := 1537
  interfaces := #[]
  cf := some (fileOf pool3 1 #[] #[] 1537 3 #[] #[])
  fields := #[]
  methods := #[]
  instanceTypes := #[]
  staticTypes := #[]
  resolved := Array.replicate 12 none
  statics := none }

def pool4 : Array CpInfo := pool [(2, .class_ 4), (1, u "java/lang/CharSequence"), (42, .class_ 48), (0, u "java/lang/CharSequence$1CodePointIterator"), (10, .class_ 60), (0, u "java/lang/CharSequence$1CharIterator"), (5, .class_ 67), (0, u "java/lang/Object")] 63

/-- java/lang/CharSequence -/
def k4 : Class := { plain "java/lang/CharSequence" (some 0) with
  accessFlags := 1537
  interfaces := #[]
  cf := some (fileOf pool4 2 #[.nestMembers #[47, 59]] #[] 1537 66 #[] #[])
  fields := #[]
  methods := #[]
  instanceTypes := #[]
  staticTypes := #[]
  resolved := Array.replicate 131 none
  statics := none }

def pool5 : Array CpInfo := pool [(1, .class_ 2), (0, u "java/lang/constant/Constable"), (0, .class_ 4), (0, u "java/lang/Object")] 6

/-- java/lang/constant/Constable -/
def k5 : Class := { plain "java/lang/constant/Constable" (some 0) with
  accessFlags := 1537
  interfaces := #[]
  cf := some (fileOf pool5 1 #[] #[] 1537 3 #[] #[])
  fields := #[]
  methods := #[]
  instanceTypes := #[]
  staticTypes := #[]
  resolved := Array.replicate 11 none
  statics := none }

def pool6 : Array CpInfo := pool [(1, .class_ 2), (0, u "java/lang/constant/ConstantDesc"), (0, .class_ 4), (0, u "java/lang/Object")] 32

/-- java/lang/constant/ConstantDesc -/
def k6 : Class := { plain "java/lang/constant/ConstantDesc" (some 0) with
  accessFlags := 1537
  interfaces := #[]
  cf := some (fileOf pool6 1 #[] #[] 1537 3 #[] #[])
  fields := #[]
  methods := #[]
  instanceTypes := #[]
  staticTypes := #[]
  resolved := Array.replicate 37 none
  statics := none }

def pool7 : Array CpInfo := pool [(1, .methodref 2 3), (0, .class_ 4), (0, .nameAndType 5 6), (0, u "java/lang/Object"), (0, u "<init>"), (0, u "()V"), (2, .fieldref 10 11), (0, .class_ 12), (0, .nameAndType 13 14), (0, u "java/lang/String"), (0, u "value"), (0, u "[B"), (0, .fieldref 10 16), (0, .nameAndType 17 18), (0, u "coder"), (0, u "B"), (2, u "hash"), (0, u "I"), (2, u "hashIsZero"), (0, u "Z"), (0, .methodref 10 28), (0, .nameAndType 5 29), (0, u "([CIILjava/lang/Void;)V"), (6, u "checkBoundsOffCount"), (0, u "(III)I"), (0, .fieldref 10 39), (0, .nameAndType 40 26), (0, u "COMPACT_STRINGS"), (1, .class_ 44), (1, u "java/lang/StringUTF16"), (0, u "compress"), (1, .methodref 42 48), (0, .nameAndType 49 50), (0, u "coderFromArrayLen"), (0, u "([BI)B"), (3, .methodref 55 56), (0, .class_ 57), (0, .nameAndType 58 59), (0, u "java/util/Arrays"), (0, u "copyOfRange"), (0, u "([BII)[B"), (47, .class_ 109), (1, u "java/lang/StringLatin1"), (32, u "()Z"), (34, .methodref 42 178), (0, .nameAndType 45 179), (0, u "([CII)[B"), (119, .methodref 107 300), (0, .nameAndType 301 302), (0, u "toChars"), (0, u "([B)[C"), (0, .methodref 42 300), (30, u "()I"), (0, .methodref 10 336), (0, .nameAndType 17 337), (0, u "()B"), (2, u "()[B"), (22, u "([BI)C"), (27, u "(II)V"), (35, u "(I)C"), (61, .methodref 10 490), (0, .nameAndType 5 491), (0, u "(Ljava/lang/AbstractStringBuilder;Ljava/lang/Void;)V"), (0, .methodref 10 493), (0, .nameAndType 494 142), (0, u "isLatin1"), (0, .methodref 107 496), (0, .nameAndType 497 363), (0, u "charAt"), (0, .methodref 42 496), (2, u "checkIndex"), (4, .nameAndType 507 334), (0, u "length"), (41, .methodref 550 506), (0, .class_ 551), (0, u "java/lang/AbstractStringBuilder"), (0, .methodref 550 553), (0, .nameAndType 554 340), (0, u "getValue"), (20, .class_ 576), (0, u "java/lang/CharSequence"), (22, u "CASE_INSENSITIVE_ORDER"), (0, u "Ljava/util/Comparator;"), (91, u "isEmpty"), (262, u "toCharArray"), (0, u "()[C"), (53, u "([C)V"), (36, .methodref 550 493), (0, .fieldref 550 1049), (0, .nameAndType 1050 26), (0, u "maybeLatin1"), (2, .fieldref 1054 1055), (0, .class_ 1056), (0, .nameAndType 1057 1058), (0, u "jdk/internal/util/Preconditions"), (0, u "SIOOBE_FORMATTER"), (0, u "Ljava/util/function/BiFunction;"), (0, .methodref 1054 1060), (0, .nameAndType 501 1061), (0, u "(IILjava/util/function/BiFunction;)I"), (2, u "(IIILjava/util/function/BiFunction;)I"), (0, .methodref 1054 1066), (0, .nameAndType 1067 1064), (0, u "checkFromIndexSize"), (33, u "serialPersistentFields"), (0, u "[Ljava/io/ObjectStreamField;"), (0, .class_ 1104), (0, u "java/lang/String$CaseInsensitiveComparator"), (1, .class_ 1107), (0, u "java/io/Serializable"), (0, .class_ 1109), (0, u "java/lang/Comparable"), (0, .class_ 1111), (0, u "java/lang/constant/Constable"), (0, .class_ 1113), (0, u "java/lang/constant/ConstantDesc"), (2, u "serialVersionUID"), (0, u "J"), (3, u "REPL"), (0, u "C"), (2, u "LATIN1"), (1, u "UTF16"), (105, u "(Ljava/lang/StringBuilder;)V")] 217

def k7m0 : Method := { name := "<init>", desc := "()V", sig := { parameters := [], returnType := none }, accessFlags := 1, code := none }
def k7c1 : Code := { maxStack := 5, maxLocals := 2, code := jdk_42_method_3_code, exceptionTable := #[], attributes := #[] }
def k7m1 : Method := { name := "<init>", desc := "([C)V", sig := { parameters := [(.array .char)], returnType := none }, accessFlags := 1, code := some k7c1 }
def k7c2 : Code := { maxStack := 3, maxLocals := 2, code := jdk_42_method_53_code, exceptionTable := #[], attributes := #[] }
def k7m2 : Method := { name := "<init>", desc := "(Ljava/lang/StringBuilder;)V", sig := { parameters := [(.object "java/lang/StringBuilder")], returnType := none }, accessFlags := 1, code := some k7c2 }
def k7c3 : Code := { maxStack := 2, maxLocals := 1, code := jdk_42_method_54_code, exceptionTable := #[], attributes := #[] }
def k7m3 : Method := { name := "length", desc := "()I", sig := { parameters := [], returnType := some .int }, accessFlags := 1, code := some k7c3 }
def k7c4 : Code := { maxStack := 1, maxLocals := 1, code := jdk_42_method_55_code, exceptionTable := #[], attributes := #[] }
def k7m4 : Method := { name := "isEmpty", desc := "()Z", sig := { parameters := [], returnType := some .boolean }, accessFlags := 1, code := some k7c4 }
def k7c5 : Code := { maxStack := 2, maxLocals := 2, code := jdk_42_method_56_code, exceptionTable := #[], attributes := #[] }
def k7m5 : Method := { name := "charAt", desc := "(I)C", sig := { parameters := [.int], returnType := some .char }, accessFlags := 1, code := some k7c5 }
def k7c6 : Code := { maxStack := 1, maxLocals := 1, code := jdk_42_method_129_code, exceptionTable := #[], attributes := #[] }
def k7m6 : Method := { name := "toCharArray", desc := "()[C", sig := { parameters := [], returnType := some (.array .char) }, accessFlags := 1, code := some k7c6 }
def k7c7 : Code := { maxStack := 4, maxLocals := 6, code := jdk_42_method_149_code, exceptionTable := #[], attributes := #[] }
def k7m7 : Method := { name := "<init>", desc := "([CIILjava/lang/Void;)V", sig := { parameters := [(.array .char), .int, .int, (.object "java/lang/Void")], returnType := none }, accessFlags := 2, code := some k7c7 }
def k7c8 : Code := { maxStack := 5, maxLocals := 5, code := jdk_42_method_150_code, exceptionTable := #[], attributes := #[] }
def k7m8 : Method := { name := "<init>", desc := "(Ljava/lang/AbstractStringBuilder;Ljava/lang/Void;)V", sig := { parameters := [(.object "java/lang/AbstractStringBuilder"), (.object "java/lang/Void")], returnType := none }, accessFlags := 0, code := some k7c8 }
def k7c9 : Code := { maxStack := 1, maxLocals := 1, code := jdk_42_method_152_code, exceptionTable := #[], attributes := #[] }
def k7m9 : Method := { name := "coder", desc := "()B", sig := { parameters := [], returnType := some .byte }, accessFlags := 0, code := some k7c9 }
def k7c10 : Code := { maxStack := 1, maxLocals := 1, code := jdk_42_method_154_code, exceptionTable := #[], attributes := #[] }
def k7m10 : Method := { name := "isLatin1", desc := "()Z", sig := { parameters := [], returnType := some .boolean }, accessFlags := 0, code := some k7c10 }
def k7c11 : Code := { maxStack := 3, maxLocals := 2, code := jdk_42_method_155_code, exceptionTable := #[], attributes := #[] }
def k7m11 : Method := { name := "checkIndex", desc := "(II)V", sig := { parameters := [.int, .int], returnType := none }, accessFlags := 8, code := some k7c11 }
def k7c12 : Code := { maxStack := 4, maxLocals := 3, code := jdk_42_method_157_code, exceptionTable := #[], attributes := #[] }
def k7m12 : Method := { name := "checkBoundsOffCount", desc := "(III)I", sig := { parameters := [.int, .int, .int], returnType := some .int }, accessFlags := 8, code := some k7c12 }
/-- java/lang/String -/
def k7 : Class := { plain "java/lang/String" (some 0) with
  accessFlags := 49
  interfaces := #[2, 3, 4, 5, 6]
  cf := some (fileOf pool7 10 #[.nestMembers #[1103]] #[{ accessFlags := 1, nameIndex := 5, descriptorIndex := 6, attributes := #[] }, { accessFlags := 1, nameIndex := 5, descriptorIndex := 1010, attributes := #[] }, { accessFlags := 1, nameIndex := 5, descriptorIndex := 1233, attributes := #[] }, { accessFlags := 1, nameIndex := 507, descriptorIndex := 334, attributes := #[] }, { accessFlags := 1, nameIndex := 692, descriptorIndex := 142, attributes := #[] }, { accessFlags := 1, nameIndex := 497, descriptorIndex := 427, attributes := #[] }, { accessFlags := 1, nameIndex := 955, descriptorIndex := 956, attributes := #[] }, { accessFlags := 2, nameIndex := 5, descriptorIndex := 29, attributes := #[] }, { accessFlags := 0, nameIndex := 5, descriptorIndex := 491, attributes := #[] }, { accessFlags := 0, nameIndex := 17, descriptorIndex := 337, attributes := #[] }, { accessFlags := 0, nameIndex := 494, descriptorIndex := 142, attributes := #[] }, { accessFlags := 8, nameIndex := 501, descriptorIndex := 391, attributes := #[] }, { accessFlags := 8, nameIndex := 36, descriptorIndex := 37, attributes := #[] }] 49 2 #[1106, 1108, 575, 1110, 1112] #[{ accessFlags := 18, nameIndex := 13, descriptorIndex := 14, attributes := #[] }, { accessFlags := 18, nameIndex := 17, descriptorIndex := 18, attributes := #[] }, { accessFlags := 2, nameIndex := 21, descriptorIndex := 22, attributes := #[] }, { accessFlags := 2, nameIndex := 25, descriptorIndex := 26, attributes := #[] }, { accessFlags := 26, nameIndex := 1116, descriptorIndex := 1117, attributes := #[] }, { accessFlags := 24, nameIndex := 40, descriptorIndex := 26, attributes := #[] }, { accessFlags := 26, nameIndex := 1101, descriptorIndex := 1102, attributes := #[] }, { accessFlags := 26, nameIndex := 1121, descriptorIndex := 1122, attributes := #[] }, { accessFlags := 25, nameIndex := 599, descriptorIndex := 600, attributes := #[] }, { accessFlags := 24, nameIndex := 1125, descriptorIndex := 18, attributes := #[] }, { accessFlags := 24, nameIndex := 1127, descriptorIndex := 18, attributes := #[] }])
  fields := #[{ name := "value", type := (.array .byte), accessFlags := 18, slot := 0, constantValue := 0 }, { name := "coder", type := .byte, accessFlags := 18, slot := 1, constantValue := 0 }, { name := "hash", type := .int, accessFlags := 2, slot := 2, constantValue := 0 }, { name := "hashIsZero", type := .boolean, accessFlags := 2, slot := 3, constantValue := 0 }, { name := "serialVersionUID", type := .long, accessFlags := 26, slot := 0, constantValue := 0 }, { name := "COMPACT_STRINGS", type := .boolean, accessFlags := 24, slot := 1, constantValue := 0 }, { name := "serialPersistentFields", type := (.array (.object "java/io/ObjectStreamField")), accessFlags := 26, slot := 2, constantValue := 0 }, { name := "REPL", type := .char, accessFlags := 26, slot := 3, constantValue := 0 }, { name := "CASE_INSENSITIVE_ORDER", type := (.object "java/util/Comparator"), accessFlags := 25, slot := 4, constantValue := 0 }, { name := "LATIN1", type := .byte, accessFlags := 24, slot := 5, constantValue := 0 }, { name := "UTF16", type := .byte, accessFlags := 24, slot := 6, constantValue := 0 }]
  methods := #[k7m0, k7m1, k7m2, k7m3, k7m4, k7m5, k7m6, k7m7, k7m8, k7m9, k7m10, k7m11, k7m12]
  instanceTypes := #[(.array .byte), .byte, .int, .boolean]
  staticTypes := #[.long, .boolean, (.array (.object "java/io/ObjectStreamField")), .char, (.object "java/util/Comparator"), .byte, .byte]
  resolved := Array.replicate 1451 none
  statics := some 0 }

def pool8 : Array CpInfo := pool [(3, .class_ 4), (0, u "java/lang/String"), (1, .class_ 8), (1, u "java/lang/Object"), (0, u "<init>"), (0, u "()V"), (0, .methodref 12 13), (0, .class_ 14), (0, .nameAndType 15 16), (0, u "java/lang/StringUTF16"), (0, u "newBytesLength"), (0, u "(I)I"), (3, .integer 1073741823), (23, .fieldref 12 45), (0, .nameAndType 46 47), (0, u "$assertionsDisabled"), (0, u "Z"), (0, .methodref 12 49), (0, .nameAndType 50 51), (0, u "length"), (0, u "([B)I"), (7, .fieldref 12 60), (0, .nameAndType 61 62), (0, u "HI_BYTE_SHIFT"), (0, u "I"), (0, .fieldref 12 64), (0, .nameAndType 65 62), (0, u "LO_BYTE_SHIFT"), (1, .methodref 12 68), (0, .nameAndType 69 70), (0, u "checkIndex"), (0, u "(I[B)V"), (0, .methodref 12 72), (0, .nameAndType 73 74), (0, u "getChar"), (0, u "([BI)C"), (24, u "(II[B)V"), (3, .methodref 12 104), (0, .nameAndType 105 106), (0, u "getChars"), (0, u "([BII[CI)V"), (0, .methodref 12 108), (0, .nameAndType 109 110), (0, u "newBytesFor"), (0, u "(I)[B"), (0, .methodref 12 112), (0, .nameAndType 113 114), (0, u "putChar"), (0, u "([BII)V"), (0, .methodref 12 116), (0, .nameAndType 117 118), (0, u "compress"), (0, u "([CI[BII)I"), (0, .methodref 12 120), (0, .nameAndType 121 122), (0, u "toBytes"), (0, u "([CII)[B"), (17, u "inflate"), (0, u "([BI[BII)V"), (31, .methodref 12 174), (0, .nameAndType 175 99), (0, u "checkBoundsOffCount"), (85, u "coderFromArrayLen"), (0, u "([BI)B"), (18, u "(III)I"), (60, u "toChars"), (26, .class_ 371), (1, u "java/lang/StringUTF16$LinesSpliterator"), (20, u "charAt"), (21, .methodref 3 415), (0, .nameAndType 69 416), (0, u "(II)V"), (2, .methodref 3 420), (0, .nameAndType 175 281), (9, u "MAX_LENGTH"), (23, u "([B)[C"), (131, u "putCharSB"), (40, .class_ 628), (0, u "java/lang/StringUTF16$CodePointsSpliterator"), (0, .class_ 630), (0, u "java/lang/StringUTF16$CharsSpliterator")] 4

def k8m0 : Method := { name := "<init>", desc := "()V", sig := { parameters := [], returnType := none }, accessFlags := 0, code := none }
def k8c1 : Code := { maxStack := 1, maxLocals := 1, code := jdk_52_method_2_code, exceptionTable := #[], attributes := #[] }
def k8m1 : Method := { name := "newBytesFor", desc := "(I)[B", sig := { parameters := [.int], returnType := some (.array .byte) }, accessFlags := 9, code := some k8c1 }
def k8c2 : Code := { maxStack := 4, maxLocals := 1, code := jdk_52_method_3_code, exceptionTable := #[], attributes := #[] }
def k8m2 : Method := { name := "newBytesLength", desc := "(I)I", sig := { parameters := [.int], returnType := some .int }, accessFlags := 9, code := some k8c2 }
def k8c3 : Code := { maxStack := 4, maxLocals := 3, code := jdk_52_method_4_code, exceptionTable := #[], attributes := #[] }
def k8m3 : Method := { name := "putChar", desc := "([BII)V", sig := { parameters := [(.array .byte), .int, .int], returnType := none }, accessFlags := 8, code := some k8c3 }
def k8c4 : Code := { maxStack := 3, maxLocals := 2, code := jdk_52_method_5_code, exceptionTable := #[], attributes := #[] }
def k8m4 : Method := { name := "getChar", desc := "([BI)C", sig := { parameters := [(.array .byte), .int], returnType := some .char }, accessFlags := 8, code := some k8c4 }
def k8c5 : Code := { maxStack := 2, maxLocals := 1, code := jdk_52_method_6_code, exceptionTable := #[], attributes := #[] }
def k8m5 : Method := { name := "length", desc := "([B)I", sig := { parameters := [(.array .byte)], returnType := some .int }, accessFlags := 9, code := some k8c5 }
def k8c6 : Code := { maxStack := 5, maxLocals := 2, code := jdk_52_method_13_code, exceptionTable := #[], attributes := #[] }
def k8m6 : Method := { name := "toChars", desc := "([B)[C", sig := { parameters := [(.array .byte)], returnType := some (.array .char) }, accessFlags := 9, code := some k8c6 }
def k8c7 : Code := { maxStack := 4, maxLocals := 5, code := jdk_52_method_14_code, exceptionTable := #[], attributes := #[] }
def k8m7 : Method := { name := "toBytes", desc := "([CII)[B", sig := { parameters := [(.array .char), .int, .int], returnType := some (.array .byte) }, accessFlags := 9, code := some k8c7 }
def k8c8 : Code := { maxStack := 2, maxLocals := 2, code := jdk_52_method_15_code, exceptionTable := #[], attributes := #[] }
def k8m8 : Method := { name := "coderFromArrayLen", desc := "([BI)B", sig := { parameters := [(.array .byte), .int], returnType := some .byte }, accessFlags := 8, code := some k8c8 }
def k8c9 : Code := { maxStack := 5, maxLocals := 6, code := jdk_52_method_16_code, exceptionTable := #[], attributes := #[] }
def k8m9 : Method := { name := "compress", desc := "([CII)[B", sig := { parameters := [(.array .char), .int, .int], returnType := some (.array .byte) }, accessFlags := 9, code := some k8c9 }
def k8c10 : Code := { maxStack := 3, maxLocals := 7, code := jdk_52_method_21_code, exceptionTable := #[], attributes := #[] }
def k8m10 : Method := { name := "compress", desc := "([CI[BII)I", sig := { parameters := [(.array .char), .int, (.array .byte), .int, .int], returnType := some .int }, accessFlags := 9, code := some k8c10 }
def k8c11 : Code := { maxStack := 4, maxLocals := 6, code := jdk_52_method_26_code, exceptionTable := #[], attributes := #[] }
def k8m11 : Method := { name := "getChars", desc := "([BII[CI)V", sig := { parameters := [(.array .byte), .int, .int, (.array .char), .int], returnType := none }, accessFlags := 9, code := some k8c11 }
def k8c12 : Code := { maxStack := 3, maxLocals := 3, code := jdk_52_method_71_code, exceptionTable := #[], attributes := #[] }
def k8m12 : Method := { name := "putCharSB", desc := "([BII)V", sig := { parameters := [(.array .byte), .int, .int], returnType := none }, accessFlags := 9, code := some k8c12 }
def k8c13 : Code := { maxStack := 2, maxLocals := 2, code := jdk_52_method_83_code, exceptionTable := #[], attributes := #[] }
def k8m13 : Method := { name := "charAt", desc := "([BI)C", sig := { parameters := [(.array .byte), .int], returnType := some .char }, accessFlags := 9, code := some k8c13 }
def k8c14 : Code := { maxStack := 4, maxLocals := 6, code := jdk_52_method_86_code, exceptionTable := #[], attributes := #[] }
def k8m14 : Method := { name := "inflate", desc := "([BI[BII)V", sig := { parameters := [(.array .byte), .int, (.array .byte), .int, .int], returnType := none }, accessFlags := 9, code := some k8c14 }
def k8c15 : Code := { maxStack := 2, maxLocals := 2, code := jdk_52_method_91_code, exceptionTable := #[], attributes := #[] }
def k8m15 : Method := { name := "checkIndex", desc := "(I[B)V", sig := { parameters := [.int, (.array .byte)], returnType := none }, accessFlags := 9, code := some k8c15 }
def k8c16 : Code := { maxStack := 3, maxLocals := 3, code := jdk_52_method_94_code, exceptionTable := #[], attributes := #[] }
def k8m16 : Method := { name := "checkBoundsOffCount", desc := "(II[B)V", sig := { parameters := [.int, .int, (.array .byte)], returnType := none }, accessFlags := 9, code := some k8c16 }
/-- java/lang/StringUTF16 -/
def k8 : Class := { plain "java/lang/StringUTF16" (some 0) with
  accessFlags := 48
  interfaces := #[]
  cf := some (fileOf pool8 12 #[.nestMembers #[627, 629, 369]] #[{ accessFlags := 0, nameIndex := 9, descriptorIndex := 10, attributes := #[] }, { accessFlags := 9, nameIndex := 109, descriptorIndex := 110, attributes := #[] }, { accessFlags := 9, nameIndex := 15, descriptorIndex := 16, attributes := #[] }, { accessFlags := 8, nameIndex := 113, descriptorIndex := 114, attributes := #[] }, { accessFlags := 8, nameIndex := 73, descriptorIndex := 74, attributes := #[] }, { accessFlags := 9, nameIndex := 50, descriptorIndex := 51, attributes := #[] }, { accessFlags := 9, nameIndex := 342, descriptorIndex := 454, attributes := #[] }, { accessFlags := 9, nameIndex := 121, descriptorIndex := 122, attributes := #[] }, { accessFlags := 8, nameIndex := 261, descriptorIndex := 262, attributes := #[] }, { accessFlags := 9, nameIndex := 117, descriptorIndex := 122, attributes := #[] }, { accessFlags := 9, nameIndex := 117, descriptorIndex := 118, attributes := #[] }, { accessFlags := 9, nameIndex := 105, descriptorIndex := 106, attributes := #[] }, { accessFlags := 9, nameIndex := 586, descriptorIndex := 114, attributes := #[] }, { accessFlags := 9, nameIndex := 392, descriptorIndex := 74, attributes := #[] }, { accessFlags := 9, nameIndex := 140, descriptorIndex := 141, attributes := #[] }, { accessFlags := 9, nameIndex := 69, descriptorIndex := 70, attributes := #[] }, { accessFlags := 9, nameIndex := 175, descriptorIndex := 99, attributes := #[] }] 48 6 #[] #[{ accessFlags := 26, nameIndex := 61, descriptorIndex := 62, attributes := #[] }, { accessFlags := 26, nameIndex := 65, descriptorIndex := 62, attributes := #[] }, { accessFlags := 24, nameIndex := 430, descriptorIndex := 62, attributes := #[] }, { accessFlags := 4120, nameIndex := 46, descriptorIndex := 47, attributes := #[] }])
  fields := #[{ name := "HI_BYTE_SHIFT", type := .int, accessFlags := 26, slot := 0, constantValue := 0 }, { name := "LO_BYTE_SHIFT", type := .int, accessFlags := 26, slot := 1, constantValue := 0 }, { name := "MAX_LENGTH", type := .int, accessFlags := 24, slot := 2, constantValue := 0 }, { name := "$assertionsDisabled", type := .boolean, accessFlags := 4120, slot := 3, constantValue := 0 }]
  methods := #[k8m0, k8m1, k8m2, k8m3, k8m4, k8m5, k8m6, k8m7, k8m8, k8m9, k8m10, k8m11, k8m12, k8m13, k8m14, k8m15, k8m16]
  instanceTypes := #[]
  staticTypes := #[.int, .int, .int, .boolean]
  resolved := Array.replicate 635 none
  statics := some 1 }

def pool9 : Array CpInfo := pool [(1, .class_ 2), (0, u "java/lang/AutoCloseable"), (0, .class_ 4), (0, u "java/lang/Object")] 7

/-- java/lang/AutoCloseable -/
def k9 : Class := { plain "java/lang/AutoCloseable" (some 0) with
  accessFlags := 1537
  interfaces := #[]
  cf := some (fileOf pool9 1 #[] #[] 1537 3 #[] #[])
  fields := #[]
  methods := #[]
  instanceTypes := #[]
  staticTypes := #[]
  resolved := Array.replicate 12 none
  statics := none }

def pool10 : Array CpInfo := pool [(1, .class_ 2), (0, u "java/io/Closeable"), (0, .class_ 4), (0, u "java/lang/Object"), (0, .class_ 6), (0, u "java/lang/AutoCloseable")] 7

/-- java/io/Closeable -/
def k10 : Class := { plain "java/io/Closeable" (some 0) with
  accessFlags := 1537
  interfaces := #[9]
  cf := some (fileOf pool10 1 #[] #[] 1537 3 #[5] #[])
  fields := #[]
  methods := #[]
  instanceTypes := #[]
  staticTypes := #[]
  resolved := Array.replicate 14 none
  statics := none }

def pool11 : Array CpInfo := pool [(2, .class_ 4), (0, .nameAndType 5 6), (0, u "java/lang/Object"), (0, u "<init>"), (0, u "()V"), (15, .class_ 24), (1, u "com/example/millwright/millwright/TestReport"), (0, u "out"), (0, u "Ljava/io/Writer;"), (0, .class_ 28), (0, u "java/lang/String"), (34, .nameAndType 65 66), (1, u "toString"), (0, u "()Ljava/lang/String;"), (19, u "(Ljava/lang/String;)Ljava/lang/String;"), (54, .class_ 142), (0, u "java/lang/StringBuilder"), (0, .methodref 141 3), (0, .methodref 27 145), (0, .nameAndType 146 147), (0, u "toCharArray"), (0, u "()[C"), (0, .methodref 141 149), (0, .nameAndType 150 151), (0, u "append"), (0, u "(C)Ljava/lang/StringBuilder;"), (0, .methodref 141 63), (23, .class_ 177), (0, u "java/io/Closeable"), (0, u "STARTED"), (0, u "Ljava/lang/String;"), (1, u "PASSED"), (0, u "FAILED"), (0, u "ERROR"), (0, u "SKIPPED"), (0, u "STOPPED"), (0, u "DONE"), (10, u "unescape")] 23

def k11c0 : Code := { maxStack := 2, maxLocals := 8, code := prog_18_method_12_code, exceptionTable := #[], attributes := #[] }
def k11m0 : Method := { name := "unescape", desc := "(Ljava/lang/String;)Ljava/lang/String;", sig := { parameters := [(.object "java/lang/String")], returnType := some (.object "java/lang/String") }, accessFlags := 8, code := some k11c0 }
/-- com/example/millwright/millwright/TestReport -/
def k11 : Class := { plain "com/example/millwright/millwright/TestReport" (some 0) with
  accessFlags := 48
  interfaces := #[10]
  cf := some (fileOf pool11 22 #[] #[{ accessFlags := 8, nameIndex := 197, descriptorIndex := 86, attributes := #[] }] 48 2 #[176] #[{ accessFlags := 24, nameIndex := 178, descriptorIndex := 179, attributes := #[] }, { accessFlags := 24, nameIndex := 181, descriptorIndex := 179, attributes := #[] }, { accessFlags := 24, nameIndex := 182, descriptorIndex := 179, attributes := #[] }, { accessFlags := 24, nameIndex := 183, descriptorIndex := 179, attributes := #[] }, { accessFlags := 24, nameIndex := 184, descriptorIndex := 179, attributes := #[] }, { accessFlags := 24, nameIndex := 185, descriptorIndex := 179, attributes := #[] }, { accessFlags := 24, nameIndex := 186, descriptorIndex := 179, attributes := #[] }, { accessFlags := 18, nameIndex := 25, descriptorIndex := 26, attributes := #[] }])
  fields := #[{ name := "STARTED", type := (.object "java/lang/String"), accessFlags := 24, slot := 0, constantValue := 0 }, { name := "PASSED", type := (.object "java/lang/String"), accessFlags := 24, slot := 1, constantValue := 0 }, { name := "FAILED", type := (.object "java/lang/String"), accessFlags := 24, slot := 2, constantValue := 0 }, { name := "ERROR", type := (.object "java/lang/String"), accessFlags := 24, slot := 3, constantValue := 0 }, { name := "SKIPPED", type := (.object "java/lang/String"), accessFlags := 24, slot := 4, constantValue := 0 }, { name := "STOPPED", type := (.object "java/lang/String"), accessFlags := 24, slot := 5, constantValue := 0 }, { name := "DONE", type := (.object "java/lang/String"), accessFlags := 24, slot := 6, constantValue := 0 }, { name := "out", type := (.object "java/io/Writer"), accessFlags := 18, slot := 0, constantValue := 0 }]
  methods := #[k11m0]
  instanceTypes := #[(.object "java/io/Writer")]
  staticTypes := #[(.object "java/lang/String"), (.object "java/lang/String"), (.object "java/lang/String"), (.object "java/lang/String"), (.object "java/lang/String"), (.object "java/lang/String"), (.object "java/lang/String")]
  resolved := Array.replicate 221 none
  statics := none }

def pool12 : Array CpInfo := pool [(1, .class_ 2), (0, u "java/lang/Appendable"), (0, .class_ 4), (0, u "java/lang/Object")] 9

/-- java/lang/Appendable -/
def k12 : Class := { plain "java/lang/Appendable" (some 0) with
  accessFlags := 1537
  interfaces := #[]
  cf := some (fileOf pool12 1 #[] #[] 1537 3 #[] #[])
  fields := #[]
  methods := #[]
  instanceTypes := #[]
  staticTypes := #[]
  resolved := Array.replicate 14 none
  statics := none }

def pool13 : Array CpInfo := pool [(1, .class_ 2), (0, u "java/lang/String"), (0, .methodref 4 5), (0, .class_ 6), (0, .nameAndType 7 8), (0, u "java/lang/Object"), (0, u "<init>"), (0, u "()V"), (1, .class_ 12), (1, u "java/lang/AbstractStringBuilder"), (0, u "EMPTYVALUE"), (0, u "[B"), (0, .fieldref 10 16), (0, .nameAndType 17 14), (0, u "value"), (0, .fieldref 1 19), (0, .nameAndType 20 21), (0, u "COMPACT_STRINGS"), (0, u "Z"), (0, .fieldref 10 23), (0, .nameAndType 24 25), (0, u "coder"), (0, u "B"), (0, .methodref 27 28), (0, .class_ 29), (0, .nameAndType 30 31), (0, u "java/lang/StringUTF16"), (0, u "newBytesFor"), (0, u "(I)[B"), (2, u "length"), (0, u "()I"), (9, u "append"), (2, .class_ 49), (0, u "java/lang/CharSequence"), (25, u "maybeLatin1"), (3, .fieldref 10 80), (0, .nameAndType 81 82), (0, u "count"), (0, u "I"), (0, .methodref 10 84), (0, .nameAndType 85 86), (0, u "isLatin1"), (0, u "()Z"), (1, .class_ 90), (1, u "java/lang/StringLatin1"), (9, .methodref 10 101), (0, .nameAndType 102 103), (0, u "ensureCapacityInternal"), (0, u "(I)V"), (21, .methodref 88 126), (0, .nameAndType 127 128), (0, u "inflate"), (0, u "([BI[BII)V"), (7, u "([BII)V"), (54, .methodref 88 192), (0, .nameAndType 193 194), (0, u "canEncode"), (0, u "(C)Z"), (0, .methodref 10 196), (0, .nameAndType 127 8), (0, .methodref 27 198), (0, .nameAndType 199 136), (0, u "putCharSB"), (92, u "(C)Ljava/lang/AbstractStringBuilder;"), (110, u "()[B"), (40, .class_ 445), (0, u "java/lang/Appendable"), (106, u "getValue")] 56

def k13m0 : Method := { name := "<init>", desc := "()V", sig := { parameters := [], returnType := none }, accessFlags := 0, code := none }
def k13c1 : Code := { maxStack := 2, maxLocals := 2, code := jdk_68_method_2_code, exceptionTable := #[], attributes := #[] }
def k13m1 : Method := { name := "<init>", desc := "(I)V", sig := { parameters := [.int], returnType := none }, accessFlags := 0, code := some k13c1 }
def k13c2 : Code := { maxStack := 1, maxLocals := 1, code := jdk_68_method_6_code, exceptionTable := #[], attributes := #[] }
def k13m2 : Method := { name := "length", desc := "()I", sig := { parameters := [], returnType := some .int }, accessFlags := 1, code := some k13c2 }
def k13c3 : Code := { maxStack := 4, maxLocals := 3, code := jdk_68_method_9_code, exceptionTable := #[], attributes := #[] }
def k13m3 : Method := { name := "ensureCapacityInternal", desc := "(I)V", sig := { parameters := [.int], returnType := none }, accessFlags := 2, code := some k13c3 }
def k13c4 : Code := { maxStack := 5, maxLocals := 2, code := jdk_68_method_11_code, exceptionTable := #[], attributes := #[] }
def k13m4 : Method := { name := "inflate", desc := "()V", sig := { parameters := [], returnType := none }, accessFlags := 2, code := some k13c4 }
def k13c5 : Code := { maxStack := 5, maxLocals := 2, code := jdk_68_method_31_code, exceptionTable := #[], attributes := #[] }
def k13m5 : Method := { name := "append", desc := "(C)Ljava/lang/AbstractStringBuilder;", sig := { parameters := [.char], returnType := some (.object "java/lang/AbstractStringBuilder") }, accessFlags := 1, code := some k13c5 }
def k13c6 : Code := { maxStack := 1, maxLocals := 1, code := jdk_68_method_64_code, exceptionTable := #[], attributes := #[] }
def k13m6 : Method := { name := "getValue", desc := "()[B", sig := { parameters := [], returnType := some (.array .byte) }, accessFlags := 16, code := some k13c6 }
def k13c7 : Code := { maxStack := 1, maxLocals := 1, code := jdk_68_method_68_code, exceptionTable := #[], attributes := #[] }
def k13m7 : Method := { name := "isLatin1", desc := "()Z", sig := { parameters := [], returnType := some .boolean }, accessFlags := 16, code := some k13c7 }
/-- java/lang/AbstractStringBuilder -/
def k13 : Class := { plain "java/lang/AbstractStringBuilder" (some 0) with
  accessFlags := 1056
  interfaces := #[12, 4]
  cf := some (fileOf pool13 10 #[] #[{ accessFlags := 0, nameIndex := 7, descriptorIndex := 8, attributes := #[] }, { accessFlags := 0, nameIndex := 7, descriptorIndex := 103, attributes := #[] }, { accessFlags := 1, nameIndex := 34, descriptorIndex := 35, attributes := #[] }, { accessFlags := 2, nameIndex := 102, descriptorIndex := 103, attributes := #[] }, { accessFlags := 2, nameIndex := 127, descriptorIndex := 8, attributes := #[] }, { accessFlags := 1, nameIndex := 45, descriptorIndex := 292, attributes := #[] }, { accessFlags := 16, nameIndex := 552, descriptorIndex := 403, attributes := #[] }, { accessFlags := 16, nameIndex := 85, descriptorIndex := 86, attributes := #[] }] 1056 4 #[444, 48] #[{ accessFlags := 0, nameIndex := 17, descriptorIndex := 14, attributes := #[] }, { accessFlags := 0, nameIndex := 24, descriptorIndex := 25, attributes := #[] }, { accessFlags := 0, nameIndex := 75, descriptorIndex := 21, attributes := #[] }, { accessFlags := 0, nameIndex := 81, descriptorIndex := 82, attributes := #[] }, { accessFlags := 26, nameIndex := 13, descriptorIndex := 14, attributes := #[] }])
  fields := #[{ name := "value", type := (.array .byte), accessFlags := 0, slot := 0, constantValue := 0 }, { name := "coder", type := .byte, accessFlags := 0, slot := 1, constantValue := 0 }, { name := "maybeLatin1", type := .boolean, accessFlags := 0, slot := 2, constantValue := 0 }, { name := "count", type := .int, accessFlags := 0, slot := 3, constantValue := 0 }, { name := "EMPTYVALUE", type := (.array .byte), accessFlags := 26, slot := 0, constantValue := 0 }]
  methods := #[k13m0, k13m1, k13m2, k13m3, k13m4, k13m5, k13m6, k13m7]
  instanceTypes := #[(.array .byte), .byte, .boolean, .int]
  staticTypes := #[(.array .byte)]
  resolved := Array.replicate 609 none
  statics := none }

def pool14 : Array CpInfo := pool [(1, .methodref 2 3), (0, .class_ 4), (0, .nameAndType 5 6), (0, u "java/lang/AbstractStringBuilder"), (0, u "<init>"), (0, u "(I)V"), (11, .class_ 20), (1, u "java/lang/String"), (3, .class_ 26), (1, u "java/lang/StringBuilder"), (0, u "append"), (22, .methodref 2 51), (0, .nameAndType 27 52), (0, u "(C)Ljava/lang/AbstractStringBuilder;"), (84, .methodref 18 138), (0, .nameAndType 5 139), (0, u "(Ljava/lang/StringBuilder;)V"), (5, u "()V"), (10, u "()I"), (129, u "(C)Ljava/lang/StringBuilder;"), (56, .methodref 2 344), (0, .nameAndType 345 156), (0, u "length"), (3, .class_ 350), (0, u "java/lang/Appendable"), (0, .class_ 352), (0, u "java/io/Serializable"), (0, .class_ 354), (0, u "java/lang/Comparable"), (0, .class_ 356), (0, u "java/lang/CharSequence"), (0, u "serialVersionUID"), (0, u "J"), (40, u "toString"), (0, u "()Ljava/lang/String;")] 21

def k14c0 : Code := { maxStack := 2, maxLocals := 1, code := jdk_67_method_1_code, exceptionTable := #[], attributes := #[] }
def k14m0 : Method := { name := "<init>", desc := "()V", sig := { parameters := [], returnType := none }, accessFlags := 1, code := some k14c0 }
def k14c1 : Code := { maxStack := 2, maxLocals := 2, code := jdk_67_method_14_code, exceptionTable := #[], attributes := #[] }
def k14m1 : Method := { name := "append", desc := "(C)Ljava/lang/StringBuilder;", sig := { parameters := [.char], returnType := some (.object "java/lang/StringBuilder") }, accessFlags := 1, code := some k14c1 }
def k14c2 : Code := { maxStack := 3, maxLocals := 1, code := jdk_67_method_42_code, exceptionTable := #[], attributes := #[] }
def k14m2 : Method := { name := "toString", desc := "()Ljava/lang/String;", sig := { parameters := [], returnType := some (.object "java/lang/String") }, accessFlags := 1, code := some k14c2 }
def k14c3 : Code := { maxStack := 1, maxLocals := 1, code := jdk_67_method_93_code, exceptionTable := #[], attributes := #[] }
def k14m3 : Method := { name := "length", desc := "()I", sig := { parameters := [], returnType := some .int }, accessFlags := 4161, code := some k14c3 }
/-- java/lang/StringBuilder -/
def k14 : Class := { plain "java/lang/StringBuilder" (some 13) with
  accessFlags := 49
  interfaces := #[12, 2, 3, 4]
  cf := some (fileOf pool14 24 #[] #[{ accessFlags := 1, nameIndex := 5, descriptorIndex := 145, attributes := #[] }, { accessFlags := 1, nameIndex := 27, descriptorIndex := 286, attributes := #[] }, { accessFlags := 1, nameIndex := 399, descriptorIndex := 400, attributes := #[] }, { accessFlags := 4161, nameIndex := 345, descriptorIndex := 156, attributes := #[] }] 49 2 #[349, 351, 353, 355] #[{ accessFlags := 24, nameIndex := 357, descriptorIndex := 358, attributes := #[] }])
  fields := #[{ name := "serialVersionUID", type := .long, accessFlags := 24, slot := 0, constantValue := 0 }]
  methods := #[k14m0, k14m1, k14m2, k14m3]
  instanceTypes := #[(.array .byte), .byte, .boolean, .int]
  staticTypes := #[.long]
  resolved := Array.replicate 422 none
  statics := none }

def pool15 : Array CpInfo := pool [(2, .class_ 4), (1, u "java/lang/Object"), (0, u "<init>"), (0, u "()V"), (17, .class_ 26), (1, u "jdk/internal/util/Preconditions"), (6, u "checkIndex"), (15, u "checkFromIndexSize"), (5, .class_ 56), (0, u "jdk/internal/util/Preconditions$4"), (57, .class_ 115), (0, u "jdk/internal/util/Preconditions$1"), (7, u "SIOOBE_FORMATTER"), (0, u "Ljava/util/function/BiFunction;"), (0, .class_ 126), (0, u "jdk/internal/util/Preconditions$2"), (3, u "AIOOBE_FORMATTER"), (0, .class_ 132), (0, u "jdk/internal/util/Preconditions$3"), (3, u "IOOBE_FORMATTER"), (41, u "(IILjava/util/function/BiFunction;)I"), (4, u "(IIILjava/util/function/BiFunction;)I")] 10

def k15m0 : Method := { name := "<init>", desc := "()V", sig := { parameters := [], returnType := none }, accessFlags := 1, code := none }
def k15c1 : Code := { maxStack := 3, maxLocals := 3, code := jdk_41_method_11_code, exceptionTable := #[], attributes := #[] }
def k15m1 : Method := { name := "checkIndex", desc := "(IILjava/util/function/BiFunction;)I", sig := { parameters := [.int, .int, (.object "java/util/function/BiFunction")], returnType := some .int }, accessFlags := 9, code := some k15c1 }
def k15c2 : Code := { maxStack := 4, maxLocals := 4, code := jdk_41_method_13_code, exceptionTable := #[], attributes := #[] }
def k15m2 : Method := { name := "checkFromIndexSize", desc := "(IIILjava/util/function/BiFunction;)I", sig := { parameters := [.int, .int, .int, (.object "java/util/function/BiFunction")], returnType := some .int }, accessFlags := 9, code := some k15c2 }
/-- jdk/internal/util/Preconditions -/
def k15 : Class := { plain "jdk/internal/util/Preconditions" (some 0) with
  accessFlags := 33
  interfaces := #[]
  cf := some (fileOf pool15 24 #[.nestMembers #[55, 131, 125, 114]] #[{ accessFlags := 1, nameIndex := 5, descriptorIndex := 6, attributes := #[] }, { accessFlags := 9, nameIndex := 33, descriptorIndex := 178, attributes := #[] }, { accessFlags := 9, nameIndex := 49, descriptorIndex := 183, attributes := #[] }] 33 2 #[] #[{ accessFlags := 25, nameIndex := 123, descriptorIndex := 124, attributes := #[] }, { accessFlags := 25, nameIndex := 130, descriptorIndex := 124, attributes := #[] }, { accessFlags := 25, nameIndex := 136, descriptorIndex := 124, attributes := #[] }])
  fields := #[{ name := "SIOOBE_FORMATTER", type := (.object "java/util/function/BiFunction"), accessFlags := 25, slot := 0, constantValue := 0 }, { name := "AIOOBE_FORMATTER", type := (.object "java/util/function/BiFunction"), accessFlags := 25, slot := 1, constantValue := 0 }, { name := "IOOBE_FORMATTER", type := (.object "java/util/function/BiFunction"), accessFlags := 25, slot := 2, constantValue := 0 }]
  methods := #[k15m0, k15m1, k15m2]
  instanceTypes := #[]
  staticTypes := #[(.object "java/util/function/BiFunction"), (.object "java/util/function/BiFunction"), (.object "java/util/function/BiFunction")]
  resolved := Array.replicate 194 none
  statics := some 2 }

def pool16 : Array CpInfo := pool [(1, .class_ 2), (0, u "java/lang/String"), (1, .class_ 6), (1, u "java/lang/Object"), (0, u "<init>"), (0, u "()V"), (0, .methodref 1 10), (0, .nameAndType 11 12), (0, u "checkIndex"), (0, u "(II)V"), (0, .methodref 14 15), (0, .class_ 16), (0, .nameAndType 17 18), (0, u "java/lang/StringLatin1"), (0, u "inflate"), (0, u "([BI[CII)V"), (1, .class_ 22), (1, u "java/lang/StringUTF16"), (3, .nameAndType 17 27), (0, u "([BI[BII)V"), (25, u "([BI)C"), (36, u "canEncode"), (14, u "(C)Z"), (15, u "$assertionsDisabled"), (0, u "Z"), (69, u "toChars"), (28, .class_ 223), (1, u "java/lang/StringLatin1$LinesSpliterator"), (16, .methodref 20 26), (11, u "charAt"), (15, u "([B)[C"), (121, .class_ 391), (0, u "java/lang/StringLatin1$CharsSpliterator")] 3

def k16m0 : Method := { name := "<init>", desc := "()V", sig := { parameters := [], returnType := none }, accessFlags := 0, code := none }
def k16c1 : Code := { maxStack := 2, maxLocals := 2, code := jdk_43_method_2_code, exceptionTable := #[], attributes := #[] }
def k16m1 : Method := { name := "charAt", desc := "([BI)C", sig := { parameters := [(.array .byte), .int], returnType := some .char }, accessFlags := 9, code := some k16c1 }
def k16c2 : Code := { maxStack := 2, maxLocals := 1, code := jdk_43_method_3_code, exceptionTable := #[], attributes := #[] }
def k16m2 : Method := { name := "canEncode", desc := "(C)Z", sig := { parameters := [.char], returnType := some .boolean }, accessFlags := 9, code := some k16c2 }
def k16c3 : Code := { maxStack := 5, maxLocals := 2, code := jdk_43_method_9_code, exceptionTable := #[], attributes := #[] }
def k16m3 : Method := { name := "toChars", desc := "([B)[C", sig := { parameters := [(.array .byte)], returnType := some (.array .char) }, accessFlags := 9, code := some k16c3 }
def k16c4 : Code := { maxStack := 4, maxLocals := 6, code := jdk_43_method_49_code, exceptionTable := #[], attributes := #[] }
def k16m4 : Method := { name := "inflate", desc := "([BI[CII)V", sig := { parameters := [(.array .byte), .int, (.array .char), .int, .int], returnType := none }, accessFlags := 9, code := some k16c4 }
def k16c5 : Code := { maxStack := 5, maxLocals := 5, code := jdk_43_method_50_code, exceptionTable := #[], attributes := #[] }
def k16m5 : Method := { name := "inflate", desc := "([BI[BII)V", sig := { parameters := [(.array .byte), .int, (.array .byte), .int, .int], returnType := none }, accessFlags := 9, code := some k16c5 }
/-- java/lang/StringLatin1 -/
def k16 : Class := { plain "java/lang/StringLatin1" (some 0) with
  accessFlags := 48
  interfaces := #[]
  cf := some (fileOf pool16 14 #[.nestMembers #[390, 221]] #[{ accessFlags := 0, nameIndex := 7, descriptorIndex := 8, attributes := #[] }, { accessFlags := 9, nameIndex := 252, descriptorIndex := 53, attributes := #[] }, { accessFlags := 9, nameIndex := 90, descriptorIndex := 105, attributes := #[] }, { accessFlags := 9, nameIndex := 192, descriptorIndex := 268, attributes := #[] }, { accessFlags := 9, nameIndex := 17, descriptorIndex := 18, attributes := #[] }, { accessFlags := 9, nameIndex := 17, descriptorIndex := 27, attributes := #[] }] 48 4 #[] #[{ accessFlags := 4120, nameIndex := 121, descriptorIndex := 122, attributes := #[] }])
  fields := #[{ name := "$assertionsDisabled", type := .boolean, accessFlags := 4120, slot := 0, constantValue := 0 }]
  methods := #[k16m0, k16m1, k16m2, k16m3, k16m4, k16m5]
  instanceTypes := #[]
  staticTypes := #[.boolean]
  resolved := Array.replicate 395 none
  statics := none }

def pool17 : Array CpInfo := pool [(2, .class_ 4), (1, u "java/lang/Object"), (0, u "<init>"), (0, u "()V"), (7, .class_ 16), (1, u "java/util/Arrays"), (57, .class_ 76), (1, u "java/util/Arrays$NaturalOrder"), (36, .class_ 115), (1, u "java/util/Arrays$LegacyMergeSort"), (1, u "Z"), (21, u "copyOfRange"), (10, .methodref 151 152), (0, .class_ 153), (0, .nameAndType 154 155), (0, u "java/lang/System"), (0, u "arraycopy"), (0, u "(Ljava/lang/Object;ILjava/lang/Object;II)V"), (148, .methodref 305 306), (0, .class_ 307), (0, .nameAndType 308 309), (0, u "java/lang/Math"), (0, u "min"), (0, u "(II)I"), (29, .methodref 14 340), (0, .nameAndType 341 342), (0, u "copyOfRangeByte"), (0, u "([BII)[B"), (0, .methodref 14 344), (0, .nameAndType 345 346), (0, u "checkLength"), (0, u "(II)V"), (28, .class_ 376), (0, u "java/util/Arrays$ArrayList"), (68, u "$assertionsDisabled"), (269, u "MIN_ARRAY_SORT_GRAN"), (0, u "I"), (2, u "INSERTIONSORT_THRESHOLD"), (255, .class_ 976), (0, u "java/util/Arrays$ArrayItr")] 52

def k17m0 : Method := { name := "<init>", desc := "()V", sig := { parameters := [], returnType := none }, accessFlags := 2, code := none }
def k17c1 : Code := { maxStack := 4, maxLocals := 2, code := jdk_65_method_131_code, exceptionTable := #[], attributes := #[] }
def k17m1 : Method := { name := "checkLength", desc := "(II)V", sig := { parameters := [.int, .int], returnType := none }, accessFlags := 10, code := some k17c1 }
def k17c2 : Code := { maxStack := 3, maxLocals := 3, code := jdk_65_method_132_code, exceptionTable := #[], attributes := #[] }
def k17m2 : Method := { name := "copyOfRange", desc := "([BII)[B", sig := { parameters := [(.array .byte), .int, .int], returnType := some (.array .byte) }, accessFlags := 9, code := some k17c2 }
def k17c3 : Code := { maxStack := 6, maxLocals := 5, code := jdk_65_method_133_code, exceptionTable := #[], attributes := #[] }
def k17m3 : Method := { name := "copyOfRangeByte", desc := "([BII)[B", sig := { parameters := [(.array .byte), .int, .int], returnType := some (.array .byte) }, accessFlags := 10, code := some k17c3 }
/-- java/util/Arrays -/
def k17 : Class := { plain "java/util/Arrays" (some 0) with
  accessFlags := 49
  interfaces := #[]
  cf := some (fileOf pool17 14 #[.nestMembers #[975, 375, 113, 74]] #[{ accessFlags := 2, nameIndex := 5, descriptorIndex := 6, attributes := #[] }, { accessFlags := 10, nameIndex := 345, descriptorIndex := 346, attributes := #[] }, { accessFlags := 9, nameIndex := 139, descriptorIndex := 342, attributes := #[] }, { accessFlags := 10, nameIndex := 341, descriptorIndex := 342, attributes := #[] }] 49 2 #[] #[{ accessFlags := 26, nameIndex := 715, descriptorIndex := 716, attributes := #[] }, { accessFlags := 26, nameIndex := 719, descriptorIndex := 716, attributes := #[] }, { accessFlags := 4120, nameIndex := 445, descriptorIndex := 117, attributes := #[] }])
  fields := #[{ name := "MIN_ARRAY_SORT_GRAN", type := .int, accessFlags := 26, slot := 0, constantValue := 0 }, { name := "INSERTIONSORT_THRESHOLD", type := .int, accessFlags := 26, slot := 1, constantValue := 0 }, { name := "$assertionsDisabled", type := .boolean, accessFlags := 4120, slot := 2, constantValue := 0 }]
  methods := #[k17m0, k17m1, k17m2, k17m3]
  instanceTypes := #[]
  staticTypes := #[.int, .int, .boolean]
  resolved := Array.replicate 1029 none
  statics := none }

def pool18 : Array CpInfo := pool [(1, .class_ 2), (0, u "java/lang/Math"), (1, .class_ 6), (1, u "java/lang/Object"), (0, u "<init>"), (0, u "()V"), (89, .class_ 100), (1, u "java/lang/Math$RandomNumberGeneratorHolder"), (71, u "negativeZeroFloatBits"), (0, u "J"), (2, u "negativeZeroDoubleBits"), (24, u "min"), (43, u "$assertionsDisabled"), (0, u "Z"), (88, u "(II)I"), (2, u "twoToTheDoubleScaleDown"), (0, u "D"), (4, u "twoToTheDoubleScaleUp"), (9, u "E"), (3, u "PI"), (2, u "TAU"), (2, u "DEGREES_TO_RADIANS"), (0, u "RADIANS_TO_DEGREES")] 94

def k18m0 : Method := { name := "<init>", desc := "()V", sig := { parameters := [], returnType := none }, accessFlags := 2, code := none }
def k18c1 : Code := { maxStack := 2, maxLocals := 2, code := jdk_29_method_69_code, exceptionTable := #[], attributes := #[] }
def k18m1 : Method := { name := "min", desc := "(II)I", sig := { parameters := [.int, .int], returnType := some .int }, accessFlags := 9, code := some k18c1 }
/-- java/lang/Math -/
def k18 : Class := { plain "java/lang/Math" (some 0) with
  accessFlags := 49
  interfaces := #[]
  cf := some (fileOf pool18 1 #[.nestMembers #[98]] #[{ accessFlags := 2, nameIndex := 7, descriptorIndex := 8, attributes := #[] }, { accessFlags := 9, nameIndex := 201, descriptorIndex := 335, attributes := #[] }] 49 4 #[] #[{ accessFlags := 25, nameIndex := 354, descriptorIndex := 339, attributes := #[] }, { accessFlags := 25, nameIndex := 358, descriptorIndex := 339, attributes := #[] }, { accessFlags := 25, nameIndex := 361, descriptorIndex := 339, attributes := #[] }, { accessFlags := 26, nameIndex := 364, descriptorIndex := 339, attributes := #[] }, { accessFlags := 26, nameIndex := 365, descriptorIndex := 339, attributes := #[] }, { accessFlags := 26, nameIndex := 172, descriptorIndex := 173, attributes := #[] }, { accessFlags := 26, nameIndex := 176, descriptorIndex := 173, attributes := #[] }, { accessFlags := 8, nameIndex := 344, descriptorIndex := 339, attributes := #[] }, { accessFlags := 8, nameIndex := 338, descriptorIndex := 339, attributes := #[] }, { accessFlags := 4120, nameIndex := 245, descriptorIndex := 246, attributes := #[] }])
  fields := #[{ name := "E", type := .double, accessFlags := 25, slot := 0, constantValue := 0 }, { name := "PI", type := .double, accessFlags := 25, slot := 1, constantValue := 0 }, { name := "TAU", type := .double, accessFlags := 25, slot := 2, constantValue := 0 }, { name := "DEGREES_TO_RADIANS", type := .double, accessFlags := 26, slot := 3, constantValue := 0 }, { name := "RADIANS_TO_DEGREES", type := .double, accessFlags := 26, slot := 4, constantValue := 0 }, { name := "negativeZeroFloatBits", type := .long, accessFlags := 26, slot := 5, constantValue := 0 }, { name := "negativeZeroDoubleBits", type := .long, accessFlags := 26, slot := 6, constantValue := 0 }, { name := "twoToTheDoubleScaleUp", type := .double, accessFlags := 8, slot := 7, constantValue := 0 }, { name := "twoToTheDoubleScaleDown", type := .double, accessFlags := 8, slot := 8, constantValue := 0 }, { name := "$assertionsDisabled", type := .boolean, accessFlags := 4120, slot := 9, constantValue := 0 }]
  methods := #[k18m0, k18m1]
  instanceTypes := #[]
  staticTypes := #[.double, .double, .double, .double, .double, .long, .long, .double, .double, .boolean]
  resolved := Array.replicate 460 none
  statics := none }

def pool19 : Array CpInfo := pool [(2, .class_ 4), (1, u "java/lang/Object"), (0, u "<init>"), (0, u "()V"), (1, .class_ 10), (1, u "java/lang/System"), (0, u "allowSecurityManager"), (0, u "I"), (16, u "cons"), (0, u "Ljava/io/Console;"), (77, .class_ 110), (1, u "java/lang/System$CallersHolder"), (43, u "initialErrStream"), (0, u "Ljava/io/PrintStream;"), (19, u "security"), (0, u "Ljava/lang/SecurityManager;"), (31, .class_ 209), (0, u "java/lang/System$1"), (7, u "props"), (0, u "Ljava/util/Properties;"), (2, u "lineSeparator"), (0, u "Ljava/lang/String;"), (96, .class_ 321), (1, u "java/lang/System$LoggerFinder"), (5, .class_ 328), (0, u "java/lang/System$Logger"), (67, u "err"), (2, u "out"), (91, u "notSupportedJnuEncoding"), (15, u "in"), (17, u "initialIn"), (0, u "Ljava/io/InputStream;"), (35, u "bootLayer"), (0, u "Ljava/lang/ModuleLayer;"), (99, .class_ 664), (0, u "java/lang/System$2"), (9, u "NEVER"), (2, u "MAYBE"), (49, u "arraycopy"), (0, u "(Ljava/lang/Object;ILjava/lang/Object;II)V"), (72, .class_ 802), (0, u "java/lang/System$Logger$Level")] 31

def k19m0 : Method := { name := "<init>", desc := "()V", sig := { parameters := [], returnType := none }, accessFlags := 2, code := none }
def k19m1 : Method := { name := "arraycopy", desc := "(Ljava/lang/Object;ILjava/lang/Object;II)V", sig := { parameters := [(.object "java/lang/Object"), .int, (.object "java/lang/Object"), .int, .int], returnType := none }, accessFlags := 265, code := none }
/-- java/lang/System -/
def k19 : Class := { plain "java/lang/System" (some 0) with
  accessFlags := 49
  interfaces := #[]
  cf := some (fileOf pool19 8 #[.nestMembers #[319, 327, 801, 108, 663, 208]] #[{ accessFlags := 2, nameIndex := 5, descriptorIndex := 6, attributes := #[] }, { accessFlags := 265, nameIndex := 727, descriptorIndex := 728, attributes := #[] }] 49 2 #[] #[{ accessFlags := 25, nameIndex := 507, descriptorIndex := 526, attributes := #[] }, { accessFlags := 25, nameIndex := 399, descriptorIndex := 155, attributes := #[] }, { accessFlags := 25, nameIndex := 396, descriptorIndex := 155, attributes := #[] }, { accessFlags := 10, nameIndex := 525, descriptorIndex := 526, attributes := #[] }, { accessFlags := 26, nameIndex := 674, descriptorIndex := 12, attributes := #[] }, { accessFlags := 26, nameIndex := 677, descriptorIndex := 12, attributes := #[] }, { accessFlags := 10, nameIndex := 11, descriptorIndex := 12, attributes := #[] }, { accessFlags := 74, nameIndex := 175, descriptorIndex := 176, attributes := #[] }, { accessFlags := 10, nameIndex := 491, descriptorIndex := 222, attributes := #[] }, { accessFlags := 74, nameIndex := 29, descriptorIndex := 30, attributes := #[] }, { accessFlags := 74, nameIndex := 154, descriptorIndex := 155, attributes := #[] }, { accessFlags := 10, nameIndex := 217, descriptorIndex := 218, attributes := #[] }, { accessFlags := 10, nameIndex := 221, descriptorIndex := 222, attributes := #[] }, { accessFlags := 8, nameIndex := 562, descriptorIndex := 563, attributes := #[] }])
  fields := #[{ name := "in", type := (.object "java/io/InputStream"), accessFlags := 25, slot := 0, constantValue := 0 }, { name := "out", type := (.object "java/io/PrintStream"), accessFlags := 25, slot := 1, constantValue := 0 }, { name := "err", type := (.object "java/io/PrintStream"), accessFlags := 25, slot := 2, constantValue := 0 }, { name := "initialIn", type := (.object "java/io/InputStream"), accessFlags := 10, slot := 3, constantValue := 0 }, { name := "NEVER", type := .int, accessFlags := 26, slot := 4, constantValue := 0 }, { name := "MAYBE", type := .int, accessFlags := 26, slot := 5, constantValue := 0 }, { name := "allowSecurityManager", type := .int, accessFlags := 10, slot := 6, constantValue := 0 }, { name := "security", type := (.object "java/lang/SecurityManager"), accessFlags := 74, slot := 7, constantValue := 0 }, { name := "notSupportedJnuEncoding", type := (.object "java/lang/String"), accessFlags := 10, slot := 8, constantValue := 0 }, { name := "cons", type := (.object "java/io/Console"), accessFlags := 74, slot := 9, constantValue := 0 }, { name := "initialErrStream", type := (.object "java/io/PrintStream"), accessFlags := 74, slot := 10, constantValue := 0 }, { name := "props", type := (.object "java/util/Properties"), accessFlags := 10, slot := 11, constantValue := 0 }, { name := "lineSeparator", type := (.object "java/lang/String"), accessFlags := 10, slot := 12, constantValue := 0 }, { name := "bootLayer", type := (.object "java/lang/ModuleLayer"), accessFlags := 8, slot := 13, constantValue := 0 }]
  methods := #[k19m0, k19m1]
  instanceTypes := #[]
  staticTypes := #[(.object "java/io/InputStream"), (.object "java/io/PrintStream"), (.object "java/io/PrintStream"), (.object "java/io/InputStream"), .int, .int, .int, (.object "java/lang/SecurityManager"), (.object "java/lang/String"), (.object "java/io/Console"), (.object "java/io/PrintStream"), (.object "java/util/Properties"), (.object "java/lang/String"), (.object "java/lang/ModuleLayer")]
  resolved := Array.replicate 834 none
  statics := none }

def pool20 : Array CpInfo := pool [(9, u "<init>"), (6, .class_ 18), (1, u "java/lang/Object"), (0, u "()V"), (1, .class_ 23), (1, u "jdk/internal/util/ArraysSupport"), (0, u "LOG2_ARRAY_LONG_INDEX_SCALE"), (0, u "I"), (2, u "U"), (0, u "Ljdk/internal/misc/Unsafe;"), (8, u "BIG_ENDIAN"), (0, u "Z"), (8, u "LOG2_BYTE_BIT_SIZE"), (4, u "LOG2_ARRAY_INT_INDEX_SCALE"), (54, u "JLA"), (0, u "Ljdk/internal/access/JavaLangAccess;"), (11, u "LOG2_ARRAY_BOOLEAN_INDEX_SCALE"), (9, u "LOG2_ARRAY_BYTE_INDEX_SCALE"), (5, u "LOG2_ARRAY_CHAR_INDEX_SCALE"), (5, u "LOG2_ARRAY_SHORT_INDEX_SCALE"), (18, u "LOG2_ARRAY_FLOAT_INDEX_SCALE"), (24, u "LOG2_ARRAY_DOUBLE_INDEX_SCALE"), (89, u "T_BOOLEAN"), (2, u "T_CHAR"), (1, u "T_FLOAT"), (1, u "T_DOUBLE"), (1, u "T_BYTE"), (1, u "T_SHORT"), (1, u "T_INT"), (1, u "T_LONG"), (1, u "SOFT_MAX_ARRAY_LENGTH")] 83

def k20m0 : Method := { name := "<init>", desc := "()V", sig := { parameters := [], returnType := none }, accessFlags := 2, code := none }
/-- jdk/internal/util/ArraysSupport -/
def k20 : Class := { plain "jdk/internal/util/ArraysSupport" (some 0) with
  accessFlags := 33
  interfaces := #[]
  cf := some (fileOf pool20 21 #[] #[{ accessFlags := 2, nameIndex := 9, descriptorIndex := 19, attributes := #[] }] 33 16 #[] #[{ accessFlags := 24, nameIndex := 28, descriptorIndex := 29, attributes := #[] }, { accessFlags := 26, nameIndex := 38, descriptorIndex := 39, attributes := #[] }, { accessFlags := 25, nameIndex := 121, descriptorIndex := 25, attributes := #[] }, { accessFlags := 25, nameIndex := 131, descriptorIndex := 25, attributes := #[] }, { accessFlags := 25, nameIndex := 137, descriptorIndex := 25, attributes := #[] }, { accessFlags := 25, nameIndex := 143, descriptorIndex := 25, attributes := #[] }, { accessFlags := 25, nameIndex := 53, descriptorIndex := 25, attributes := #[] }, { accessFlags := 25, nameIndex := 24, descriptorIndex := 25, attributes := #[] }, { accessFlags := 25, nameIndex := 162, descriptorIndex := 25, attributes := #[] }, { accessFlags := 25, nameIndex := 187, descriptorIndex := 25, attributes := #[] }, { accessFlags := 26, nameIndex := 48, descriptorIndex := 25, attributes := #[] }, { accessFlags := 25, nameIndex := 277, descriptorIndex := 25, attributes := #[] }, { accessFlags := 25, nameIndex := 280, descriptorIndex := 25, attributes := #[] }, { accessFlags := 25, nameIndex := 282, descriptorIndex := 25, attributes := #[] }, { accessFlags := 25, nameIndex := 284, descriptorIndex := 25, attributes := #[] }, { accessFlags := 25, nameIndex := 286, descriptorIndex := 25, attributes := #[] }, { accessFlags := 25, nameIndex := 288, descriptorIndex := 25, attributes := #[] }, { accessFlags := 25, nameIndex := 290, descriptorIndex := 25, attributes := #[] }, { accessFlags := 25, nameIndex := 292, descriptorIndex := 25, attributes := #[] }, { accessFlags := 26, nameIndex := 108, descriptorIndex := 109, attributes := #[] }, { accessFlags := 25, nameIndex := 294, descriptorIndex := 25, attributes := #[] }])
  fields := #[{ name := "U", type := (.object "jdk/internal/misc/Unsafe"), accessFlags := 24, slot := 0, constantValue := 0 }, { name := "BIG_ENDIAN", type := .boolean, accessFlags := 26, slot := 1, constantValue := 0 }, { name := "LOG2_ARRAY_BOOLEAN_INDEX_SCALE", type := .int, accessFlags := 25, slot := 2, constantValue := 0 }, { name := "LOG2_ARRAY_BYTE_INDEX_SCALE", type := .int, accessFlags := 25, slot := 3, constantValue := 0 }, { name := "LOG2_ARRAY_CHAR_INDEX_SCALE", type := .int, accessFlags := 25, slot := 4, constantValue := 0 }, { name := "LOG2_ARRAY_SHORT_INDEX_SCALE", type := .int, accessFlags := 25, slot := 5, constantValue := 0 }, { name := "LOG2_ARRAY_INT_INDEX_SCALE", type := .int, accessFlags := 25, slot := 6, constantValue := 0 }, { name := "LOG2_ARRAY_LONG_INDEX_SCALE", type := .int, accessFlags := 25, slot := 7, constantValue := 0 }, { name := "LOG2_ARRAY_FLOAT_INDEX_SCALE", type := .int, accessFlags := 25, slot := 8, constantValue := 0 }, { name := "LOG2_ARRAY_DOUBLE_INDEX_SCALE", type := .int, accessFlags := 25, slot := 9, constantValue := 0 }, { name := "LOG2_BYTE_BIT_SIZE", type := .int, accessFlags := 26, slot := 10, constantValue := 0 }, { name := "T_BOOLEAN", type := .int, accessFlags := 25, slot := 11, constantValue := 0 }, { name := "T_CHAR", type := .int, accessFlags := 25, slot := 12, constantValue := 0 }, { name := "T_FLOAT", type := .int, accessFlags := 25, slot := 13, constantValue := 0 }, { name := "T_DOUBLE", type := .int, accessFlags := 25, slot := 14, constantValue := 0 }, { name := "T_BYTE", type := .int, accessFlags := 25, slot := 15, constantValue := 0 }, { name := "T_SHORT", type := .int, accessFlags := 25, slot := 16, constantValue := 0 }, { name := "T_INT", type := .int, accessFlags := 25, slot := 17, constantValue := 0 }, { name := "T_LONG", type := .int, accessFlags := 25, slot := 18, constantValue := 0 }, { name := "JLA", type := (.object "jdk/internal/access/JavaLangAccess"), accessFlags := 26, slot := 19, constantValue := 0 }, { name := "SOFT_MAX_ARRAY_LENGTH", type := .int, accessFlags := 25, slot := 20, constantValue := 0 }]
  methods := #[k20m0]
  instanceTypes := #[]
  staticTypes := #[(.object "jdk/internal/misc/Unsafe"), .boolean, .int, .int, .int, .int, .int, .int, .int, .int, .int, .int, .int, .int, .int, .int, .int, .int, .int, (.object "jdk/internal/access/JavaLangAccess"), .int]
  resolved := Array.replicate 378 none
  statics := none }

def pool21 : Array CpInfo := pool [(1, u "java/lang/Cloneable"), (0, .class_ 1), (0, u "java/lang/Object"), (0, .class_ 3)] 3

/-- java/lang/Cloneable -/
def k21 : Class := { plain "java/lang/Cloneable" (some 0) with
  accessFlags := 1537
  interfaces := #[]
  cf := some (fileOf pool21 2 #[] #[] 1537 4 #[] #[])
  fields := #[]
  methods := #[]
  instanceTypes := #[]
  staticTypes := #[]
  resolved := Array.replicate 8 none
  statics := none }

/-- the primitive byte -/
def k22 : Class := { plain "byte" none with kind := .primitive 'B', accessFlags := 0x411 }
/-- [B -/
def k23 : Class := { plain "[B" (some 0) with kind := .array 22 .byte, interfaces := #[21, 2], accessFlags := 1041 }

/-- the primitive char -/
def k24 : Class := { plain "char" none with kind := .primitive 'C', accessFlags := 0x411 }
/-- [C -/
def k25 : Class := { plain "[C" (some 0) with kind := .array 24 .char, interfaces := #[21, 2], accessFlags := 1041 }

/-- the primitive int -/
def k26 : Class := { plain "int" none with kind := .primitive 'I', accessFlags := 0x411 }
/-- [I -/
def k27 : Class := { plain "[I" (some 0) with kind := .array 26 .int, interfaces := #[21, 2], accessFlags := 1041 }

def heap : Heap := #[{ cls := 7, slots := #[.long 0, .int 1, .null, .int 0, .null, .int 0, .int 0], vm := .statics 7 },
  { cls := 8, slots := #[.int 0, .int 8, .int 0, .int 1], vm := .statics 8 },
  { cls := 15, slots := #[.null, .null, .null], vm := .statics 15 }]
def classes : Array Class := #[k0, k1, k2, k3, k4, k5, k6, k7, k8, k9, k10, k11, k12, k13, k14, k15, k16, k17, k18, k19, k20, k21, k22, k23, k24, k25, k26, k27]
def interned : List (Array UInt16 × Addr) := []
def slotsUsed : Nat := 14
def theMethod : MethodId := ⟨1, 1⟩
def args0 : Array Value := #[.long 1, .long 2, .long 3, .int 1]
def aboutOver (below : List Frame) : State where
  vm := { classes := classes, interned := interned.toArray }
  heap := heap
  slotsUsed := slotsUsed
  threads := #[{ frames := .invoking theMethod args0 :: below }]
def below0 : List Frame := [.native { method := ⟨0, 0⟩, args := #[] }]
def about1 : State := aboutOver below0
def p0 : Program := .bare "" "" ""
def e0 : Env := launch0.env 0 0 0
theorem w_frames : about1.frames = Frame.invoking theMethod args0 :: below0 := rfl
set_option maxRecDepth 65536 in
theorem w_args : argsFit about1.vm theMethod args0 = true := by decide +kernel
set_option maxRecDepth 65536 in
theorem w_heap : heapFits about1 = true := by decide +kernel
set_option maxRecDepth 65536 in
theorem w_runnable : about1.curStatus? = some .runnable := by decide +kernel
set_option maxRecDepth 65536 in
theorem w_alone : about1.alone = true := by decide +kernel
set_option maxRecDepth 65536 in
theorem w_named : about1.methodNamed? x = some theMethod := by decide +kernel
set_option maxRecDepth 65536 in
theorem w_hears : about1.hears theMethod below0 = true := by decide +kernel
set_option maxRecDepth 65536 in
theorem w_ripe : about1.ripe theMethod args0 below0 = true := by decide +kernel
theorem w_running : about1.status = .running := rfl
set_option maxRecDepth 65536 in
theorem w_room : about1.hasRoom e0.platform room_1 = true :=
  launch0.hasRoom_least _ room_1 (by decide +kernel) (by decide +kernel) (by decide +kernel) (by decide +kernel) (by decide +kernel) (by decide +kernel)
theorem allAtoms_all (ts : List Jvm.Cond) (a : Array Jvm.Value) (st : Jvm.State) : (allAtoms ts).before a st = ts.all (fun c => c.before a st) := by
  induction ts with
  | nil => rfl
  | cons c t ih =>
    show (Jvm.Cond.and c (allAtoms t)).before a st = _
    rw [Jvm.Cond.before_and, ih, List.all_cons]
def words1 : List Jvm.Cond := Jvm.Cond.code x code maxLocals ret :: tables_1
/-- a 'code' word, met by the world's own term for the bytes: nothing is compared byte by byte -/
theorem code_word {y : MethodName} {bytes : ByteArray} {mx : Nat} {rt : Option FieldType} {a : Array Value} {s : State} {m : MethodId} {meth : Method} {c : Code} (h1 : s.methodNamed? y = some m) (h2 : s.vm.method? m = some meth) (h3 : meth.code = some c) (h4 : c.code = bytes)
    (h5 : (c.maxLocals == mx && c.exceptionTable.isEmpty && decide (c.maxStack ≤ mostOperands) && decide (meth.sig.returnType = rt) && !meth.locks && decide (parseMethodDescriptor y.desc = some meth.sig)) = true) : (Jvm.Cond.code y bytes mx rt).before a s = true := by
  simp only [Bool.and_eq_true, beq_iff_eq, Bool.not_eq_true', decide_eq_true_eq] at h5
  obtain ⟨⟨⟨⟨⟨g1, g2⟩, g3⟩, g4⟩, g5⟩, g6⟩ := h5
  simp [Cond.before, Cond.holds, Cond.value, h1, h2, h3, h4, g1, g2, g3, g4, g5, g6]
def isCode : Jvm.Cond → Bool
  | .code _ _ _ _ => true
  | _ => false
theorem all_split {L : List Jvm.Cond} {P : Jvm.Cond → Bool} (h1 : L.all (fun c => isCode c || P c) = true) (h2 : ∀ c ∈ L.filter isCode, P c = true) : L.all P = true := by
  refine List.all_eq_true.mpr fun c hc => ?_
  have h := List.all_eq_true.mp h1 c hc
  rcases Bool.eq_false_or_eq_true (isCode c) with hi | hi
  · exact h2 c (List.mem_filter.mpr ⟨hc, hi⟩)
  · simpa [hi] using h
set_option maxRecDepth 65536 in
theorem w_c0 : (Jvm.Cond.code x code maxLocals ret).before args0 about1 = true := code_word (m := ⟨1, 1⟩) (meth := k1m1) (c := k1c1) (by decide +kernel) rfl rfl rfl (by decide +kernel)
set_option maxRecDepth 65536 in
theorem w_c1 : (Jvm.Cond.code ({ cls := "com/example/millwright/millwright/TestReportUnescapePinLaw", name := "token", desc := "(J[CI[CI)I" } : Jvm.MethodName) method_4_code (11 : Nat) (Option.some Jvm.ClassFile.FieldType.int)).before args0 about1 = true := code_word (m := ⟨1, 3⟩) (meth := k1m3) (c := k1c3) (by decide +kernel) rfl rfl rfl (by decide +kernel)
set_option maxRecDepth 65536 in
theorem w_c2 : (Jvm.Cond.code ({ cls := "com/example/millwright/millwright/TestReportUnescapePinLaw", name := "letter", desc := "(I)C" } : Jvm.MethodName) method_6_code (1 : Nat) (Option.some Jvm.ClassFile.FieldType.char)).before args0 about1 = true := code_word (m := ⟨1, 5⟩) (meth := k1m5) (c := k1c5) (by decide +kernel) rfl rfl rfl (by decide +kernel)
set_option maxRecDepth 65536 in
theorem w_c3 : (Jvm.Cond.code ({ cls := "com/example/millwright/millwright/TestReportUnescapePinLaw", name := "meaning", desc := "(C)C" } : Jvm.MethodName) method_8_code (1 : Nat) (Option.some Jvm.ClassFile.FieldType.char)).before args0 about1 = true := code_word (m := ⟨1, 7⟩) (meth := k1m7) (c := k1c7) (by decide +kernel) rfl rfl rfl (by decide +kernel)
set_option maxRecDepth 65536 in
theorem w_c4 : (Jvm.Cond.code ({ cls := "com/example/millwright/millwright/TestReportUnescapePinLaw", name := "plain", desc := "(C)C" } : Jvm.MethodName) method_5_code (1 : Nat) (Option.some Jvm.ClassFile.FieldType.char)).before args0 about1 = true := code_word (m := ⟨1, 4⟩) (meth := k1m4) (c := k1c4) (by decide +kernel) rfl rfl rfl (by decide +kernel)
set_option maxRecDepth 65536 in
theorem w_c5 : (Jvm.Cond.code ({ cls := "java/lang/String", name := "<init>", desc := "([C)V" } : Jvm.MethodName) jdk_42_method_3_code (2 : Nat) (Option.none : Option Jvm.ClassFile.FieldType)).before args0 about1 = true := code_word (m := ⟨7, 1⟩) (meth := k7m1) (c := k7c1) (by decide +kernel) rfl rfl rfl (by decide +kernel)
set_option maxRecDepth 65536 in
theorem w_c6 : (Jvm.Cond.code ({ cls := "java/lang/String", name := "<init>", desc := "([CIILjava/lang/Void;)V" } : Jvm.MethodName) jdk_42_method_149_code (6 : Nat) (Option.none : Option Jvm.ClassFile.FieldType)).before args0 about1 = true := code_word (m := ⟨7, 7⟩) (meth := k7m7) (c := k7c7) (by decide +kernel) rfl rfl rfl (by decide +kernel)
set_option maxRecDepth 65536 in
theorem w_c7 : (Jvm.Cond.code ({ cls := "java/lang/Object", name := "<init>", desc := "()V" } : Jvm.MethodName) object_method_1_code (1 : Nat) (Option.none : Option Jvm.ClassFile.FieldType)).before args0 about1 = true := code_word (m := ⟨0, 0⟩) (meth := k0m0) (c := k0c0) (by decide +kernel) rfl rfl rfl (by decide +kernel)
set_option maxRecDepth 65536 in
theorem w_c8 : (Jvm.Cond.code ({ cls := "java/lang/StringUTF16", name := "compress", desc := "([CII)[B" } : Jvm.MethodName) jdk_52_method_16_code (6 : Nat) (Option.some (Jvm.ClassFile.FieldType.array Jvm.ClassFile.FieldType.byte))).before args0 about1 = true := code_word (m := ⟨8, 9⟩) (meth := k8m9) (c := k8c9) (by decide +kernel) rfl rfl rfl (by decide +kernel)
set_option maxRecDepth 65536 in
theorem w_c9 : (Jvm.Cond.code ({ cls := "java/lang/StringUTF16", name := "compress", desc := "([CI[BII)I" } : Jvm.MethodName) jdk_52_method_21_code (7 : Nat) (Option.some Jvm.ClassFile.FieldType.int)).before args0 about1 = true := code_word (m := ⟨8, 10⟩) (meth := k8m10) (c := k8c10) (by decide +kernel) rfl rfl rfl (by decide +kernel)
set_option maxRecDepth 65536 in
theorem w_c10 : (Jvm.Cond.code ({ cls := "java/lang/StringUTF16", name := "toBytes", desc := "([CII)[B" } : Jvm.MethodName) jdk_52_method_14_code (5 : Nat) (Option.some (Jvm.ClassFile.FieldType.array Jvm.ClassFile.FieldType.byte))).before args0 about1 = true := code_word (m := ⟨8, 7⟩) (meth := k8m7) (c := k8c7) (by decide +kernel) rfl rfl rfl (by decide +kernel)
set_option maxRecDepth 65536 in
theorem w_c11 : (Jvm.Cond.code ({ cls := "java/lang/StringUTF16", name := "newBytesFor", desc := "(I)[B" } : Jvm.MethodName) jdk_52_method_2_code (1 : Nat) (Option.some (Jvm.ClassFile.FieldType.array Jvm.ClassFile.FieldType.byte))).before args0 about1 = true := code_word (m := ⟨8, 1⟩) (meth := k8m1) (c := k8c1) (by decide +kernel) rfl rfl rfl (by decide +kernel)
set_option maxRecDepth 65536 in
theorem w_c12 : (Jvm.Cond.code ({ cls := "java/lang/StringUTF16", name := "newBytesLength", desc := "(I)I" } : Jvm.MethodName) jdk_52_method_3_code (1 : Nat) (Option.some Jvm.ClassFile.FieldType.int)).before args0 about1 = true := code_word (m := ⟨8, 2⟩) (meth := k8m2) (c := k8c2) (by decide +kernel) rfl rfl rfl (by decide +kernel)
set_option maxRecDepth 65536 in
theorem w_c13 : (Jvm.Cond.code ({ cls := "java/lang/StringUTF16", name := "putChar", desc := "([BII)V" } : Jvm.MethodName) jdk_52_method_4_code (3 : Nat) (Option.none : Option Jvm.ClassFile.FieldType)).before args0 about1 = true := code_word (m := ⟨8, 3⟩) (meth := k8m3) (c := k8c3) (by decide +kernel) rfl rfl rfl (by decide +kernel)
set_option maxRecDepth 65536 in
theorem w_c14 : (Jvm.Cond.code ({ cls := "java/lang/StringUTF16", name := "getChar", desc := "([BI)C" } : Jvm.MethodName) jdk_52_method_5_code (2 : Nat) (Option.some Jvm.ClassFile.FieldType.char)).before args0 about1 = true := code_word (m := ⟨8, 4⟩) (meth := k8m4) (c := k8c4) (by decide +kernel) rfl rfl rfl (by decide +kernel)
set_option maxRecDepth 65536 in
theorem w_c15 : (Jvm.Cond.code ({ cls := "java/lang/StringUTF16", name := "coderFromArrayLen", desc := "([BI)B" } : Jvm.MethodName) jdk_52_method_15_code (2 : Nat) (Option.some Jvm.ClassFile.FieldType.byte)).before args0 about1 = true := code_word (m := ⟨8, 8⟩) (meth := k8m8) (c := k8c8) (by decide +kernel) rfl rfl rfl (by decide +kernel)
set_option maxRecDepth 65536 in
theorem w_c16 : (Jvm.Cond.code ({ cls := "com/example/millwright/millwright/TestReport", name := "unescape", desc := "(Ljava/lang/String;)Ljava/lang/String;" } : Jvm.MethodName) prog_18_method_12_code (8 : Nat) (Option.some (Jvm.ClassFile.FieldType.object "java/lang/String"))).before args0 about1 = true := code_word (m := ⟨11, 0⟩) (meth := k11m0) (c := k11c0) (by decide +kernel) rfl rfl rfl (by decide +kernel)
set_option maxRecDepth 65536 in
theorem w_c17 : (Jvm.Cond.code ({ cls := "java/lang/StringBuilder", name := "<init>", desc := "()V" } : Jvm.MethodName) jdk_67_method_1_code (1 : Nat) (Option.none : Option Jvm.ClassFile.FieldType)).before args0 about1 = true := code_word (m := ⟨14, 0⟩) (meth := k14m0) (c := k14c0) (by decide +kernel) rfl rfl rfl (by decide +kernel)
set_option maxRecDepth 65536 in
theorem w_c18 : (Jvm.Cond.code ({ cls := "java/lang/AbstractStringBuilder", name := "<init>", desc := "(I)V" } : Jvm.MethodName) jdk_68_method_2_code (2 : Nat) (Option.none : Option Jvm.ClassFile.FieldType)).before args0 about1 = true := code_word (m := ⟨13, 1⟩) (meth := k13m1) (c := k13c1) (by decide +kernel) rfl rfl rfl (by decide +kernel)
set_option maxRecDepth 65536 in
theorem w_c19 : (Jvm.Cond.code ({ cls := "java/lang/String", name := "toCharArray", desc := "()[C" } : Jvm.MethodName) jdk_42_method_129_code (1 : Nat) (Option.some (Jvm.ClassFile.FieldType.array Jvm.ClassFile.FieldType.char))).before args0 about1 = true := code_word (m := ⟨7, 6⟩) (meth := k7m6) (c := k7c6) (by decide +kernel) rfl rfl rfl (by decide +kernel)
set_option maxRecDepth 65536 in
theorem w_c20 : (Jvm.Cond.code ({ cls := "java/lang/String", name := "isLatin1", desc := "()Z" } : Jvm.MethodName) jdk_42_method_154_code (1 : Nat) (Option.some Jvm.ClassFile.FieldType.boolean)).before args0 about1 = true := code_word (m := ⟨7, 10⟩) (meth := k7m10) (c := k7c10) (by decide +kernel) rfl rfl rfl (by decide +kernel)
set_option maxRecDepth 65536 in
theorem w_c21 : (Jvm.Cond.code ({ cls := "java/lang/StringUTF16", name := "toChars", desc := "([B)[C" } : Jvm.MethodName) jdk_52_method_13_code (2 : Nat) (Option.some (Jvm.ClassFile.FieldType.array Jvm.ClassFile.FieldType.char))).before args0 about1 = true := code_word (m := ⟨8, 6⟩) (meth := k8m6) (c := k8c6) (by decide +kernel) rfl rfl rfl (by decide +kernel)
set_option maxRecDepth 65536 in
theorem w_c22 : (Jvm.Cond.code ({ cls := "java/lang/StringUTF16", name := "getChars", desc := "([BII[CI)V" } : Jvm.MethodName) jdk_52_method_26_code (6 : Nat) (Option.none : Option Jvm.ClassFile.FieldType)).before args0 about1 = true := code_word (m := ⟨8, 11⟩) (meth := k8m11) (c := k8c11) (by decide +kernel) rfl rfl rfl (by decide +kernel)
set_option maxRecDepth 65536 in
theorem w_c23 : (Jvm.Cond.code ({ cls := "java/lang/StringUTF16", name := "checkBoundsOffCount", desc := "(II[B)V" } : Jvm.MethodName) jdk_52_method_94_code (3 : Nat) (Option.none : Option Jvm.ClassFile.FieldType)).before args0 about1 = true := code_word (m := ⟨8, 16⟩) (meth := k8m16) (c := k8c16) (by decide +kernel) rfl rfl rfl (by decide +kernel)
set_option maxRecDepth 65536 in
theorem w_c24 : (Jvm.Cond.code ({ cls := "java/lang/StringUTF16", name := "length", desc := "([B)I" } : Jvm.MethodName) jdk_52_method_6_code (1 : Nat) (Option.some Jvm.ClassFile.FieldType.int)).before args0 about1 = true := code_word (m := ⟨8, 5⟩) (meth := k8m5) (c := k8c5) (by decide +kernel) rfl rfl rfl (by decide +kernel)
set_option maxRecDepth 65536 in
theorem w_c25 : (Jvm.Cond.code ({ cls := "java/lang/String", name := "checkBoundsOffCount", desc := "(III)I" } : Jvm.MethodName) jdk_42_method_157_code (3 : Nat) (Option.some Jvm.ClassFile.FieldType.int)).before args0 about1 = true := code_word (m := ⟨7, 12⟩) (meth := k7m12) (c := k7c12) (by decide +kernel) rfl rfl rfl (by decide +kernel)
set_option maxRecDepth 65536 in
theorem w_c26 : (Jvm.Cond.code ({ cls := "jdk/internal/util/Preconditions", name := "checkFromIndexSize", desc := "(IIILjava/util/function/BiFunction;)I" } : Jvm.MethodName) jdk_41_method_13_code (4 : Nat) (Option.some Jvm.ClassFile.FieldType.int)).before args0 about1 = true := code_word (m := ⟨15, 2⟩) (meth := k15m2) (c := k15c2) (by decide +kernel) rfl rfl rfl (by decide +kernel)
set_option maxRecDepth 65536 in
theorem w_c27 : (Jvm.Cond.code ({ cls := "java/lang/StringBuilder", name := "append", desc := "(C)Ljava/lang/StringBuilder;" } : Jvm.MethodName) jdk_67_method_14_code (2 : Nat) (Option.some (Jvm.ClassFile.FieldType.object "java/lang/StringBuilder"))).before args0 about1 = true := code_word (m := ⟨14, 1⟩) (meth := k14m1) (c := k14c1) (by decide +kernel) rfl rfl rfl (by decide +kernel)
set_option maxRecDepth 65536 in
theorem w_c28 : (Jvm.Cond.code ({ cls := "java/lang/AbstractStringBuilder", name := "append", desc := "(C)Ljava/lang/AbstractStringBuilder;" } : Jvm.MethodName) jdk_68_method_31_code (2 : Nat) (Option.some (Jvm.ClassFile.FieldType.object "java/lang/AbstractStringBuilder"))).before args0 about1 = true := code_word (m := ⟨13, 5⟩) (meth := k13m5) (c := k13c5) (by decide +kernel) rfl rfl rfl (by decide +kernel)
set_option maxRecDepth 65536 in
theorem w_c29 : (Jvm.Cond.code ({ cls := "java/lang/AbstractStringBuilder", name := "ensureCapacityInternal", desc := "(I)V" } : Jvm.MethodName) jdk_68_method_9_code (3 : Nat) (Option.none : Option Jvm.ClassFile.FieldType)).before args0 about1 = true := code_word (m := ⟨13, 3⟩) (meth := k13m3) (c := k13c3) (by decide +kernel) rfl rfl rfl (by decide +kernel)
set_option maxRecDepth 65536 in
theorem w_c30 : (Jvm.Cond.code ({ cls := "java/lang/AbstractStringBuilder", name := "isLatin1", desc := "()Z" } : Jvm.MethodName) jdk_68_method_68_code (1 : Nat) (Option.some Jvm.ClassFile.FieldType.boolean)).before args0 about1 = true := code_word (m := ⟨13, 7⟩) (meth := k13m7) (c := k13c7) (by decide +kernel) rfl rfl rfl (by decide +kernel)
set_option maxRecDepth 65536 in
theorem w_c31 : (Jvm.Cond.code ({ cls := "java/lang/StringLatin1", name := "canEncode", desc := "(C)Z" } : Jvm.MethodName) jdk_43_method_3_code (1 : Nat) (Option.some Jvm.ClassFile.FieldType.boolean)).before args0 about1 = true := code_word (m := ⟨16, 2⟩) (meth := k16m2) (c := k16c2) (by decide +kernel) rfl rfl rfl (by decide +kernel)
set_option maxRecDepth 65536 in
theorem w_c32 : (Jvm.Cond.code ({ cls := "java/lang/AbstractStringBuilder", name := "inflate", desc := "()V" } : Jvm.MethodName) jdk_68_method_11_code (2 : Nat) (Option.none : Option Jvm.ClassFile.FieldType)).before args0 about1 = true := code_word (m := ⟨13, 4⟩) (meth := k13m4) (c := k13c4) (by decide +kernel) rfl rfl rfl (by decide +kernel)
set_option maxRecDepth 65536 in
theorem w_c33 : (Jvm.Cond.code ({ cls := "java/lang/StringLatin1", name := "inflate", desc := "([BI[BII)V" } : Jvm.MethodName) jdk_43_method_50_code (5 : Nat) (Option.none : Option Jvm.ClassFile.FieldType)).before args0 about1 = true := code_word (m := ⟨16, 5⟩) (meth := k16m5) (c := k16c5) (by decide +kernel) rfl rfl rfl (by decide +kernel)
set_option maxRecDepth 65536 in
theorem w_c34 : (Jvm.Cond.code ({ cls := "java/lang/StringUTF16", name := "inflate", desc := "([BI[BII)V" } : Jvm.MethodName) jdk_52_method_86_code (6 : Nat) (Option.none : Option Jvm.ClassFile.FieldType)).before args0 about1 = true := code_word (m := ⟨8, 14⟩) (meth := k8m14) (c := k8c14) (by decide +kernel) rfl rfl rfl (by decide +kernel)
set_option maxRecDepth 65536 in
theorem w_c35 : (Jvm.Cond.code ({ cls := "java/lang/StringUTF16", name := "putCharSB", desc := "([BII)V" } : Jvm.MethodName) jdk_52_method_71_code (3 : Nat) (Option.none : Option Jvm.ClassFile.FieldType)).before args0 about1 = true := code_word (m := ⟨8, 12⟩) (meth := k8m12) (c := k8c12) (by decide +kernel) rfl rfl rfl (by decide +kernel)
set_option maxRecDepth 65536 in
theorem w_c36 : (Jvm.Cond.code ({ cls := "java/lang/StringUTF16", name := "checkIndex", desc := "(I[B)V" } : Jvm.MethodName) jdk_52_method_91_code (2 : Nat) (Option.none : Option Jvm.ClassFile.FieldType)).before args0 about1 = true := code_word (m := ⟨8, 15⟩) (meth := k8m15) (c := k8c15) (by decide +kernel) rfl rfl rfl (by decide +kernel)
set_option maxRecDepth 65536 in
theorem w_c37 : (Jvm.Cond.code ({ cls := "java/lang/String", name := "checkIndex", desc := "(II)V" } : Jvm.MethodName) jdk_42_method_155_code (2 : Nat) (Option.none : Option Jvm.ClassFile.FieldType)).before args0 about1 = true := code_word (m := ⟨7, 11⟩) (meth := k7m11) (c := k7c11) (by decide +kernel) rfl rfl rfl (by decide +kernel)
set_option maxRecDepth 65536 in
theorem w_c38 : (Jvm.Cond.code ({ cls := "jdk/internal/util/Preconditions", name := "checkIndex", desc := "(IILjava/util/function/BiFunction;)I" } : Jvm.MethodName) jdk_41_method_11_code (3 : Nat) (Option.some Jvm.ClassFile.FieldType.int)).before args0 about1 = true := code_word (m := ⟨15, 1⟩) (meth := k15m1) (c := k15c1) (by decide +kernel) rfl rfl rfl (by decide +kernel)
set_option maxRecDepth 65536 in
theorem w_c39 : (Jvm.Cond.code ({ cls := "java/lang/StringBuilder", name := "toString", desc := "()Ljava/lang/String;" } : Jvm.MethodName) jdk_67_method_42_code (1 : Nat) (Option.some (Jvm.ClassFile.FieldType.object "java/lang/String"))).before args0 about1 = true := code_word (m := ⟨14, 2⟩) (meth := k14m2) (c := k14c2) (by decide +kernel) rfl rfl rfl (by decide +kernel)
set_option maxRecDepth 65536 in
theorem w_c40 : (Jvm.Cond.code ({ cls := "java/lang/String", name := "<init>", desc := "(Ljava/lang/StringBuilder;)V" } : Jvm.MethodName) jdk_42_method_53_code (2 : Nat) (Option.none : Option Jvm.ClassFile.FieldType)).before args0 about1 = true := code_word (m := ⟨7, 2⟩) (meth := k7m2) (c := k7c2) (by decide +kernel) rfl rfl rfl (by decide +kernel)
set_option maxRecDepth 65536 in
theorem w_c41 : (Jvm.Cond.code ({ cls := "java/lang/String", name := "<init>", desc := "(Ljava/lang/AbstractStringBuilder;Ljava/lang/Void;)V" } : Jvm.MethodName) jdk_42_method_150_code (5 : Nat) (Option.none : Option Jvm.ClassFile.FieldType)).before args0 about1 = true := code_word (m := ⟨7, 8⟩) (meth := k7m8) (c := k7c8) (by decide +kernel) rfl rfl rfl (by decide +kernel)
set_option maxRecDepth 65536 in
theorem w_c42 : (Jvm.Cond.code ({ cls := "java/lang/AbstractStringBuilder", name := "getValue", desc := "()[B" } : Jvm.MethodName) jdk_68_method_64_code (1 : Nat) (Option.some (Jvm.ClassFile.FieldType.array Jvm.ClassFile.FieldType.byte))).before args0 about1 = true := code_word (m := ⟨13, 6⟩) (meth := k13m6) (c := k13c6) (by decide +kernel) rfl rfl rfl (by decide +kernel)
set_option maxRecDepth 65536 in
theorem w_c43 : (Jvm.Cond.code ({ cls := "java/lang/StringBuilder", name := "length", desc := "()I" } : Jvm.MethodName) jdk_67_method_93_code (1 : Nat) (Option.some Jvm.ClassFile.FieldType.int)).before args0 about1 = true := code_word (m := ⟨14, 3⟩) (meth := k14m3) (c := k14c3) (by decide +kernel) rfl rfl rfl (by decide +kernel)
set_option maxRecDepth 65536 in
theorem w_c44 : (Jvm.Cond.code ({ cls := "java/lang/AbstractStringBuilder", name := "length", desc := "()I" } : Jvm.MethodName) jdk_68_method_6_code (1 : Nat) (Option.some Jvm.ClassFile.FieldType.int)).before args0 about1 = true := code_word (m := ⟨13, 2⟩) (meth := k13m2) (c := k13c2) (by decide +kernel) rfl rfl rfl (by decide +kernel)
set_option maxRecDepth 65536 in
theorem w_c45 : (Jvm.Cond.code ({ cls := "java/util/Arrays", name := "copyOfRange", desc := "([BII)[B" } : Jvm.MethodName) jdk_65_method_132_code (3 : Nat) (Option.some (Jvm.ClassFile.FieldType.array Jvm.ClassFile.FieldType.byte))).before args0 about1 = true := code_word (m := ⟨17, 2⟩) (meth := k17m2) (c := k17c2) (by decide +kernel) rfl rfl rfl (by decide +kernel)
set_option maxRecDepth 65536 in
theorem w_c46 : (Jvm.Cond.code ({ cls := "java/util/Arrays", name := "copyOfRangeByte", desc := "([BII)[B" } : Jvm.MethodName) jdk_65_method_133_code (5 : Nat) (Option.some (Jvm.ClassFile.FieldType.array Jvm.ClassFile.FieldType.byte))).before args0 about1 = true := code_word (m := ⟨17, 3⟩) (meth := k17m3) (c := k17c3) (by decide +kernel) rfl rfl rfl (by decide +kernel)
set_option maxRecDepth 65536 in
theorem w_c47 : (Jvm.Cond.code ({ cls := "java/util/Arrays", name := "checkLength", desc := "(II)V" } : Jvm.MethodName) jdk_65_method_131_code (2 : Nat) (Option.none : Option Jvm.ClassFile.FieldType)).before args0 about1 = true := code_word (m := ⟨17, 1⟩) (meth := k17m1) (c := k17c1) (by decide +kernel) rfl rfl rfl (by decide +kernel)
set_option maxRecDepth 65536 in
theorem w_c48 : (Jvm.Cond.code ({ cls := "java/lang/Math", name := "min", desc := "(II)I" } : Jvm.MethodName) jdk_29_method_69_code (2 : Nat) (Option.some Jvm.ClassFile.FieldType.int)).before args0 about1 = true := code_word (m := ⟨18, 1⟩) (meth := k18m1) (c := k18c1) (by decide +kernel) rfl rfl rfl (by decide +kernel)
set_option maxRecDepth 65536 in
theorem w_c49 : (Jvm.Cond.code ({ cls := "java/lang/StringLatin1", name := "toChars", desc := "([B)[C" } : Jvm.MethodName) jdk_43_method_9_code (2 : Nat) (Option.some (Jvm.ClassFile.FieldType.array Jvm.ClassFile.FieldType.char))).before args0 about1 = true := code_word (m := ⟨16, 3⟩) (meth := k16m3) (c := k16c3) (by decide +kernel) rfl rfl rfl (by decide +kernel)
set_option maxRecDepth 65536 in
theorem w_c50 : (Jvm.Cond.code ({ cls := "java/lang/StringLatin1", name := "inflate", desc := "([BI[CII)V" } : Jvm.MethodName) jdk_43_method_49_code (6 : Nat) (Option.none : Option Jvm.ClassFile.FieldType)).before args0 about1 = true := code_word (m := ⟨16, 4⟩) (meth := k16m4) (c := k16c4) (by decide +kernel) rfl rfl rfl (by decide +kernel)
set_option maxRecDepth 65536 in
theorem w_c51 : (Jvm.Cond.code ({ cls := "java/lang/String", name := "isEmpty", desc := "()Z" } : Jvm.MethodName) jdk_42_method_55_code (1 : Nat) (Option.some Jvm.ClassFile.FieldType.boolean)).before args0 about1 = true := code_word (m := ⟨7, 4⟩) (meth := k7m4) (c := k7c4) (by decide +kernel) rfl rfl rfl (by decide +kernel)
set_option maxRecDepth 65536 in
theorem w_c52 : (Jvm.Cond.code ({ cls := "java/lang/String", name := "length", desc := "()I" } : Jvm.MethodName) jdk_42_method_54_code (1 : Nat) (Option.some Jvm.ClassFile.FieldType.int)).before args0 about1 = true := code_word (m := ⟨7, 3⟩) (meth := k7m3) (c := k7c3) (by decide +kernel) rfl rfl rfl (by decide +kernel)
set_option maxRecDepth 65536 in
theorem w_c53 : (Jvm.Cond.code ({ cls := "java/lang/String", name := "coder", desc := "()B" } : Jvm.MethodName) jdk_42_method_152_code (1 : Nat) (Option.some Jvm.ClassFile.FieldType.byte)).before args0 about1 = true := code_word (m := ⟨7, 9⟩) (meth := k7m9) (c := k7c9) (by decide +kernel) rfl rfl rfl (by decide +kernel)
set_option maxRecDepth 65536 in
theorem w_c54 : (Jvm.Cond.code ({ cls := "com/example/millwright/millwright/TestReportUnescapePinLaw", name := "same", desc := "(Ljava/lang/String;[CII)Z" } : Jvm.MethodName) method_3_code (4 : Nat) (Option.some Jvm.ClassFile.FieldType.boolean)).before args0 about1 = true := code_word (m := ⟨1, 2⟩) (meth := k1m2) (c := k1c2) (by decide +kernel) rfl rfl rfl (by decide +kernel)
set_option maxRecDepth 65536 in
theorem w_c55 : (Jvm.Cond.code ({ cls := "java/lang/String", name := "charAt", desc := "(I)C" } : Jvm.MethodName) jdk_42_method_56_code (2 : Nat) (Option.some Jvm.ClassFile.FieldType.char)).before args0 about1 = true := code_word (m := ⟨7, 5⟩) (meth := k7m5) (c := k7c5) (by decide +kernel) rfl rfl rfl (by decide +kernel)
set_option maxRecDepth 65536 in
theorem w_c56 : (Jvm.Cond.code ({ cls := "java/lang/StringUTF16", name := "charAt", desc := "([BI)C" } : Jvm.MethodName) jdk_52_method_83_code (2 : Nat) (Option.some Jvm.ClassFile.FieldType.char)).before args0 about1 = true := code_word (m := ⟨8, 13⟩) (meth := k8m13) (c := k8c13) (by decide +kernel) rfl rfl rfl (by decide +kernel)
set_option maxRecDepth 65536 in
theorem w_c57 : (Jvm.Cond.code ({ cls := "com/example/millwright/millwright/TestReportUnescapePinLaw", name := "special", desc := "(I)C" } : Jvm.MethodName) method_7_code (1 : Nat) (Option.some Jvm.ClassFile.FieldType.char)).before args0 about1 = true := code_word (m := ⟨1, 6⟩) (meth := k1m6) (c := k1c6) (by decide +kernel) rfl rfl rfl (by decide +kernel)
set_option maxRecDepth 65536 in
theorem w_c58 : (Jvm.Cond.code ({ cls := "java/lang/StringLatin1", name := "charAt", desc := "([BI)C" } : Jvm.MethodName) jdk_43_method_2_code (2 : Nat) (Option.some Jvm.ClassFile.FieldType.char)).before args0 about1 = true := code_word (m := ⟨16, 1⟩) (meth := k16m1) (c := k16c1) (by decide +kernel) rfl rfl rfl (by decide +kernel)
def codes1 : List Jvm.Cond := [Jvm.Cond.code x code maxLocals ret, Jvm.Cond.code ({ cls := "com/example/millwright/millwright/TestReportUnescapePinLaw", name := "token", desc := "(J[CI[CI)I" } : Jvm.MethodName) method_4_code (11 : Nat) (Option.some Jvm.ClassFile.FieldType.int), Jvm.Cond.code ({ cls := "com/example/millwright/millwright/TestReportUnescapePinLaw", name := "letter", desc := "(I)C" } : Jvm.MethodName) method_6_code (1 : Nat) (Option.some Jvm.ClassFile.FieldType.char), Jvm.Cond.code ({ cls := "com/example/millwright/millwright/TestReportUnescapePinLaw", name := "meaning", desc := "(C)C" } : Jvm.MethodName) method_8_code (1 : Nat) (Option.some Jvm.ClassFile.FieldType.char), Jvm.Cond.code ({ cls := "com/example/millwright/millwright/TestReportUnescapePinLaw", name := "plain", desc := "(C)C" } : Jvm.MethodName) method_5_code (1 : Nat) (Option.some Jvm.ClassFile.FieldType.char), Jvm.Cond.code ({ cls := "java/lang/String", name := "<init>", desc := "([C)V" } : Jvm.MethodName) jdk_42_method_3_code (2 : Nat) (Option.none : Option Jvm.ClassFile.FieldType), Jvm.Cond.code ({ cls := "java/lang/String", name := "<init>", desc := "([CIILjava/lang/Void;)V" } : Jvm.MethodName) jdk_42_method_149_code (6 : Nat) (Option.none : Option Jvm.ClassFile.FieldType), Jvm.Cond.code ({ cls := "java/lang/Object", name := "<init>", desc := "()V" } : Jvm.MethodName) object_method_1_code (1 : Nat) (Option.none : Option Jvm.ClassFile.FieldType), Jvm.Cond.code ({ cls := "java/lang/StringUTF16", name := "compress", desc := "([CII)[B" } : Jvm.MethodName) jdk_52_method_16_code (6 : Nat) (Option.some (Jvm.ClassFile.FieldType.array Jvm.ClassFile.FieldType.byte)), Jvm.Cond.code ({ cls := "java/lang/StringUTF16", name := "compress", desc := "([CI[BII)I" } : Jvm.MethodName) jdk_52_method_21_code (7 : Nat) (Option.some Jvm.ClassFile.FieldType.int), Jvm.Cond.code ({ cls := "java/lang/StringUTF16", name := "toBytes", desc := "([CII)[B" } : Jvm.MethodName) jdk_52_method_14_code (5 : Nat) (Option.some (Jvm.ClassFile.FieldType.array Jvm.ClassFile.FieldType.byte)), Jvm.Cond.code ({ cls := "java/lang/StringUTF16", name := "newBytesFor", desc := "(I)[B" } : Jvm.MethodName) jdk_52_method_2_code (1 : Nat) (Option.some (Jvm.ClassFile.FieldType.array Jvm.ClassFile.FieldType.byte)), Jvm.Cond.code ({ cls := "java/lang/StringUTF16", name := "newBytesLength", desc := "(I)I" } : Jvm.MethodName) jdk_52_method_3_code (1 : Nat) (Option.some Jvm.ClassFile.FieldType.int), Jvm.Cond.code ({ cls := "java/lang/StringUTF16", name := "putChar", desc := "([BII)V" } : Jvm.MethodName) jdk_52_method_4_code (3 : Nat) (Option.none : Option Jvm.ClassFile.FieldType), Jvm.Cond.code ({ cls := "java/lang/StringUTF16", name := "getChar", desc := "([BI)C" } : Jvm.MethodName) jdk_52_method_5_code (2 : Nat) (Option.some Jvm.ClassFile.FieldType.char), Jvm.Cond.code ({ cls := "java/lang/StringUTF16", name := "coderFromArrayLen", desc := "([BI)B" } : Jvm.MethodName) jdk_52_method_15_code (2 : Nat) (Option.some Jvm.ClassFile.FieldType.byte), Jvm.Cond.code ({ cls := "com/example/millwright/millwright/TestReport", name := "unescape", desc := "(Ljava/lang/String;)Ljava/lang/String;" } : Jvm.MethodName) prog_18_method_12_code (8 : Nat) (Option.some (Jvm.ClassFile.FieldType.object "java/lang/String")), Jvm.Cond.code ({ cls := "java/lang/StringBuilder", name := "<init>", desc := "()V" } : Jvm.MethodName) jdk_67_method_1_code (1 : Nat) (Option.none : Option Jvm.ClassFile.FieldType), Jvm.Cond.code ({ cls := "java/lang/AbstractStringBuilder", name := "<init>", desc := "(I)V" } : Jvm.MethodName) jdk_68_method_2_code (2 : Nat) (Option.none : Option Jvm.ClassFile.FieldType), Jvm.Cond.code ({ cls := "java/lang/String", name := "toCharArray", desc := "()[C" } : Jvm.MethodName) jdk_42_method_129_code (1 : Nat) (Option.some (Jvm.ClassFile.FieldType.array Jvm.ClassFile.FieldType.char)), Jvm.Cond.code ({ cls := "java/lang/String", name := "isLatin1", desc := "()Z" } : Jvm.MethodName) jdk_42_method_154_code (1 : Nat) (Option.some Jvm.ClassFile.FieldType.boolean), Jvm.Cond.code ({ cls := "java/lang/StringUTF16", name := "toChars", desc := "([B)[C" } : Jvm.MethodName) jdk_52_method_13_code (2 : Nat) (Option.some (Jvm.ClassFile.FieldType.array Jvm.ClassFile.FieldType.char)), Jvm.Cond.code ({ cls := "java/lang/StringUTF16", name := "getChars", desc := "([BII[CI)V" } : Jvm.MethodName) jdk_52_method_26_code (6 : Nat) (Option.none : Option Jvm.ClassFile.FieldType), Jvm.Cond.code ({ cls := "java/lang/StringUTF16", name := "checkBoundsOffCount", desc := "(II[B)V" } : Jvm.MethodName) jdk_52_method_94_code (3 : Nat) (Option.none : Option Jvm.ClassFile.FieldType), Jvm.Cond.code ({ cls := "java/lang/StringUTF16", name := "length", desc := "([B)I" } : Jvm.MethodName) jdk_52_method_6_code (1 : Nat) (Option.some Jvm.ClassFile.FieldType.int), Jvm.Cond.code ({ cls := "java/lang/String", name := "checkBoundsOffCount", desc := "(III)I" } : Jvm.MethodName) jdk_42_method_157_code (3 : Nat) (Option.some Jvm.ClassFile.FieldType.int), Jvm.Cond.code ({ cls := "jdk/internal/util/Preconditions", name := "checkFromIndexSize", desc := "(IIILjava/util/function/BiFunction;)I" } : Jvm.MethodName) jdk_41_method_13_code (4 : Nat) (Option.some Jvm.ClassFile.FieldType.int), Jvm.Cond.code ({ cls := "java/lang/StringBuilder", name := "append", desc := "(C)Ljava/lang/StringBuilder;" } : Jvm.MethodName) jdk_67_method_14_code (2 : Nat) (Option.some (Jvm.ClassFile.FieldType.object "java/lang/StringBuilder")), Jvm.Cond.code ({ cls := "java/lang/AbstractStringBuilder", name := "append", desc := "(C)Ljava/lang/AbstractStringBuilder;" } : Jvm.MethodName) jdk_68_method_31_code (2 : Nat) (Option.some (Jvm.ClassFile.FieldType.object "java/lang/AbstractStringBuilder")), Jvm.Cond.code ({ cls := "java/lang/AbstractStringBuilder", name := "ensureCapacityInternal", desc := "(I)V" } : Jvm.MethodName) jdk_68_method_9_code (3 : Nat) (Option.none : Option Jvm.ClassFile.FieldType), Jvm.Cond.code ({ cls := "java/lang/AbstractStringBuilder", name := "isLatin1", desc := "()Z" } : Jvm.MethodName) jdk_68_method_68_code (1 : Nat) (Option.some Jvm.ClassFile.FieldType.boolean), Jvm.Cond.code ({ cls := "java/lang/StringLatin1", name := "canEncode", desc := "(C)Z" } : Jvm.MethodName) jdk_43_method_3_code (1 : Nat) (Option.some Jvm.ClassFile.FieldType.boolean), Jvm.Cond.code ({ cls := "java/lang/AbstractStringBuilder", name := "inflate", desc := "()V" } : Jvm.MethodName) jdk_68_method_11_code (2 : Nat) (Option.none : Option Jvm.ClassFile.FieldType), Jvm.Cond.code ({ cls := "java/lang/StringLatin1", name := "inflate", desc := "([BI[BII)V" } : Jvm.MethodName) jdk_43_method_50_code (5 : Nat) (Option.none : Option Jvm.ClassFile.FieldType), Jvm.Cond.code ({ cls := "java/lang/StringUTF16", name := "inflate", desc := "([BI[BII)V" } : Jvm.MethodName) jdk_52_method_86_code (6 : Nat) (Option.none : Option Jvm.ClassFile.FieldType), Jvm.Cond.code ({ cls := "java/lang/StringUTF16", name := "putCharSB", desc := "([BII)V" } : Jvm.MethodName) jdk_52_method_71_code (3 : Nat) (Option.none : Option Jvm.ClassFile.FieldType), Jvm.Cond.code ({ cls := "java/lang/StringUTF16", name := "checkIndex", desc := "(I[B)V" } : Jvm.MethodName) jdk_52_method_91_code (2 : Nat) (Option.none : Option Jvm.ClassFile.FieldType), Jvm.Cond.code ({ cls := "java/lang/String", name := "checkIndex", desc := "(II)V" } : Jvm.MethodName) jdk_42_method_155_code (2 : Nat) (Option.none : Option Jvm.ClassFile.FieldType), Jvm.Cond.code ({ cls := "jdk/internal/util/Preconditions", name := "checkIndex", desc := "(IILjava/util/function/BiFunction;)I" } : Jvm.MethodName) jdk_41_method_11_code (3 : Nat) (Option.some Jvm.ClassFile.FieldType.int), Jvm.Cond.code ({ cls := "java/lang/StringBuilder", name := "toString", desc := "()Ljava/lang/String;" } : Jvm.MethodName) jdk_67_method_42_code (1 : Nat) (Option.some (Jvm.ClassFile.FieldType.object "java/lang/String")), Jvm.Cond.code ({ cls := "java/lang/String", name := "<init>", desc := "(Ljava/lang/StringBuilder;)V" } : Jvm.MethodName) jdk_42_method_53_code (2 : Nat) (Option.none : Option Jvm.ClassFile.FieldType), Jvm.Cond.code ({ cls := "java/lang/String", name := "<init>", desc := "(Ljava/lang/AbstractStringBuilder;Ljava/lang/Void;)V" } : Jvm.MethodName) jdk_42_method_150_code (5 : Nat) (Option.none : Option Jvm.ClassFile.FieldType), Jvm.Cond.code ({ cls := "java/lang/AbstractStringBuilder", name := "getValue", desc := "()[B" } : Jvm.MethodName) jdk_68_method_64_code (1 : Nat) (Option.some (Jvm.ClassFile.FieldType.array Jvm.ClassFile.FieldType.byte)), Jvm.Cond.code ({ cls := "java/lang/StringBuilder", name := "length", desc := "()I" } : Jvm.MethodName) jdk_67_method_93_code (1 : Nat) (Option.some Jvm.ClassFile.FieldType.int), Jvm.Cond.code ({ cls := "java/lang/AbstractStringBuilder", name := "length", desc := "()I" } : Jvm.MethodName) jdk_68_method_6_code (1 : Nat) (Option.some Jvm.ClassFile.FieldType.int), Jvm.Cond.code ({ cls := "java/util/Arrays", name := "copyOfRange", desc := "([BII)[B" } : Jvm.MethodName) jdk_65_method_132_code (3 : Nat) (Option.some (Jvm.ClassFile.FieldType.array Jvm.ClassFile.FieldType.byte)), Jvm.Cond.code ({ cls := "java/util/Arrays", name := "copyOfRangeByte", desc := "([BII)[B" } : Jvm.MethodName) jdk_65_method_133_code (5 : Nat) (Option.some (Jvm.ClassFile.FieldType.array Jvm.ClassFile.FieldType.byte)), Jvm.Cond.code ({ cls := "java/util/Arrays", name := "checkLength", desc := "(II)V" } : Jvm.MethodName) jdk_65_method_131_code (2 : Nat) (Option.none : Option Jvm.ClassFile.FieldType), Jvm.Cond.code ({ cls := "java/lang/Math", name := "min", desc := "(II)I" } : Jvm.MethodName) jdk_29_method_69_code (2 : Nat) (Option.some Jvm.ClassFile.FieldType.int), Jvm.Cond.code ({ cls := "java/lang/StringLatin1", name := "toChars", desc := "([B)[C" } : Jvm.MethodName) jdk_43_method_9_code (2 : Nat) (Option.some (Jvm.ClassFile.FieldType.array Jvm.ClassFile.FieldType.char)), Jvm.Cond.code ({ cls := "java/lang/StringLatin1", name := "inflate", desc := "([BI[CII)V" } : Jvm.MethodName) jdk_43_method_49_code (6 : Nat) (Option.none : Option Jvm.ClassFile.FieldType), Jvm.Cond.code ({ cls := "java/lang/String", name := "isEmpty", desc := "()Z" } : Jvm.MethodName) jdk_42_method_55_code (1 : Nat) (Option.some Jvm.ClassFile.FieldType.boolean), Jvm.Cond.code ({ cls := "java/lang/String", name := "length", desc := "()I" } : Jvm.MethodName) jdk_42_method_54_code (1 : Nat) (Option.some Jvm.ClassFile.FieldType.int), Jvm.Cond.code ({ cls := "java/lang/String", name := "coder", desc := "()B" } : Jvm.MethodName) jdk_42_method_152_code (1 : Nat) (Option.some Jvm.ClassFile.FieldType.byte), Jvm.Cond.code ({ cls := "com/example/millwright/millwright/TestReportUnescapePinLaw", name := "same", desc := "(Ljava/lang/String;[CII)Z" } : Jvm.MethodName) method_3_code (4 : Nat) (Option.some Jvm.ClassFile.FieldType.boolean), Jvm.Cond.code ({ cls := "java/lang/String", name := "charAt", desc := "(I)C" } : Jvm.MethodName) jdk_42_method_56_code (2 : Nat) (Option.some Jvm.ClassFile.FieldType.char), Jvm.Cond.code ({ cls := "java/lang/StringUTF16", name := "charAt", desc := "([BI)C" } : Jvm.MethodName) jdk_52_method_83_code (2 : Nat) (Option.some Jvm.ClassFile.FieldType.char), Jvm.Cond.code ({ cls := "com/example/millwright/millwright/TestReportUnescapePinLaw", name := "special", desc := "(I)C" } : Jvm.MethodName) method_7_code (1 : Nat) (Option.some Jvm.ClassFile.FieldType.char), Jvm.Cond.code ({ cls := "java/lang/StringLatin1", name := "charAt", desc := "([BI)C" } : Jvm.MethodName) jdk_43_method_2_code (2 : Nat) (Option.some Jvm.ClassFile.FieldType.char)]
set_option maxRecDepth 65536 in
theorem codes_eq : words1.filter isCode = codes1 := rfl
theorem w_codes : ∀ c ∈ words1.filter isCode, c.before args0 about1 = true := by
  rw [codes_eq]
  intro c hc
  simp only [codes1, List.mem_cons, List.not_mem_nil, or_false] at hc
  rcases hc with rfl | rfl | rfl | rfl | rfl | rfl | rfl | rfl | rfl | rfl | rfl | rfl | rfl | rfl | rfl | rfl | rfl | rfl | rfl | rfl | rfl | rfl | rfl | rfl | rfl | rfl | rfl | rfl | rfl | rfl | rfl | rfl | rfl | rfl | rfl | rfl | rfl | rfl | rfl | rfl | rfl | rfl | rfl | rfl | rfl | rfl | rfl | rfl | rfl | rfl | rfl | rfl | rfl | rfl | rfl | rfl | rfl | rfl | rfl
  · exact w_c0
  · exact w_c1
  · exact w_c2
  · exact w_c3
  · exact w_c4
  · exact w_c5
  · exact w_c6
  · exact w_c7
  · exact w_c8
  · exact w_c9
  · exact w_c10
  · exact w_c11
  · exact w_c12
  · exact w_c13
  · exact w_c14
  · exact w_c15
  · exact w_c16
  · exact w_c17
  · exact w_c18
  · exact w_c19
  · exact w_c20
  · exact w_c21
  · exact w_c22
  · exact w_c23
  · exact w_c24
  · exact w_c25
  · exact w_c26
  · exact w_c27
  · exact w_c28
  · exact w_c29
  · exact w_c30
  · exact w_c31
  · exact w_c32
  · exact w_c33
  · exact w_c34
  · exact w_c35
  · exact w_c36
  · exact w_c37
  · exact w_c38
  · exact w_c39
  · exact w_c40
  · exact w_c41
  · exact w_c42
  · exact w_c43
  · exact w_c44
  · exact w_c45
  · exact w_c46
  · exact w_c47
  · exact w_c48
  · exact w_c49
  · exact w_c50
  · exact w_c51
  · exact w_c52
  · exact w_c53
  · exact w_c54
  · exact w_c55
  · exact w_c56
  · exact w_c57
  · exact w_c58
set_option maxRecDepth 65536 in
theorem w_t1 : (words1.take 24).all (fun c => isCode c || c.before args0 about1) = true := by decide +kernel
set_option maxRecDepth 65536 in
theorem w_t2 : ((words1.drop 24).take 24).all (fun c => isCode c || c.before args0 about1) = true := by decide +kernel
set_option maxRecDepth 65536 in
theorem w_t3 : (((words1.drop 24).drop 24).take 24).all (fun c => isCode c || c.before args0 about1) = true := by decide +kernel
set_option maxRecDepth 65536 in
theorem w_t4 : ((((words1.drop 24).drop 24).drop 24).take 24).all (fun c => isCode c || c.before args0 about1) = true := by decide +kernel
set_option maxRecDepth 65536 in
theorem w_t5 : (((((words1.drop 24).drop 24).drop 24).drop 24).take 24).all (fun c => isCode c || c.before args0 about1) = true := by decide +kernel
set_option maxRecDepth 65536 in
theorem w_t6 : ((((((words1.drop 24).drop 24).drop 24).drop 24).drop 24).take 24).all (fun c => isCode c || c.before args0 about1) = true := by decide +kernel
set_option maxRecDepth 65536 in
theorem w_t7 : (((((((words1.drop 24).drop 24).drop 24).drop 24).drop 24).drop 24).take 24).all (fun c => isCode c || c.before args0 about1) = true := by decide +kernel
set_option maxRecDepth 65536 in
theorem w_t8 : ((((((((words1.drop 24).drop 24).drop 24).drop 24).drop 24).drop 24).drop 24).take 24).all (fun c => isCode c || c.before args0 about1) = true := by decide +kernel
set_option maxRecDepth 65536 in
theorem w_t9 : (((((((((words1.drop 24).drop 24).drop 24).drop 24).drop 24).drop 24).drop 24).drop 24).take 24).all (fun c => isCode c || c.before args0 about1) = true := by decide +kernel
set_option maxRecDepth 65536 in
theorem w_t10 : ((((((((((words1.drop 24).drop 24).drop 24).drop 24).drop 24).drop 24).drop 24).drop 24).drop 24).take 24).all (fun c => isCode c || c.before args0 about1) = true := by decide +kernel
set_option maxRecDepth 65536 in
theorem w_t11 : ((((((((((words1.drop 24).drop 24).drop 24).drop 24).drop 24).drop 24).drop 24).drop 24).drop 24).drop 24).all (fun c => isCode c || c.before args0 about1) = true := by decide +kernel
theorem w_tables : (allAtoms (Jvm.Cond.code x code maxLocals ret :: tables_1)).before args0 about1 = true := by
  rw [allAtoms_all]
  show words1.all (fun c => c.before args0 about1) = true
  refine all_split ?_ w_codes
  rw [← List.take_append_drop 24 words1, List.all_append, w_t1, ← List.take_append_drop 24 (words1.drop 24), List.all_append, w_t2, ← List.take_append_drop 24 ((words1.drop 24).drop 24), List.all_append, w_t3, ← List.take_append_drop 24 (((words1.drop 24).drop 24).drop 24), List.all_append, w_t4, ← List.take_append_drop 24 ((((words1.drop 24).drop 24).drop 24).drop 24), List.all_append, w_t5, ← List.take_append_drop 24 (((((words1.drop 24).drop 24).drop 24).drop 24).drop 24), List.all_append, w_t6, ← List.take_append_drop 24 ((((((words1.drop 24).drop 24).drop 24).drop 24).drop 24).drop 24), List.all_append, w_t7, ← List.take_append_drop 24 (((((((words1.drop 24).drop 24).drop 24).drop 24).drop 24).drop 24).drop 24), List.all_append, w_t8, ← List.take_append_drop 24 ((((((((words1.drop 24).drop 24).drop 24).drop 24).drop 24).drop 24).drop 24).drop 24), List.all_append, w_t9, ← List.take_append_drop 24 (((((((((words1.drop 24).drop 24).drop 24).drop 24).drop 24).drop 24).drop 24).drop 24).drop 24), List.all_append, w_t10, w_t11]
  rfl
set_option maxRecDepth 65536 in
theorem w_rest : rest_1_c.before args0 about1 = true := by decide +kernel
set_option maxRecDepth 65536 in
theorem w_case : (Jvm.Cond.and given_1 narrow_1).before args0 about1 = true := by decide +kernel
set_option maxRecDepth 65536 in
theorem w_consts : constsHeld consts_1 about1 := Jvm.Lit.constsHeldB_iff.mp (by decide +kernel)
theorem w_applies : (headSpec (Jvm.Cond.code x code maxLocals ret :: tables_1) room_1).applies x e0.platform about1 = true :=
  (Spec.applies_iff w_frames).mpr ⟨w_running, w_runnable, w_alone, w_named, w_hears, w_ripe, w_room, w_tables⟩
theorem atStart : AtStart classFile x code maxLocals ret World_1 tables_1 room_1 Calls_1 rest_1 Pre_1 launch0 p0 e0 about1 theMethod args0 below0 :=
  ⟨lists_1, trivial, launch0.admits_env _ _ _, launch0.least_env, fairChoices_fair.cas, fairChoices_fair.clock, w_frames, w_args, w_heap, w_applies, ⟨w_consts, trivial⟩, w_rest, w_case⟩
end start1
theorem witness_1 : WitnessClaimed_1 := ⟨start1.p0, start1.e0, start1.about1, start1.theMethod, start1.args0, start1.below0, start1.atStart⟩
end Jvm.Pilot.@@N@@
