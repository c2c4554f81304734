import JvmDerived
import JvmDerived.Pilot.@@N@@Statement
import JvmDerived.Pilot.@@N@@Code
set_option linter.unusedVariables false
set_option linter.unusedSimpArgs false
namespace Jvm.OwnKit
open Jvm Jvm.ClassFile Sem Op Lib Jvm.Free Jvm.Stand Jvm.LawKit Jvm.RoadKit
/-- from the frame f at T the invocation comes to an end of which P holds -/
def Goes (p : Program) (e : Env) (below : List Frame) (P : Outcome → State → Prop) (T : State) (f : JFrame) : Prop :=
  ∃ s₂ o, Steps p.tables e below (T.setTop f) s₂ ∧ s₂.status = .running ∧ Ended s₂ below o ∧ P o s₂
theorem Goes.step {p : Program} {e : Env} {below : List Frame} {P : Outcome → State → Prop} {T T' : State} {f f' : JFrame} (K : Goes p e below P T' f') (q : ∀ t, Steps p.tables e below (T'.setTop f') t → Steps p.tables e below (T.setTop f) t) : Goes p e below P T f := by
  obtain ⟨s₂, o, h1, h2⟩ := K; exact ⟨s₂, o, q _ h1, h2⟩
/-- THE WALK STANDS at T over the heap h: what was written lies above n0; at most k cells of n slots were made; over h0 only the cells of ws have turned -/
def Wk (p : Program) (l : Launch) (e : Env) (R : Room) (s : State) (m : MethodId) (args : Array Value) (below : List Frame) (meth : Method) (c : Code)
    (Z : State) (own : String) (bytes : ByteArray) (maxL : Nat) (ret : Option FieldType) (mn : String) (n0 : Nat) (h0 : Heap) (ws : List Addr) (T : State) (h : Heap) (k n : Nat) : Prop :=
  (p.tables.exec = Jvm.exec ∧ c.code = bytes ∧ c.maxLocals = maxL ∧ Z.Warmed39 s.vm ∧ s.vm.findClass own = some m.cls ∧ meth.sig.returnType = ret ∧ meth.locks = false ∧ meth.name = mn ∧ (∀ x ∈ ws, n0 ≤ x) ∧ n0 ≤ h0.size) ∧
  ∃ locs cells slots, Stand p l e R s m args below meth c T locs cells slots ∧ T.heap = h ∧ Fr n0 locs ∧ cells ≤ k ∧ slots ≤ n ∧ Old Z n0 h ∧ Keep h0 h ws
section Steps
variable {p : Program} {l : Launch} {e : Env} {R : Room} {s : State} {m : MethodId} {args : Array Value} {below : List Frame} {meth : Method} {c : Code} {Z : State} {own : String} {bytes : ByteArray} {maxL : Nat} {ret : Option FieldType} {mn : String} {n0 : Nat} {h0 : Heap} {ws : List Addr} {T : State} {h : Heap} {k n : Nat} {P : Outcome → State → Prop} {Ls : Array Slot} {st : List Value} {pc pc' : Nat} {a0 : Array Value}
theorem Wk.mono (w : Wk p l e R s m args below meth c Z own bytes maxL ret mn n0 h0 ws T h k n) {k' n' : Nat} (hk : k ≤ k') (hn : n ≤ n') : Wk p l e R s m args below meth c Z own bytes maxL ret mn n0 h0 ws T h k' n' := by
  obtain ⟨cx, locs, cells, slots, X, e1, N, a, b, r⟩ := w; exact ⟨cx, locs, cells, slots, X, e1, N, Nat.le_trans a hk, Nat.le_trans b hn, r⟩
theorem Wk.kp (w : Wk p l e R s m args below meth c Z own bytes maxL ret mn n0 h0 ws T h k n) : Keep h0 h ws := w.2.choose_spec.choose_spec.choose_spec.2.2.2.2.2.2
theorem Wk.old (w : Wk p l e R s m args below meth c Z own bytes maxL ret mn n0 h0 ws T h k n) : Old Z n0 h := w.2.choose_spec.choose_spec.choose_spec.2.2.2.2.2.1
theorem Wk.le0 (w : Wk p l e R s m args below meth c Z own bytes maxL ret mn n0 h0 ws T h k n) : h0.size ≤ h.size := w.kp.1
theorem Wk.n0h0 (w : Wk p l e R s m args below meth c Z own bytes maxL ret mn n0 h0 ws T h k n) : n0 ≤ h0.size := w.1.2.2.2.2.2.2.2.2.2
theorem Wk.le (w : Wk p l e R s m args below meth c Z own bytes maxL ret mn n0 h0 ws T h k n) : n0 ≤ h.size := Nat.le_trans w.n0h0 w.le0
theorem Wk.hZ (w : Wk p l e R s m args below meth c Z own bytes maxL ret mn n0 h0 ws T h k n) : Z.Warmed39 s.vm := w.1.2.2.2.1
theorem Wk.heap (w : Wk p l e R s m args below meth c Z own bytes maxL ret mn n0 h0 ws T h k n) : T.heap = h := w.2.choose_spec.choose_spec.choose_spec.2.1
theorem Wk.sta (w : Wk p l e R s m args below meth c Z own bytes maxL ret mn n0 h0 ws T h k n) {C nm d : String} {v : Value} (S : Sta Z Z.heap C nm d v) : Sta Z h C nm d v := S.ext w.old.2
theorem Wk.wsn {a : Addr} (w : Wk p l e R s m args below meth c Z own bytes maxL ret mn n0 h0 ws T h k n) (q : a ∈ ws ∨ h0.size ≤ a) : n0 ≤ a := q.elim (w.1.2.2.2.2.2.2.2.2.1 a) (Nat.le_trans w.n0h0)
theorem i_aload (w : Wk p l e R s m args below meth c Z own bytes maxL ret mn n0 h0 ws T h k n) {i : Nat} {v : Value} (d : decode bytes pc = .ok (.aload i, 2)) (hl : Ls[i]? = some (.val v)) (hv : v.isRef = true) (hp : pc + 2 = pc') (K : Goes p e below P T (mkF m pc' Ls (v :: st))) : Goes p e below P T (mkF m pc Ls (st)) := by
  obtain ⟨⟨hx, hb', -⟩, locs, cells, slots, X, -⟩ := w
  subst hp
  exact K.step fun t q => XS.aload X.here hx rfl (hb hb' d) hl hv q
theorem i_aloadN (w : Wk p l e R s m args below meth c Z own bytes maxL ret mn n0 h0 ws T h k n) {i : Fin 4} {v : Value} (d : decode bytes pc = .ok (.aload_n i, 1)) (hl : Ls[i.val]? = some (.val v)) (hv : v.isRef = true) (hp : pc + 1 = pc') (K : Goes p e below P T (mkF m pc' Ls (v :: st))) : Goes p e below P T (mkF m pc Ls (st)) := by
  obtain ⟨⟨hx, hb', -⟩, locs, cells, slots, X, -⟩ := w
  subst hp
  exact K.step fun t q => XS.aloadN X.here hx rfl (hb hb' d) hl hv q
theorem i_iload (w : Wk p l e R s m args below meth c Z own bytes maxL ret mn n0 h0 ws T h k n) {i : Nat} {z : Int32} (d : decode bytes pc = .ok (.iload i, 2)) (hl : Ls[i]? = some (.val (.int z))) (hp : pc + 2 = pc') (K : Goes p e below P T (mkF m pc' Ls (.int z :: st))) : Goes p e below P T (mkF m pc Ls (st)) := by
  obtain ⟨⟨hx, hb', -⟩, locs, cells, slots, X, -⟩ := w
  subst hp
  exact K.step fun t q => XS.iload X.here hx rfl (hb hb' d) hl q
theorem i_iloadN (w : Wk p l e R s m args below meth c Z own bytes maxL ret mn n0 h0 ws T h k n) {i : Fin 4} {z : Int32} (d : decode bytes pc = .ok (.iload_n i, 1)) (hl : Ls[i.val]? = some (.val (.int z))) (hp : pc + 1 = pc') (K : Goes p e below P T (mkF m pc' Ls (.int z :: st))) : Goes p e below P T (mkF m pc Ls (st)) := by
  obtain ⟨⟨hx, hb', -⟩, locs, cells, slots, X, -⟩ := w
  subst hp
  exact K.step fun t q => XS.iloadN X.here hx rfl (hb hb' d) hl q
theorem i_lload (w : Wk p l e R s m args below meth c Z own bytes maxL ret mn n0 h0 ws T h k n) {i : Nat} {z : Int64} (d : decode bytes pc = .ok (.lload i, 2)) (hl : Ls[i]? = some (.val (.long z))) (hp : pc + 2 = pc') (K : Goes p e below P T (mkF m pc' Ls (.long z :: st))) : Goes p e below P T (mkF m pc Ls (st)) := by
  obtain ⟨⟨hx, hb', -⟩, locs, cells, slots, X, -⟩ := w
  subst hp
  exact K.step fun t q => XT.lload X.here hx rfl (hb hb' d) hl q
theorem i_lloadN (w : Wk p l e R s m args below meth c Z own bytes maxL ret mn n0 h0 ws T h k n) {i : Fin 4} {z : Int64} (d : decode bytes pc = .ok (.lload_n i, 1)) (hl : Ls[i.val]? = some (.val (.long z))) (hp : pc + 1 = pc') (K : Goes p e below P T (mkF m pc' Ls (.long z :: st))) : Goes p e below P T (mkF m pc Ls (st)) := by
  obtain ⟨⟨hx, hb', -⟩, locs, cells, slots, X, -⟩ := w
  subst hp
  exact K.step fun t q => XT.lloadN X.here hx rfl (hb hb' d) hl q
theorem i_iconst (w : Wk p l e R s m args below meth c Z own bytes maxL ret mn n0 h0 ws T h k n) {i : Int} {z : Int32} (d : decode bytes pc = .ok (.iconst i, 1)) (hz : Int32.ofInt i = z) (hp : pc + 1 = pc') (K : Goes p e below P T (mkF m pc' Ls (.int z :: st))) : Goes p e below P T (mkF m pc Ls (st)) := by
  obtain ⟨⟨hx, hb', -⟩, locs, cells, slots, X, -⟩ := w
  subst hp
  exact K.step fun t q => XS.iconst X.here hx rfl (hb hb' d) (hz ▸ q)
theorem i_bipush (w : Wk p l e R s m args below meth c Z own bytes maxL ret mn n0 h0 ws T h k n) {i : Int} {z : Int32} (d : decode bytes pc = .ok (.bipush i, 2)) (hz : (Int8.ofInt i).toInt32 = z) (hp : pc + 2 = pc') (K : Goes p e below P T (mkF m pc' Ls (.int z :: st))) : Goes p e below P T (mkF m pc Ls (st)) := by
  obtain ⟨⟨hx, hb', -⟩, locs, cells, slots, X, -⟩ := w
  subst hp
  exact K.step fun t q => XS.bipush X.here hx rfl (hb hb' d) (hz ▸ q)
theorem i_sipush (w : Wk p l e R s m args below meth c Z own bytes maxL ret mn n0 h0 ws T h k n) {i : Int} {z : Int32} (d : decode bytes pc = .ok (.sipush i, 3)) (hz : (Int16.ofInt i).toInt32 = z) (hp : pc + 3 = pc') (K : Goes p e below P T (mkF m pc' Ls (.int z :: st))) : Goes p e below P T (mkF m pc Ls (st)) := by
  obtain ⟨⟨hx, hb', -⟩, locs, cells, slots, X, -⟩ := w
  subst hp
  exact K.step fun t q => XS.sipush X.here hx rfl (hb hb' d) (hz ▸ q)
theorem i_lconst (w : Wk p l e R s m args below meth c Z own bytes maxL ret mn n0 h0 ws T h k n) {i : Fin 2} {z : Int64} (d : decode bytes pc = .ok (.lconst i, 1)) (hz : Int64.ofNat i = z) (hp : pc + 1 = pc') (K : Goes p e below P T (mkF m pc' Ls (.long z :: st))) : Goes p e below P T (mkF m pc Ls (st)) := by
  obtain ⟨⟨hx, hb', -⟩, locs, cells, slots, X, -⟩ := w
  subst hp
  exact K.step fun t q => XT.lconst X.here hx rfl (hb hb' d) (hz ▸ q)
theorem i_aconstNull (w : Wk p l e R s m args below meth c Z own bytes maxL ret mn n0 h0 ws T h k n)  (d : decode bytes pc = .ok (.aconst_null, 1))  (hp : pc + 1 = pc') (K : Goes p e below P T (mkF m pc' Ls (.null :: st))) : Goes p e below P T (mkF m pc Ls (st)) := by
  obtain ⟨⟨hx, hb', -⟩, locs, cells, slots, X, -⟩ := w
  subst hp
  exact K.step fun t q => XS.aconstNull X.here hx rfl (hb hb' d) q
theorem i_iadd (w : Wk p l e R s m args below meth c Z own bytes maxL ret mn n0 h0 ws T h k n) {x y : Int32} (d : decode bytes pc = .ok (.iadd, 1))  (hp : pc + 1 = pc') (K : Goes p e below P T (mkF m pc' Ls (.int (x + y) :: st))) : Goes p e below P T (mkF m pc Ls (.int y :: .int x :: st)) := by
  obtain ⟨⟨hx, hb', -⟩, locs, cells, slots, X, -⟩ := w
  subst hp
  exact K.step fun t q => XS.iadd X.here hx rfl (hb hb' d) rfl q
theorem i_isub (w : Wk p l e R s m args below meth c Z own bytes maxL ret mn n0 h0 ws T h k n) {x y : Int32} (d : decode bytes pc = .ok (.isub, 1))  (hp : pc + 1 = pc') (K : Goes p e below P T (mkF m pc' Ls (.int (x - y) :: st))) : Goes p e below P T (mkF m pc Ls (.int y :: .int x :: st)) := by
  obtain ⟨⟨hx, hb', -⟩, locs, cells, slots, X, -⟩ := w
  subst hp
  exact K.step fun t q => XS.isub X.here hx rfl (hb hb' d) rfl q
theorem i_imul (w : Wk p l e R s m args below meth c Z own bytes maxL ret mn n0 h0 ws T h k n) {x y : Int32} (d : decode bytes pc = .ok (.imul, 1))  (hp : pc + 1 = pc') (K : Goes p e below P T (mkF m pc' Ls (.int (x * y) :: st))) : Goes p e below P T (mkF m pc Ls (.int y :: .int x :: st)) := by
  obtain ⟨⟨hx, hb', -⟩, locs, cells, slots, X, -⟩ := w
  subst hp
  exact K.step fun t q => XS.imul X.here hx rfl (hb hb' d) rfl q
theorem i_iand (w : Wk p l e R s m args below meth c Z own bytes maxL ret mn n0 h0 ws T h k n) {x y : Int32} (d : decode bytes pc = .ok (.iand, 1))  (hp : pc + 1 = pc') (K : Goes p e below P T (mkF m pc' Ls (.int (x &&& y) :: st))) : Goes p e below P T (mkF m pc Ls (.int y :: .int x :: st)) := by
  obtain ⟨⟨hx, hb', -⟩, locs, cells, slots, X, -⟩ := w
  subst hp
  exact K.step fun t q => XS.iand X.here hx rfl (hb hb' d) rfl q
theorem i_ior (w : Wk p l e R s m args below meth c Z own bytes maxL ret mn n0 h0 ws T h k n) {x y : Int32} (d : decode bytes pc = .ok (.ior, 1))  (hp : pc + 1 = pc') (K : Goes p e below P T (mkF m pc' Ls (.int (x ||| y) :: st))) : Goes p e below P T (mkF m pc Ls (.int y :: .int x :: st)) := by
  obtain ⟨⟨hx, hb', -⟩, locs, cells, slots, X, -⟩ := w
  subst hp
  exact K.step fun t q => XT.ior X.here hx rfl (hb hb' d) rfl q
theorem i_ixor (w : Wk p l e R s m args below meth c Z own bytes maxL ret mn n0 h0 ws T h k n) {x y : Int32} (d : decode bytes pc = .ok (.ixor, 1))  (hp : pc + 1 = pc') (K : Goes p e below P T (mkF m pc' Ls (.int (x ^^^ y) :: st))) : Goes p e below P T (mkF m pc Ls (.int y :: .int x :: st)) := by
  obtain ⟨⟨hx, hb', -⟩, locs, cells, slots, X, -⟩ := w
  subst hp
  exact K.step fun t q => XT.ixor X.here hx rfl (hb hb' d) rfl q
theorem i_ishl (w : Wk p l e R s m args below meth c Z own bytes maxL ret mn n0 h0 ws T h k n) {x y : Int32} (d : decode bytes pc = .ok (.ishl, 1))  (hp : pc + 1 = pc') (K : Goes p e below P T (mkF m pc' Ls (.int (x <<< (y &&& 31)) :: st))) : Goes p e below P T (mkF m pc Ls (.int y :: .int x :: st)) := by
  obtain ⟨⟨hx, hb', -⟩, locs, cells, slots, X, -⟩ := w
  subst hp
  exact K.step fun t q => XT.ishl X.here hx rfl (hb hb' d) rfl q
theorem i_ishr (w : Wk p l e R s m args below meth c Z own bytes maxL ret mn n0 h0 ws T h k n) {x y : Int32} (d : decode bytes pc = .ok (.ishr, 1))  (hp : pc + 1 = pc') (K : Goes p e below P T (mkF m pc' Ls (.int (x >>> (y &&& 31)) :: st))) : Goes p e below P T (mkF m pc Ls (.int y :: .int x :: st)) := by
  obtain ⟨⟨hx, hb', -⟩, locs, cells, slots, X, -⟩ := w
  subst hp
  exact K.step fun t q => XT.ishr X.here hx rfl (hb hb' d) rfl q
theorem i_iushr (w : Wk p l e R s m args below meth c Z own bytes maxL ret mn n0 h0 ws T h k n) {x y : Int32} (d : decode bytes pc = .ok (.iushr, 1))  (hp : pc + 1 = pc') (K : Goes p e below P T (mkF m pc' Ls (.int (XT.ushr x y) :: st))) : Goes p e below P T (mkF m pc Ls (.int y :: .int x :: st)) := by
  obtain ⟨⟨hx, hb', -⟩, locs, cells, slots, X, -⟩ := w
  subst hp
  exact K.step fun t q => XT.iushr X.here hx rfl (hb hb' d) rfl q
theorem i_ladd (w : Wk p l e R s m args below meth c Z own bytes maxL ret mn n0 h0 ws T h k n) {x y : Int64} (d : decode bytes pc = .ok (.ladd, 1))  (hp : pc + 1 = pc') (K : Goes p e below P T (mkF m pc' Ls (.long (x + y) :: st))) : Goes p e below P T (mkF m pc Ls (.long y :: .long x :: st)) := by
  obtain ⟨⟨hx, hb', -⟩, locs, cells, slots, X, -⟩ := w
  subst hp
  exact K.step fun t q => XT.ladd X.here hx rfl (hb hb' d) rfl q
theorem i_lsub (w : Wk p l e R s m args below meth c Z own bytes maxL ret mn n0 h0 ws T h k n) {x y : Int64} (d : decode bytes pc = .ok (.lsub, 1))  (hp : pc + 1 = pc') (K : Goes p e below P T (mkF m pc' Ls (.long (x - y) :: st))) : Goes p e below P T (mkF m pc Ls (.long y :: .long x :: st)) := by
  obtain ⟨⟨hx, hb', -⟩, locs, cells, slots, X, -⟩ := w
  subst hp
  exact K.step fun t q => XT.lsub X.here hx rfl (hb hb' d) rfl q
theorem i_lmul (w : Wk p l e R s m args below meth c Z own bytes maxL ret mn n0 h0 ws T h k n) {x y : Int64} (d : decode bytes pc = .ok (.lmul, 1))  (hp : pc + 1 = pc') (K : Goes p e below P T (mkF m pc' Ls (.long (x * y) :: st))) : Goes p e below P T (mkF m pc Ls (.long y :: .long x :: st)) := by
  obtain ⟨⟨hx, hb', -⟩, locs, cells, slots, X, -⟩ := w
  subst hp
  exact K.step fun t q => XT.lmul X.here hx rfl (hb hb' d) rfl q
theorem i_land (w : Wk p l e R s m args below meth c Z own bytes maxL ret mn n0 h0 ws T h k n) {x y : Int64} (d : decode bytes pc = .ok (.land, 1))  (hp : pc + 1 = pc') (K : Goes p e below P T (mkF m pc' Ls (.long (x &&& y) :: st))) : Goes p e below P T (mkF m pc Ls (.long y :: .long x :: st)) := by
  obtain ⟨⟨hx, hb', -⟩, locs, cells, slots, X, -⟩ := w
  subst hp
  exact K.step fun t q => XT.land X.here hx rfl (hb hb' d) rfl q
theorem i_lor (w : Wk p l e R s m args below meth c Z own bytes maxL ret mn n0 h0 ws T h k n) {x y : Int64} (d : decode bytes pc = .ok (.lor, 1))  (hp : pc + 1 = pc') (K : Goes p e below P T (mkF m pc' Ls (.long (x ||| y) :: st))) : Goes p e below P T (mkF m pc Ls (.long y :: .long x :: st)) := by
  obtain ⟨⟨hx, hb', -⟩, locs, cells, slots, X, -⟩ := w
  subst hp
  exact K.step fun t q => XT.lor X.here hx rfl (hb hb' d) rfl q
theorem i_lxor (w : Wk p l e R s m args below meth c Z own bytes maxL ret mn n0 h0 ws T h k n) {x y : Int64} (d : decode bytes pc = .ok (.lxor, 1))  (hp : pc + 1 = pc') (K : Goes p e below P T (mkF m pc' Ls (.long (x ^^^ y) :: st))) : Goes p e below P T (mkF m pc Ls (.long y :: .long x :: st)) := by
  obtain ⟨⟨hx, hb', -⟩, locs, cells, slots, X, -⟩ := w
  subst hp
  exact K.step fun t q => XT.lxor X.here hx rfl (hb hb' d) rfl q
theorem i_lshl (w : Wk p l e R s m args below meth c Z own bytes maxL ret mn n0 h0 ws T h k n) {x : Int64} {y : Int32} (d : decode bytes pc = .ok (.lshl, 1))  (hp : pc + 1 = pc') (K : Goes p e below P T (mkF m pc' Ls (.long (x <<< (y.toInt64 &&& 63)) :: st))) : Goes p e below P T (mkF m pc Ls (.int y :: .long x :: st)) := by
  obtain ⟨⟨hx, hb', -⟩, locs, cells, slots, X, -⟩ := w
  subst hp
  exact K.step fun t q => XT.lshl X.here hx rfl (hb hb' d) rfl q
theorem i_lshr (w : Wk p l e R s m args below meth c Z own bytes maxL ret mn n0 h0 ws T h k n) {x : Int64} {y : Int32} (d : decode bytes pc = .ok (.lshr, 1))  (hp : pc + 1 = pc') (K : Goes p e below P T (mkF m pc' Ls (.long (x >>> (y.toInt64 &&& 63)) :: st))) : Goes p e below P T (mkF m pc Ls (.int y :: .long x :: st)) := by
  obtain ⟨⟨hx, hb', -⟩, locs, cells, slots, X, -⟩ := w
  subst hp
  exact K.step fun t q => XT.lshr X.here hx rfl (hb hb' d) rfl q
theorem i_lushr (w : Wk p l e R s m args below meth c Z own bytes maxL ret mn n0 h0 ws T h k n) {x : Int64} {y : Int32} (d : decode bytes pc = .ok (.lushr, 1))  (hp : pc + 1 = pc') (K : Goes p e below P T (mkF m pc' Ls (.long (XT.ushrL x y) :: st))) : Goes p e below P T (mkF m pc Ls (.int y :: .long x :: st)) := by
  obtain ⟨⟨hx, hb', -⟩, locs, cells, slots, X, -⟩ := w
  subst hp
  exact K.step fun t q => XT.lushr X.here hx rfl (hb hb' d) rfl q
theorem i_idiv (w : Wk p l e R s m args below meth c Z own bytes maxL ret mn n0 h0 ws T h k n) {x y : Int32} (d : decode bytes pc = .ok (.idiv, 1)) (hy : y ≠ 0) (hp : pc + 1 = pc') (K : Goes p e below P T (mkF m pc' Ls (.int (x / y) :: st))) : Goes p e below P T (mkF m pc Ls (.int y :: .int x :: st)) := by
  obtain ⟨⟨hx, hb', -⟩, locs, cells, slots, X, -⟩ := w
  subst hp
  exact K.step fun t q => XS.idiv X.here hx rfl (hb hb' d) rfl hy q
theorem i_irem (w : Wk p l e R s m args below meth c Z own bytes maxL ret mn n0 h0 ws T h k n) {x y : Int32} (d : decode bytes pc = .ok (.irem, 1)) (hy : y ≠ 0) (hp : pc + 1 = pc') (K : Goes p e below P T (mkF m pc' Ls (.int (x % y) :: st))) : Goes p e below P T (mkF m pc Ls (.int y :: .int x :: st)) := by
  obtain ⟨⟨hx, hb', -⟩, locs, cells, slots, X, -⟩ := w
  subst hp
  exact K.step fun t q => iremM X hx rfl (hb hb' d) rfl hy q
theorem i_lrem (w : Wk p l e R s m args below meth c Z own bytes maxL ret mn n0 h0 ws T h k n) {x y : Int64} (d : decode bytes pc = .ok (.lrem, 1)) (hy : y ≠ 0) (hp : pc + 1 = pc') (K : Goes p e below P T (mkF m pc' Ls (.long (x - (x / y) * y) :: st))) : Goes p e below P T (mkF m pc Ls (.long y :: .long x :: st)) := by
  obtain ⟨⟨hx, hb', -⟩, locs, cells, slots, X, -⟩ := w
  subst hp
  exact K.step fun t q => XT.lrem X.here hx rfl (hb hb' d) rfl hy q
theorem i_ineg (w : Wk p l e R s m args below meth c Z own bytes maxL ret mn n0 h0 ws T h k n) {x : Int32} (d : decode bytes pc = .ok (.ineg, 1))  (hp : pc + 1 = pc') (K : Goes p e below P T (mkF m pc' Ls (.int (-x) :: st))) : Goes p e below P T (mkF m pc Ls (.int x :: st)) := by
  obtain ⟨⟨hx, hb', -⟩, locs, cells, slots, X, -⟩ := w
  subst hp
  exact K.step fun t q => XS.ineg X.here hx rfl (hb hb' d) rfl q
theorem i_i2l (w : Wk p l e R s m args below meth c Z own bytes maxL ret mn n0 h0 ws T h k n) {x : Int32} (d : decode bytes pc = .ok (.i2l, 1))  (hp : pc + 1 = pc') (K : Goes p e below P T (mkF m pc' Ls (.long x.toInt64 :: st))) : Goes p e below P T (mkF m pc Ls (.int x :: st)) := by
  obtain ⟨⟨hx, hb', -⟩, locs, cells, slots, X, -⟩ := w
  subst hp
  exact K.step fun t q => XT.i2l X.here hx rfl (hb hb' d) rfl q
theorem i_l2i (w : Wk p l e R s m args below meth c Z own bytes maxL ret mn n0 h0 ws T h k n) {x : Int64} (d : decode bytes pc = .ok (.l2i, 1))  (hp : pc + 1 = pc') (K : Goes p e below P T (mkF m pc' Ls (.int x.toInt32 :: st))) : Goes p e below P T (mkF m pc Ls (.long x :: st)) := by
  obtain ⟨⟨hx, hb', -⟩, locs, cells, slots, X, -⟩ := w
  subst hp
  exact K.step fun t q => XT.l2i X.here hx rfl (hb hb' d) rfl q
theorem i_i2b (w : Wk p l e R s m args below meth c Z own bytes maxL ret mn n0 h0 ws T h k n) {x : Int32} (d : decode bytes pc = .ok (.i2b, 1))  (hp : pc + 1 = pc') (K : Goes p e below P T (mkF m pc' Ls (.int x.toInt8.toInt32 :: st))) : Goes p e below P T (mkF m pc Ls (.int x :: st)) := by
  obtain ⟨⟨hx, hb', -⟩, locs, cells, slots, X, -⟩ := w
  subst hp
  exact K.step fun t q => XT.i2b X.here hx rfl (hb hb' d) rfl q
theorem i_i2c (w : Wk p l e R s m args below meth c Z own bytes maxL ret mn n0 h0 ws T h k n) {x : Int32} (d : decode bytes pc = .ok (.i2c, 1))  (hp : pc + 1 = pc') (K : Goes p e below P T (mkF m pc' Ls (.int (nar .char x) :: st))) : Goes p e below P T (mkF m pc Ls (.int x :: st)) := by
  obtain ⟨⟨hx, hb', -⟩, locs, cells, slots, X, -⟩ := w
  subst hp
  exact K.step fun t q => XT.i2c X.here hx rfl (hb hb' d) rfl q
theorem i_lcmp (w : Wk p l e R s m args below meth c Z own bytes maxL ret mn n0 h0 ws T h k n) {x y : Int64} (d : decode bytes pc = .ok (.lcmp, 1))  (hp : pc + 1 = pc') (K : Goes p e below P T (mkF m pc' Ls (.int (XT.cmpL x y) :: st))) : Goes p e below P T (mkF m pc Ls (.long y :: .long x :: st)) := by
  obtain ⟨⟨hx, hb', -⟩, locs, cells, slots, X, -⟩ := w
  subst hp
  exact K.step fun t q => XT.lcmp X.here hx rfl (hb hb' d) rfl q
theorem i_pop (w : Wk p l e R s m args below meth c Z own bytes maxL ret mn n0 h0 ws T h k n) {x : Value} (d : decode bytes pc = .ok (.pop, 1)) (hc : x.category = 1) (hp : pc + 1 = pc') (K : Goes p e below P T (mkF m pc' Ls (st))) : Goes p e below P T (mkF m pc Ls (x :: st)) := by
  obtain ⟨⟨hx, hb', -⟩, locs, cells, slots, X, -⟩ := w
  subst hp
  exact K.step fun t q => XT.pop X.here hx rfl (hb hb' d) rfl hc q
theorem i_dup (w : Wk p l e R s m args below meth c Z own bytes maxL ret mn n0 h0 ws T h k n) {x : Value} (d : decode bytes pc = .ok (.dup, 1)) (hc : x.category = 1) (hp : pc + 1 = pc') (K : Goes p e below P T (mkF m pc' Ls (x :: x :: st))) : Goes p e below P T (mkF m pc Ls (x :: st)) := by
  obtain ⟨⟨hx, hb', -⟩, locs, cells, slots, X, -⟩ := w
  subst hp
  exact K.step fun t q => XS.dup X.here hx rfl (hb hb' d) rfl hc q
theorem i_dupX1 (w : Wk p l e R s m args below meth c Z own bytes maxL ret mn n0 h0 ws T h k n) {x y : Value} (d : decode bytes pc = .ok (.dup_x1, 1)) (hc : x.category = 1) (hc' : y.category = 1) (hp : pc + 1 = pc') (K : Goes p e below P T (mkF m pc' Ls (x :: y :: x :: st))) : Goes p e below P T (mkF m pc Ls (x :: y :: st)) := by
  obtain ⟨⟨hx, hb', -⟩, locs, cells, slots, X, -⟩ := w
  subst hp
  exact K.step fun t q => XT.dupX1 X.here hx rfl (hb hb' d) rfl hc hc' q
theorem i_dup2 (w : Wk p l e R s m args below meth c Z own bytes maxL ret mn n0 h0 ws T h k n) {x y : Value} (d : decode bytes pc = .ok (.dup2, 1)) (hc : x.category = 1) (hc' : y.category = 1) (hp : pc + 1 = pc') (K : Goes p e below P T (mkF m pc' Ls (x :: y :: x :: y :: st))) : Goes p e below P T (mkF m pc Ls (x :: y :: st)) := by
  obtain ⟨⟨hx, hb', -⟩, locs, cells, slots, X, -⟩ := w
  subst hp
  exact K.step fun t q => XT.dup2 X.here hx rfl (hb hb' d) rfl hc hc' q
theorem i_istore (w : Wk p l e R s m args below meth c Z own bytes maxL ret mn n0 h0 ws T h k n) {i : Nat} {z : Int32} {l' : Array Slot} (d : decode bytes pc = .ok (.istore i, 2)) (hl : storeLocals Ls i (.int z) = some l') (hp : pc + 2 = pc') (K : Goes p e below P T (mkF m pc' l' (st))) : Goes p e below P T (mkF m pc Ls (.int z :: st)) := by
  obtain ⟨⟨hx, hb', -⟩, locs, cells, slots, X, -⟩ := w
  subst hp
  exact K.step fun t q => XS.istore X.here hx rfl (hb hb' d) rfl hl q
theorem i_istoreN (w : Wk p l e R s m args below meth c Z own bytes maxL ret mn n0 h0 ws T h k n) {i : Fin 4} {z : Int32} {l' : Array Slot} (d : decode bytes pc = .ok (.istore_n i, 1)) (hl : storeLocals Ls i.val (.int z) = some l') (hp : pc + 1 = pc') (K : Goes p e below P T (mkF m pc' l' (st))) : Goes p e below P T (mkF m pc Ls (.int z :: st)) := by
  obtain ⟨⟨hx, hb', -⟩, locs, cells, slots, X, -⟩ := w
  subst hp
  exact K.step fun t q => XS.istoreN X.here hx rfl (hb hb' d) rfl hl q
theorem i_lstore (w : Wk p l e R s m args below meth c Z own bytes maxL ret mn n0 h0 ws T h k n) {i : Nat} {z : Int64} {l' : Array Slot} (d : decode bytes pc = .ok (.lstore i, 2)) (hl : storeLocals Ls i (.long z) = some l') (hp : pc + 2 = pc') (K : Goes p e below P T (mkF m pc' l' (st))) : Goes p e below P T (mkF m pc Ls (.long z :: st)) := by
  obtain ⟨⟨hx, hb', -⟩, locs, cells, slots, X, -⟩ := w
  subst hp
  exact K.step fun t q => XT.lstore X.here hx rfl (hb hb' d) rfl hl q
theorem i_lstoreN (w : Wk p l e R s m args below meth c Z own bytes maxL ret mn n0 h0 ws T h k n) {i : Fin 4} {z : Int64} {l' : Array Slot} (d : decode bytes pc = .ok (.lstore_n i, 1)) (hl : storeLocals Ls i.val (.long z) = some l') (hp : pc + 1 = pc') (K : Goes p e below P T (mkF m pc' l' (st))) : Goes p e below P T (mkF m pc Ls (.long z :: st)) := by
  obtain ⟨⟨hx, hb', -⟩, locs, cells, slots, X, -⟩ := w
  subst hp
  exact K.step fun t q => XT.lstoreN X.here hx rfl (hb hb' d) rfl hl q
theorem i_astore (w : Wk p l e R s m args below meth c Z own bytes maxL ret mn n0 h0 ws T h k n) {i : Nat} {v : Value} {l' : Array Slot} (d : decode bytes pc = .ok (.astore i, 2)) (hv : v.isRef = true) (hl : storeLocals Ls i v = some l') (hp : pc + 2 = pc') (K : Goes p e below P T (mkF m pc' l' (st))) : Goes p e below P T (mkF m pc Ls (v :: st)) := by
  obtain ⟨⟨hx, hb', -⟩, locs, cells, slots, X, -⟩ := w
  subst hp
  exact K.step fun t q => XS.astore X.here hx rfl (hb hb' d) rfl hv hl q
theorem i_astoreN (w : Wk p l e R s m args below meth c Z own bytes maxL ret mn n0 h0 ws T h k n) {i : Fin 4} {v : Value} {l' : Array Slot} (d : decode bytes pc = .ok (.astore_n i, 1)) (hv : v.isRef = true) (hl : storeLocals Ls i.val v = some l') (hp : pc + 1 = pc') (K : Goes p e below P T (mkF m pc' l' (st))) : Goes p e below P T (mkF m pc Ls (v :: st)) := by
  obtain ⟨⟨hx, hb', -⟩, locs, cells, slots, X, -⟩ := w
  subst hp
  exact K.step fun t q => XS.astoreN X.here hx rfl (hb hb' d) rfl hv hl q
theorem i_iinc (w : Wk p l e R s m args below meth c Z own bytes maxL ret mn n0 h0 ws T h k n) {i : Nat} {cst : Int} {x z : Int32} {l' : Array Slot} (d : decode bytes pc = .ok (.iinc i cst, 3)) (hl : Ls[i]? = some (.val (.int x))) (hz : x + Int32.ofInt cst = z) (hl' : storeLocals Ls i (.int z) = some l') (hp : pc + 3 = pc') (K : Goes p e below P T (mkF m pc' l' (st))) : Goes p e below P T (mkF m pc Ls (st)) := by
  obtain ⟨⟨hx, hb', -⟩, locs, cells, slots, X, -⟩ := w
  subst hp
  exact K.step fun t q => XS.iinc X.here hx rfl (hb hb' d) hl (by rw [hz]; exact hl') q
theorem i_goto (w : Wk p l e R s m args below meth c Z own bytes maxL ret mn n0 h0 ws T h k n) {o : Int} (d : decode bytes pc = .ok (.goto o, 3)) (hp : (pc : Int) + o = (pc' : Int)) (K : Goes p e below P T (mkF m pc' Ls (st))) : Goes p e below P T (mkF m pc Ls (st)) := by
  obtain ⟨⟨hx, hb', -⟩, locs, cells, slots, X, -⟩ := w
  exact K.step fun t q => XS.goto X.here hx rfl (pc0 := pc) (pc' := pc') rfl (hb hb' d) (by omega) (by omega) q
theorem i_icmp_eq_Y (w : Wk p l e R s m args below meth c Z own bytes maxL ret mn n0 h0 ws T h k n) {x y : Int32} {o : Int} (hc : x = y) (d : decode bytes pc = .ok (.if_icmp .eq o, 3)) (hp : (pc : Int) + o = (pc' : Int)) (K : Goes p e below P T (mkF m pc' Ls (st))) : Goes p e below P T (mkF m pc Ls (.int y :: .int x :: st)) := by
  obtain ⟨⟨hx, hb', -⟩, locs, cells, slots, X, -⟩ := w
  exact K.step fun t q => XS.icmpYes X.here hx rfl (pc0 := pc) (pc' := pc') rfl (hb hb' d) rfl (teq hc).1 (by omega) (by omega) q
theorem i_icmp_eq_N (w : Wk p l e R s m args below meth c Z own bytes maxL ret mn n0 h0 ws T h k n) {x y : Int32} {o : Int} (hc : ¬ x = y) (d : decode bytes pc = .ok (.if_icmp .eq o, 3)) (hp : pc + 3 = pc') (K : Goes p e below P T (mkF m pc' Ls (st))) : Goes p e below P T (mkF m pc Ls (.int y :: .int x :: st)) := by
  obtain ⟨⟨hx, hb', -⟩, locs, cells, slots, X, -⟩ := w
  subst hp
  exact K.step fun t q => XS.icmpNo X.here hx rfl (hb hb' d) rfl (feq hc).1 q
theorem i_icmp_eq (w : Wk p l e R s m args below meth c Z own bytes maxL ret mn n0 h0 ws T h k n) {x y : Int32} {o : Int} {pcY : Nat} (d : decode bytes pc = .ok (.if_icmp .eq o, 3)) (hy : (pc : Int) + o = (pcY : Int)) (hp : pc + 3 = pc') (KY : x = y → Goes p e below P T (mkF m pcY Ls (st))) (KN : ¬ x = y → Goes p e below P T (mkF m pc' Ls (st))) : Goes p e below P T (mkF m pc Ls (.int y :: .int x :: st)) :=
  Decidable.byCases (fun hc : x = y => i_icmp_eq_Y w hc d hy (KY hc)) (fun hc => i_icmp_eq_N w (hc) d hp (KN (hc)))
theorem i_if_eq_Y (w : Wk p l e R s m args below meth c Z own bytes maxL ret mn n0 h0 ws T h k n) {x : Int32} {o : Int} (hc : x = 0) (d : decode bytes pc = .ok (.ifCond .eq o, 3)) (hp : (pc : Int) + o = (pc' : Int)) (K : Goes p e below P T (mkF m pc' Ls (st))) : Goes p e below P T (mkF m pc Ls (.int x :: st)) := by
  obtain ⟨⟨hx, hb', -⟩, locs, cells, slots, X, -⟩ := w
  exact K.step fun t q => XS.ifYes X.here hx rfl (pc0 := pc) (pc' := pc') rfl (hb hb' d) rfl ((if0 _ _).trans (teq hc).1) (by omega) (by omega) q
theorem i_if_eq_N (w : Wk p l e R s m args below meth c Z own bytes maxL ret mn n0 h0 ws T h k n) {x : Int32} {o : Int} (hc : ¬ x = 0) (d : decode bytes pc = .ok (.ifCond .eq o, 3)) (hp : pc + 3 = pc') (K : Goes p e below P T (mkF m pc' Ls (st))) : Goes p e below P T (mkF m pc Ls (.int x :: st)) := by
  obtain ⟨⟨hx, hb', -⟩, locs, cells, slots, X, -⟩ := w
  subst hp
  exact K.step fun t q => XS.ifNo X.here hx rfl (hb hb' d) rfl ((if0 _ _).trans (feq hc).1) q
theorem i_if_eq (w : Wk p l e R s m args below meth c Z own bytes maxL ret mn n0 h0 ws T h k n) {x : Int32} {o : Int} {pcY : Nat} (d : decode bytes pc = .ok (.ifCond .eq o, 3)) (hy : (pc : Int) + o = (pcY : Int)) (hp : pc + 3 = pc') (KY : x = 0 → Goes p e below P T (mkF m pcY Ls (st))) (KN : ¬ x = 0 → Goes p e below P T (mkF m pc' Ls (st))) : Goes p e below P T (mkF m pc Ls (.int x :: st)) :=
  Decidable.byCases (fun hc : x = 0 => i_if_eq_Y w hc d hy (KY hc)) (fun hc => i_if_eq_N w (hc) d hp (KN (hc)))
theorem i_icmp_ne_Y (w : Wk p l e R s m args below meth c Z own bytes maxL ret mn n0 h0 ws T h k n) {x y : Int32} {o : Int} (hc : ¬ x = y) (d : decode bytes pc = .ok (.if_icmp .ne o, 3)) (hp : (pc : Int) + o = (pc' : Int)) (K : Goes p e below P T (mkF m pc' Ls (st))) : Goes p e below P T (mkF m pc Ls (.int y :: .int x :: st)) := by
  obtain ⟨⟨hx, hb', -⟩, locs, cells, slots, X, -⟩ := w
  exact K.step fun t q => XS.icmpYes X.here hx rfl (pc0 := pc) (pc' := pc') rfl (hb hb' d) rfl (feq hc).2 (by omega) (by omega) q
theorem i_icmp_ne_N (w : Wk p l e R s m args below meth c Z own bytes maxL ret mn n0 h0 ws T h k n) {x y : Int32} {o : Int} (hc : x = y) (d : decode bytes pc = .ok (.if_icmp .ne o, 3)) (hp : pc + 3 = pc') (K : Goes p e below P T (mkF m pc' Ls (st))) : Goes p e below P T (mkF m pc Ls (.int y :: .int x :: st)) := by
  obtain ⟨⟨hx, hb', -⟩, locs, cells, slots, X, -⟩ := w
  subst hp
  exact K.step fun t q => XS.icmpNo X.here hx rfl (hb hb' d) rfl (teq hc).2 q
theorem i_icmp_ne (w : Wk p l e R s m args below meth c Z own bytes maxL ret mn n0 h0 ws T h k n) {x y : Int32} {o : Int} {pcY : Nat} (d : decode bytes pc = .ok (.if_icmp .ne o, 3)) (hy : (pc : Int) + o = (pcY : Int)) (hp : pc + 3 = pc') (KY : ¬ x = y → Goes p e below P T (mkF m pcY Ls (st))) (KN : x = y → Goes p e below P T (mkF m pc' Ls (st))) : Goes p e below P T (mkF m pc Ls (.int y :: .int x :: st)) :=
  Decidable.byCases (fun hc : ¬ x = y => i_icmp_ne_Y w hc d hy (KY hc)) (fun hc => i_icmp_ne_N w (Decidable.not_not.mp hc) d hp (KN (Decidable.not_not.mp hc)))
theorem i_if_ne_Y (w : Wk p l e R s m args below meth c Z own bytes maxL ret mn n0 h0 ws T h k n) {x : Int32} {o : Int} (hc : ¬ x = 0) (d : decode bytes pc = .ok (.ifCond .ne o, 3)) (hp : (pc : Int) + o = (pc' : Int)) (K : Goes p e below P T (mkF m pc' Ls (st))) : Goes p e below P T (mkF m pc Ls (.int x :: st)) := by
  obtain ⟨⟨hx, hb', -⟩, locs, cells, slots, X, -⟩ := w
  exact K.step fun t q => XS.ifYes X.here hx rfl (pc0 := pc) (pc' := pc') rfl (hb hb' d) rfl ((if0 _ _).trans (feq hc).2) (by omega) (by omega) q
theorem i_if_ne_N (w : Wk p l e R s m args below meth c Z own bytes maxL ret mn n0 h0 ws T h k n) {x : Int32} {o : Int} (hc : x = 0) (d : decode bytes pc = .ok (.ifCond .ne o, 3)) (hp : pc + 3 = pc') (K : Goes p e below P T (mkF m pc' Ls (st))) : Goes p e below P T (mkF m pc Ls (.int x :: st)) := by
  obtain ⟨⟨hx, hb', -⟩, locs, cells, slots, X, -⟩ := w
  subst hp
  exact K.step fun t q => XS.ifNo X.here hx rfl (hb hb' d) rfl ((if0 _ _).trans (teq hc).2) q
theorem i_if_ne (w : Wk p l e R s m args below meth c Z own bytes maxL ret mn n0 h0 ws T h k n) {x : Int32} {o : Int} {pcY : Nat} (d : decode bytes pc = .ok (.ifCond .ne o, 3)) (hy : (pc : Int) + o = (pcY : Int)) (hp : pc + 3 = pc') (KY : ¬ x = 0 → Goes p e below P T (mkF m pcY Ls (st))) (KN : x = 0 → Goes p e below P T (mkF m pc' Ls (st))) : Goes p e below P T (mkF m pc Ls (.int x :: st)) :=
  Decidable.byCases (fun hc : ¬ x = 0 => i_if_ne_Y w hc d hy (KY hc)) (fun hc => i_if_ne_N w (Decidable.not_not.mp hc) d hp (KN (Decidable.not_not.mp hc)))
theorem i_icmp_lt_Y (w : Wk p l e R s m args below meth c Z own bytes maxL ret mn n0 h0 ws T h k n) {x y : Int32} {o : Int} (hc : x < y) (d : decode bytes pc = .ok (.if_icmp .lt o, 3)) (hp : (pc : Int) + o = (pc' : Int)) (K : Goes p e below P T (mkF m pc' Ls (st))) : Goes p e below P T (mkF m pc Ls (.int y :: .int x :: st)) := by
  obtain ⟨⟨hx, hb', -⟩, locs, cells, slots, X, -⟩ := w
  exact K.step fun t q => XS.icmpYes X.here hx rfl (pc0 := pc) (pc' := pc') rfl (hb hb' d) rfl (tlt hc).1 (by omega) (by omega) q
theorem i_icmp_lt_N (w : Wk p l e R s m args below meth c Z own bytes maxL ret mn n0 h0 ws T h k n) {x y : Int32} {o : Int} (hc : ¬ x < y) (d : decode bytes pc = .ok (.if_icmp .lt o, 3)) (hp : pc + 3 = pc') (K : Goes p e below P T (mkF m pc' Ls (st))) : Goes p e below P T (mkF m pc Ls (.int y :: .int x :: st)) := by
  obtain ⟨⟨hx, hb', -⟩, locs, cells, slots, X, -⟩ := w
  subst hp
  exact K.step fun t q => XS.icmpNo X.here hx rfl (hb hb' d) rfl (flt hc).1 q
theorem i_icmp_lt (w : Wk p l e R s m args below meth c Z own bytes maxL ret mn n0 h0 ws T h k n) {x y : Int32} {o : Int} {pcY : Nat} (d : decode bytes pc = .ok (.if_icmp .lt o, 3)) (hy : (pc : Int) + o = (pcY : Int)) (hp : pc + 3 = pc') (KY : x < y → Goes p e below P T (mkF m pcY Ls (st))) (KN : ¬ x < y → Goes p e below P T (mkF m pc' Ls (st))) : Goes p e below P T (mkF m pc Ls (.int y :: .int x :: st)) :=
  Decidable.byCases (fun hc : x < y => i_icmp_lt_Y w hc d hy (KY hc)) (fun hc => i_icmp_lt_N w (hc) d hp (KN (hc)))
theorem i_if_lt_Y (w : Wk p l e R s m args below meth c Z own bytes maxL ret mn n0 h0 ws T h k n) {x : Int32} {o : Int} (hc : x < 0) (d : decode bytes pc = .ok (.ifCond .lt o, 3)) (hp : (pc : Int) + o = (pc' : Int)) (K : Goes p e below P T (mkF m pc' Ls (st))) : Goes p e below P T (mkF m pc Ls (.int x :: st)) := by
  obtain ⟨⟨hx, hb', -⟩, locs, cells, slots, X, -⟩ := w
  exact K.step fun t q => XS.ifYes X.here hx rfl (pc0 := pc) (pc' := pc') rfl (hb hb' d) rfl ((if0 _ _).trans (tlt hc).1) (by omega) (by omega) q
theorem i_if_lt_N (w : Wk p l e R s m args below meth c Z own bytes maxL ret mn n0 h0 ws T h k n) {x : Int32} {o : Int} (hc : ¬ x < 0) (d : decode bytes pc = .ok (.ifCond .lt o, 3)) (hp : pc + 3 = pc') (K : Goes p e below P T (mkF m pc' Ls (st))) : Goes p e below P T (mkF m pc Ls (.int x :: st)) := by
  obtain ⟨⟨hx, hb', -⟩, locs, cells, slots, X, -⟩ := w
  subst hp
  exact K.step fun t q => XS.ifNo X.here hx rfl (hb hb' d) rfl ((if0 _ _).trans (flt hc).1) q
theorem i_if_lt (w : Wk p l e R s m args below meth c Z own bytes maxL ret mn n0 h0 ws T h k n) {x : Int32} {o : Int} {pcY : Nat} (d : decode bytes pc = .ok (.ifCond .lt o, 3)) (hy : (pc : Int) + o = (pcY : Int)) (hp : pc + 3 = pc') (KY : x < 0 → Goes p e below P T (mkF m pcY Ls (st))) (KN : ¬ x < 0 → Goes p e below P T (mkF m pc' Ls (st))) : Goes p e below P T (mkF m pc Ls (.int x :: st)) :=
  Decidable.byCases (fun hc : x < 0 => i_if_lt_Y w hc d hy (KY hc)) (fun hc => i_if_lt_N w (hc) d hp (KN (hc)))
theorem i_icmp_ge_Y (w : Wk p l e R s m args below meth c Z own bytes maxL ret mn n0 h0 ws T h k n) {x y : Int32} {o : Int} (hc : ¬ x < y) (d : decode bytes pc = .ok (.if_icmp .ge o, 3)) (hp : (pc : Int) + o = (pc' : Int)) (K : Goes p e below P T (mkF m pc' Ls (st))) : Goes p e below P T (mkF m pc Ls (.int y :: .int x :: st)) := by
  obtain ⟨⟨hx, hb', -⟩, locs, cells, slots, X, -⟩ := w
  exact K.step fun t q => XS.icmpYes X.here hx rfl (pc0 := pc) (pc' := pc') rfl (hb hb' d) rfl (flt hc).2.1 (by omega) (by omega) q
theorem i_icmp_ge_N (w : Wk p l e R s m args below meth c Z own bytes maxL ret mn n0 h0 ws T h k n) {x y : Int32} {o : Int} (hc : x < y) (d : decode bytes pc = .ok (.if_icmp .ge o, 3)) (hp : pc + 3 = pc') (K : Goes p e below P T (mkF m pc' Ls (st))) : Goes p e below P T (mkF m pc Ls (.int y :: .int x :: st)) := by
  obtain ⟨⟨hx, hb', -⟩, locs, cells, slots, X, -⟩ := w
  subst hp
  exact K.step fun t q => XS.icmpNo X.here hx rfl (hb hb' d) rfl (tlt hc).2.1 q
theorem i_icmp_ge (w : Wk p l e R s m args below meth c Z own bytes maxL ret mn n0 h0 ws T h k n) {x y : Int32} {o : Int} {pcY : Nat} (d : decode bytes pc = .ok (.if_icmp .ge o, 3)) (hy : (pc : Int) + o = (pcY : Int)) (hp : pc + 3 = pc') (KY : ¬ x < y → Goes p e below P T (mkF m pcY Ls (st))) (KN : x < y → Goes p e below P T (mkF m pc' Ls (st))) : Goes p e below P T (mkF m pc Ls (.int y :: .int x :: st)) :=
  Decidable.byCases (fun hc : ¬ x < y => i_icmp_ge_Y w hc d hy (KY hc)) (fun hc => i_icmp_ge_N w (Decidable.not_not.mp hc) d hp (KN (Decidable.not_not.mp hc)))
theorem i_if_ge_Y (w : Wk p l e R s m args below meth c Z own bytes maxL ret mn n0 h0 ws T h k n) {x : Int32} {o : Int} (hc : ¬ x < 0) (d : decode bytes pc = .ok (.ifCond .ge o, 3)) (hp : (pc : Int) + o = (pc' : Int)) (K : Goes p e below P T (mkF m pc' Ls (st))) : Goes p e below P T (mkF m pc Ls (.int x :: st)) := by
  obtain ⟨⟨hx, hb', -⟩, locs, cells, slots, X, -⟩ := w
  exact K.step fun t q => XS.ifYes X.here hx rfl (pc0 := pc) (pc' := pc') rfl (hb hb' d) rfl ((if0 _ _).trans (flt hc).2.1) (by omega) (by omega) q
theorem i_if_ge_N (w : Wk p l e R s m args below meth c Z own bytes maxL ret mn n0 h0 ws T h k n) {x : Int32} {o : Int} (hc : x < 0) (d : decode bytes pc = .ok (.ifCond .ge o, 3)) (hp : pc + 3 = pc') (K : Goes p e below P T (mkF m pc' Ls (st))) : Goes p e below P T (mkF m pc Ls (.int x :: st)) := by
  obtain ⟨⟨hx, hb', -⟩, locs, cells, slots, X, -⟩ := w
  subst hp
  exact K.step fun t q => XS.ifNo X.here hx rfl (hb hb' d) rfl ((if0 _ _).trans (tlt hc).2.1) q
theorem i_if_ge (w : Wk p l e R s m args below meth c Z own bytes maxL ret mn n0 h0 ws T h k n) {x : Int32} {o : Int} {pcY : Nat} (d : decode bytes pc = .ok (.ifCond .ge o, 3)) (hy : (pc : Int) + o = (pcY : Int)) (hp : pc + 3 = pc') (KY : ¬ x < 0 → Goes p e below P T (mkF m pcY Ls (st))) (KN : x < 0 → Goes p e below P T (mkF m pc' Ls (st))) : Goes p e below P T (mkF m pc Ls (.int x :: st)) :=
  Decidable.byCases (fun hc : ¬ x < 0 => i_if_ge_Y w hc d hy (KY hc)) (fun hc => i_if_ge_N w (Decidable.not_not.mp hc) d hp (KN (Decidable.not_not.mp hc)))
theorem i_icmp_gt_Y (w : Wk p l e R s m args below meth c Z own bytes maxL ret mn n0 h0 ws T h k n) {x y : Int32} {o : Int} (hc : y < x) (d : decode bytes pc = .ok (.if_icmp .gt o, 3)) (hp : (pc : Int) + o = (pc' : Int)) (K : Goes p e below P T (mkF m pc' Ls (st))) : Goes p e below P T (mkF m pc Ls (.int y :: .int x :: st)) := by
  obtain ⟨⟨hx, hb', -⟩, locs, cells, slots, X, -⟩ := w
  exact K.step fun t q => XS.icmpYes X.here hx rfl (pc0 := pc) (pc' := pc') rfl (hb hb' d) rfl (tlt hc).2.2.1 (by omega) (by omega) q
theorem i_icmp_gt_N (w : Wk p l e R s m args below meth c Z own bytes maxL ret mn n0 h0 ws T h k n) {x y : Int32} {o : Int} (hc : ¬ y < x) (d : decode bytes pc = .ok (.if_icmp .gt o, 3)) (hp : pc + 3 = pc') (K : Goes p e below P T (mkF m pc' Ls (st))) : Goes p e below P T (mkF m pc Ls (.int y :: .int x :: st)) := by
  obtain ⟨⟨hx, hb', -⟩, locs, cells, slots, X, -⟩ := w
  subst hp
  exact K.step fun t q => XS.icmpNo X.here hx rfl (hb hb' d) rfl (flt hc).2.2.1 q
theorem i_icmp_gt (w : Wk p l e R s m args below meth c Z own bytes maxL ret mn n0 h0 ws T h k n) {x y : Int32} {o : Int} {pcY : Nat} (d : decode bytes pc = .ok (.if_icmp .gt o, 3)) (hy : (pc : Int) + o = (pcY : Int)) (hp : pc + 3 = pc') (KY : y < x → Goes p e below P T (mkF m pcY Ls (st))) (KN : ¬ y < x → Goes p e below P T (mkF m pc' Ls (st))) : Goes p e below P T (mkF m pc Ls (.int y :: .int x :: st)) :=
  Decidable.byCases (fun hc : y < x => i_icmp_gt_Y w hc d hy (KY hc)) (fun hc => i_icmp_gt_N w (hc) d hp (KN (hc)))
theorem i_if_gt_Y (w : Wk p l e R s m args below meth c Z own bytes maxL ret mn n0 h0 ws T h k n) {x : Int32} {o : Int} (hc : 0 < x) (d : decode bytes pc = .ok (.ifCond .gt o, 3)) (hp : (pc : Int) + o = (pc' : Int)) (K : Goes p e below P T (mkF m pc' Ls (st))) : Goes p e below P T (mkF m pc Ls (.int x :: st)) := by
  obtain ⟨⟨hx, hb', -⟩, locs, cells, slots, X, -⟩ := w
  exact K.step fun t q => XS.ifYes X.here hx rfl (pc0 := pc) (pc' := pc') rfl (hb hb' d) rfl ((if0 _ _).trans (tlt hc).2.2.1) (by omega) (by omega) q
theorem i_if_gt_N (w : Wk p l e R s m args below meth c Z own bytes maxL ret mn n0 h0 ws T h k n) {x : Int32} {o : Int} (hc : ¬ 0 < x) (d : decode bytes pc = .ok (.ifCond .gt o, 3)) (hp : pc + 3 = pc') (K : Goes p e below P T (mkF m pc' Ls (st))) : Goes p e below P T (mkF m pc Ls (.int x :: st)) := by
  obtain ⟨⟨hx, hb', -⟩, locs, cells, slots, X, -⟩ := w
  subst hp
  exact K.step fun t q => XS.ifNo X.here hx rfl (hb hb' d) rfl ((if0 _ _).trans (flt hc).2.2.1) q
theorem i_if_gt (w : Wk p l e R s m args below meth c Z own bytes maxL ret mn n0 h0 ws T h k n) {x : Int32} {o : Int} {pcY : Nat} (d : decode bytes pc = .ok (.ifCond .gt o, 3)) (hy : (pc : Int) + o = (pcY : Int)) (hp : pc + 3 = pc') (KY : 0 < x → Goes p e below P T (mkF m pcY Ls (st))) (KN : ¬ 0 < x → Goes p e below P T (mkF m pc' Ls (st))) : Goes p e below P T (mkF m pc Ls (.int x :: st)) :=
  Decidable.byCases (fun hc : 0 < x => i_if_gt_Y w hc d hy (KY hc)) (fun hc => i_if_gt_N w (hc) d hp (KN (hc)))
theorem i_icmp_le_Y (w : Wk p l e R s m args below meth c Z own bytes maxL ret mn n0 h0 ws T h k n) {x y : Int32} {o : Int} (hc : ¬ y < x) (d : decode bytes pc = .ok (.if_icmp .le o, 3)) (hp : (pc : Int) + o = (pc' : Int)) (K : Goes p e below P T (mkF m pc' Ls (st))) : Goes p e below P T (mkF m pc Ls (.int y :: .int x :: st)) := by
  obtain ⟨⟨hx, hb', -⟩, locs, cells, slots, X, -⟩ := w
  exact K.step fun t q => XS.icmpYes X.here hx rfl (pc0 := pc) (pc' := pc') rfl (hb hb' d) rfl (flt hc).2.2.2 (by omega) (by omega) q
theorem i_icmp_le_N (w : Wk p l e R s m args below meth c Z own bytes maxL ret mn n0 h0 ws T h k n) {x y : Int32} {o : Int} (hc : y < x) (d : decode bytes pc = .ok (.if_icmp .le o, 3)) (hp : pc + 3 = pc') (K : Goes p e below P T (mkF m pc' Ls (st))) : Goes p e below P T (mkF m pc Ls (.int y :: .int x :: st)) := by
  obtain ⟨⟨hx, hb', -⟩, locs, cells, slots, X, -⟩ := w
  subst hp
  exact K.step fun t q => XS.icmpNo X.here hx rfl (hb hb' d) rfl (tlt hc).2.2.2 q
theorem i_icmp_le (w : Wk p l e R s m args below meth c Z own bytes maxL ret mn n0 h0 ws T h k n) {x y : Int32} {o : Int} {pcY : Nat} (d : decode bytes pc = .ok (.if_icmp .le o, 3)) (hy : (pc : Int) + o = (pcY : Int)) (hp : pc + 3 = pc') (KY : ¬ y < x → Goes p e below P T (mkF m pcY Ls (st))) (KN : y < x → Goes p e below P T (mkF m pc' Ls (st))) : Goes p e below P T (mkF m pc Ls (.int y :: .int x :: st)) :=
  Decidable.byCases (fun hc : ¬ y < x => i_icmp_le_Y w hc d hy (KY hc)) (fun hc => i_icmp_le_N w (Decidable.not_not.mp hc) d hp (KN (Decidable.not_not.mp hc)))
theorem i_if_le_Y (w : Wk p l e R s m args below meth c Z own bytes maxL ret mn n0 h0 ws T h k n) {x : Int32} {o : Int} (hc : ¬ 0 < x) (d : decode bytes pc = .ok (.ifCond .le o, 3)) (hp : (pc : Int) + o = (pc' : Int)) (K : Goes p e below P T (mkF m pc' Ls (st))) : Goes p e below P T (mkF m pc Ls (.int x :: st)) := by
  obtain ⟨⟨hx, hb', -⟩, locs, cells, slots, X, -⟩ := w
  exact K.step fun t q => XS.ifYes X.here hx rfl (pc0 := pc) (pc' := pc') rfl (hb hb' d) rfl ((if0 _ _).trans (flt hc).2.2.2) (by omega) (by omega) q
theorem i_if_le_N (w : Wk p l e R s m args below meth c Z own bytes maxL ret mn n0 h0 ws T h k n) {x : Int32} {o : Int} (hc : 0 < x) (d : decode bytes pc = .ok (.ifCond .le o, 3)) (hp : pc + 3 = pc') (K : Goes p e below P T (mkF m pc' Ls (st))) : Goes p e below P T (mkF m pc Ls (.int x :: st)) := by
  obtain ⟨⟨hx, hb', -⟩, locs, cells, slots, X, -⟩ := w
  subst hp
  exact K.step fun t q => XS.ifNo X.here hx rfl (hb hb' d) rfl ((if0 _ _).trans (tlt hc).2.2.2) q
theorem i_if_le (w : Wk p l e R s m args below meth c Z own bytes maxL ret mn n0 h0 ws T h k n) {x : Int32} {o : Int} {pcY : Nat} (d : decode bytes pc = .ok (.ifCond .le o, 3)) (hy : (pc : Int) + o = (pcY : Int)) (hp : pc + 3 = pc') (KY : ¬ 0 < x → Goes p e below P T (mkF m pcY Ls (st))) (KN : 0 < x → Goes p e below P T (mkF m pc' Ls (st))) : Goes p e below P T (mkF m pc Ls (.int x :: st)) :=
  Decidable.byCases (fun hc : ¬ 0 < x => i_if_le_Y w hc d hy (KY hc)) (fun hc => i_if_le_N w (Decidable.not_not.mp hc) d hp (KN (Decidable.not_not.mp hc)))
theorem i_ifnull_Y (w : Wk p l e R s m args below meth c Z own bytes maxL ret mn n0 h0 ws T h k n) {o : Int} {b : Addr} (d : decode bytes pc = .ok (.ifnull o, 3)) (hp : (pc : Int) + o = (pc' : Int)) (K : Goes p e below P T (mkF m pc' Ls (st))) : Goes p e below P T (mkF m pc Ls (.null :: st)) := by
  obtain ⟨⟨hx, hb', -⟩, locs, cells, slots, X, -⟩ := w
  exact K.step fun t q => XS.ifnullYes X.here hx rfl (pc0 := pc) (pc' := pc') rfl (hb hb' d) rfl (by omega) (by omega) q
theorem i_ifnull_N (w : Wk p l e R s m args below meth c Z own bytes maxL ret mn n0 h0 ws T h k n) {o : Int} {b : Addr} (d : decode bytes pc = .ok (.ifnull o, 3)) (hp : pc + 3 = pc') (K : Goes p e below P T (mkF m pc' Ls (st))) : Goes p e below P T (mkF m pc Ls (.ref b :: st)) := by
  obtain ⟨⟨hx, hb', -⟩, locs, cells, slots, X, -⟩ := w
  subst hp
  exact K.step fun t q => XS.ifnullNo X.here hx rfl (hb hb' d) rfl q
theorem i_ifnonnull_Y (w : Wk p l e R s m args below meth c Z own bytes maxL ret mn n0 h0 ws T h k n) {o : Int} {b : Addr} (d : decode bytes pc = .ok (.ifnonnull o, 3)) (hp : (pc : Int) + o = (pc' : Int)) (K : Goes p e below P T (mkF m pc' Ls (st))) : Goes p e below P T (mkF m pc Ls (.ref b :: st)) := by
  obtain ⟨⟨hx, hb', -⟩, locs, cells, slots, X, -⟩ := w
  exact K.step fun t q => XT.ifnonnullYes X.here hx rfl (pc0 := pc) (pc' := pc') rfl (hb hb' d) rfl (by omega) (by omega) q
theorem i_ifnonnull_N (w : Wk p l e R s m args below meth c Z own bytes maxL ret mn n0 h0 ws T h k n) {o : Int} {b : Addr} (d : decode bytes pc = .ok (.ifnonnull o, 3)) (hp : pc + 3 = pc') (K : Goes p e below P T (mkF m pc' Ls (st))) : Goes p e below P T (mkF m pc Ls (.null :: st)) := by
  obtain ⟨⟨hx, hb', -⟩, locs, cells, slots, X, -⟩ := w
  subst hp
  exact K.step fun t q => XT.ifnonnullNo X.here hx rfl (hb hb' d) rfl q
theorem i_acmp_eq_Y (w : Wk p l e R s m args below meth c Z own bytes maxL ret mn n0 h0 ws T h k n) {o : Int} {x y : Value} (hx1 : x.isRef = true) (hy1 : y.isRef = true) (hc : XT.acmp .eq x y = true) (d : decode bytes pc = .ok (.if_acmp .eq o, 3)) (hp : (pc : Int) + o = (pc' : Int)) (K : Goes p e below P T (mkF m pc' Ls (st))) : Goes p e below P T (mkF m pc Ls (y :: x :: st)) := by
  obtain ⟨⟨hx, hb', -⟩, locs, cells, slots, X, -⟩ := w
  exact K.step fun t q => XT.acmpYes X.here hx rfl (pc0 := pc) (pc' := pc') rfl (hb hb' d) rfl hx1 hy1 hc (by omega) (by omega) q
theorem i_acmp_eq_N (w : Wk p l e R s m args below meth c Z own bytes maxL ret mn n0 h0 ws T h k n) {o : Int} {x y : Value} (hx1 : x.isRef = true) (hy1 : y.isRef = true) (hc : XT.acmp .eq x y = false) (d : decode bytes pc = .ok (.if_acmp .eq o, 3)) (hp : pc + 3 = pc') (K : Goes p e below P T (mkF m pc' Ls (st))) : Goes p e below P T (mkF m pc Ls (y :: x :: st)) := by
  obtain ⟨⟨hx, hb', -⟩, locs, cells, slots, X, -⟩ := w
  subst hp
  exact K.step fun t q => XT.acmpNo X.here hx rfl (hb hb' d) rfl hx1 hy1 hc q
theorem i_acmp_ne_Y (w : Wk p l e R s m args below meth c Z own bytes maxL ret mn n0 h0 ws T h k n) {o : Int} {x y : Value} (hx1 : x.isRef = true) (hy1 : y.isRef = true) (hc : XT.acmp .ne x y = true) (d : decode bytes pc = .ok (.if_acmp .ne o, 3)) (hp : (pc : Int) + o = (pc' : Int)) (K : Goes p e below P T (mkF m pc' Ls (st))) : Goes p e below P T (mkF m pc Ls (y :: x :: st)) := by
  obtain ⟨⟨hx, hb', -⟩, locs, cells, slots, X, -⟩ := w
  exact K.step fun t q => XT.acmpYes X.here hx rfl (pc0 := pc) (pc' := pc') rfl (hb hb' d) rfl hx1 hy1 hc (by omega) (by omega) q
theorem i_acmp_ne_N (w : Wk p l e R s m args below meth c Z own bytes maxL ret mn n0 h0 ws T h k n) {o : Int} {x y : Value} (hx1 : x.isRef = true) (hy1 : y.isRef = true) (hc : XT.acmp .ne x y = false) (d : decode bytes pc = .ok (.if_acmp .ne o, 3)) (hp : pc + 3 = pc') (K : Goes p e below P T (mkF m pc' Ls (st))) : Goes p e below P T (mkF m pc Ls (y :: x :: st)) := by
  obtain ⟨⟨hx, hb', -⟩, locs, cells, slots, X, -⟩ := w
  subst hp
  exact K.step fun t q => XT.acmpNo X.here hx rfl (hb hb' d) rfl hx1 hy1 hc q
theorem i_ldcI (w : Wk p l e R s m args below meth c Z own bytes maxL ret mn n0 h0 ws T h k n) {index : Nat} {z : Int32} (w1 : (Cond.constant own index z).before a0 Z = true) (d : decode bytes pc = .ok (.ldc index, 2)) (hp : pc + 2 = pc') (K : Goes p e below P T (mkF m pc' Ls (.int z :: st))) : Goes p e below P T (mkF m pc Ls (st)) := by
  obtain ⟨⟨hx, hb', hml, hZ, hown, -⟩, locs, cells, slots, X, -⟩ := w
  subst hp
  exact K.step fun t q => X.ldcInt hx hown (mvT hZ w1) (g := mkF m pc Ls st) rfl (hb hb' d) t q
theorem i_ldc2 (w : Wk p l e R s m args below meth c Z own bytes maxL ret mn n0 h0 ws T h k n) {index : Nat} {z : Int64} (w1 : (Cond.constantLong own index z).before a0 Z = true) (d : decode bytes pc = .ok (.ldc2_w index, 3)) (hp : pc + 3 = pc') (K : Goes p e below P T (mkF m pc' Ls (.long z :: st))) : Goes p e below P T (mkF m pc Ls (st)) := by
  obtain ⟨⟨hx, hb', hml, hZ, hown, -⟩, locs, cells, slots, X, -⟩ := w
  subst hp
  exact K.step fun t q => X.ldc2Long hx hown (mvT hZ w1) (g := mkF m pc Ls st) rfl (hb hb' d) t q
theorem i_getF (w : Wk p l e R s m args below meth c Z own bytes maxL ret mn n0 h0 ws T h k n) {index : Nat} {O nm ds : String} {a : Addr} {v : Value} (d : decode bytes pc = .ok (.getfield index, 3)) (w1 : (Cond.fieldLink own index O nm ds).before a0 Z = true) (F : Fld Z h a O nm ds v) (hp : pc + 3 = pc') (K : ∀ T', Wk p l e R s m args below meth c Z own bytes maxL ret mn n0 h0 ws T' h k n → Goes p e below P T' (mkF m pc' Ls (v :: st))) : Goes p e below P T (mkF m pc Ls (.ref a :: st)) := by
  obtain ⟨cx, locs, cells, slots, X, e1, r⟩ := w
  obtain ⟨hx, hb', hml, hZ, hown, cr⟩ := id cx
  subst hp
  obtain ⟨T', X', e', stp⟩ := getF X hx hZ hown (host := "") (Or.inl w1) Via.refl e1 F (g := mkF m pc Ls (.ref a :: st)) rfl rfl (hb hb' d)
  exact (K T' ⟨cx, locs, cells, slots, X', e', r⟩).step stp
theorem i_getS (w : Wk p l e R s m args below meth c Z own bytes maxL ret mn n0 h0 ws T h k n) {index : Nat} {O nm ds : String} {v : Value} (d : decode bytes pc = .ok (.getstatic index, 3)) (w1 : (Cond.fieldLink own index O nm ds).before a0 Z = true) (S : Sta Z Z.heap O nm ds v) (hp : pc + 3 = pc') (K : ∀ T', Wk p l e R s m args below meth c Z own bytes maxL ret mn n0 h0 ws T' h k n → Goes p e below P T' (mkF m pc' Ls (v :: st))) : Goes p e below P T (mkF m pc Ls (st)) := by
  have S' := w.sta S
  obtain ⟨cx, locs, cells, slots, X, e1, r⟩ := w
  obtain ⟨hx, hb', hml, hZ, hown, cr⟩ := id cx
  subst hp
  obtain ⟨T', X', e', stp⟩ := getS X hx hZ hown (host := "") w1 Via.refl e1 S' (g := mkF m pc Ls st) rfl (hb hb' d)
  exact (K T' ⟨cx, locs, cells, slots, X', e', r⟩).step stp
theorem i_putF (w : Wk p l e R s m args below meth c Z own bytes maxL ret mn n0 h0 ws T h k n) {index kk : Nat} {O nm ds C : String} {ty : FieldType} {a : Addr} {v old : Value} (d : decode bytes pc = .ok (.putfield index, 3)) (w1 : (Cond.fieldLink own index O nm ds).before a0 Z = true) (F : Fld Z h a O nm ds old) (E : Exa Z h a C)
    (L : (Cond.lays C O nm ds).before a0 Z = true ∨ ((Cond.laysFinal C O nm ds).before a0 Z = true ∧ own = O ∧ mn = "<init>")) (wi : (Cond.instantiable C kk).before a0 Z = true) (hty : parseFieldDescriptor ds = some ty) (hn : narrow ty v = v) (hf : fits ty v = true) (ha : a ∈ ws ∨ h0.size ≤ a) (hp : pc + 3 = pc')
    (K : ∀ T' h', Wk p l e R s m args below meth c Z own bytes maxL ret mn n0 h0 ws T' h' k n → Wr h h' a (Jvm.RoadKit.slotOf Z O nm ds) v → Goes p e below P T' (mkF m pc' Ls (st))) : Goes p e below P T (mkF m pc Ls (v :: .ref a :: st)) := by
  have hna := w.wsn ha
  obtain ⟨cx, locs, cells, slots, X, e1, N, b1, b2, O1, K1⟩ := w
  obtain ⟨hx, hb', hml, hZ, hown, hret, hlk, hmn, cr⟩ := id cx
  subst hp
  obtain ⟨T', h', X', e', W, stp⟩ := putF X hx hZ hown (host := "") (Or.inl w1) Via.refl e1 F E (L.imp id fun q => ⟨q.1, q.2.1, hmn.trans q.2.2⟩) wi hty hn hf (g := mkF m pc Ls (v :: .ref a :: st)) rfl rfl (hb hb' d)
  exact (K T' h' ⟨cx, _, cells, slots, X', e', Fr.snoc X' N hna, b1, b2, O1.wr W hna, K1.wr W ha⟩ W).step stp
theorem i_new (w : Wk p l e R s m args below meth c Z own bytes maxL ret mn n0 h0 ws T h k n) {index sz : Nat} {C : String} (d : decode bytes pc = .ok (.new index, 3)) (w1 : (Cond.classLink own index C).before a0 Z = true) (w2 : (Cond.instantiable C sz).before a0 Z = true) (w3 : (Cond.initialized C).before a0 Z = true) (hc : k + 1 ≤ R.cells) (hs : n + sz ≤ R.slots) (hp : pc + 3 = pc')
    (K : ∀ a T' h', a = h.size → Wk p l e R s m args below meth c Z own bytes maxL ret mn n0 h0 ws T' h' (k + 1) (n + sz) → h0.size ≤ a → Ext h h' → Exa Z h' a C → (∀ {O nm ds : String} {ty : FieldType}, Laid Z a0 C O nm ds → parseFieldDescriptor ds = some ty → Fld Z h' a O nm ds (defaultValue ty)) → Goes p e below P T' (mkF m pc' Ls (.ref a :: st))) : Goes p e below P T (mkF m pc Ls (st)) := by
  obtain ⟨cx, locs, cells, slots, X, e1, N, b1, b2, O1, K1⟩ := w
  obtain ⟨hx, hb', hml, hZ, hown, cr⟩ := id cx
  subst hp
  obtain ⟨T', h', X', e', E, A, D, -, stp⟩ := newO X hx hZ hown w1 w2 w3 e1 (g := mkF m pc Ls st) rfl (hb hb' d) (by omega) (by omega)
  exact (K h.size T' h' rfl ⟨cx, locs, _, _, X', e', N, by omega, by omega, O1.ext E, K1.ext E⟩ K1.1 E A D).step stp
/-- the array at a holds just vs -/
def Ary (Z : State) (h : Heap) (a : Addr) (ca : ClassId) (ty : FieldType) (vs : List Value) : Prop := vs.length < 2147483648 ∧ Arv Z h a ca ty (Int32.ofNat vs.length) vs (defaultValue ty)
theorem Ary.lt {Z : State} {h : Heap} {a : Addr} {ca : ClassId} {ty : FieldType} {vs : List Value} (F : Ary Z h a ca ty vs) : a < h.size := F.2.lt
theorem Ary.ext {Z : State} {h h' : Heap} {a : Addr} {ca : ClassId} {ty : FieldType} {vs : List Value} (E : Ext h h') (F : Ary Z h a ca ty vs) : Ary Z h' a ca ty vs := ⟨F.1, F.2.ext E⟩
theorem Ary.keep {Z : State} {h h' : Heap} {a : Addr} {ca : ClassId} {ty : FieldType} {vs : List Value} {ws : List Addr} (F : Ary Z h a ca ty vs) (K : Keep h h' ws) (q : a ∉ ws) : Ary Z h' a ca ty vs := ⟨F.1, F.2.keep K q⟩
theorem Ary.other {Z : State} {h h' : Heap} {a b : Addr} {ca : ClassId} {ty : FieldType} {vs : List Value} {sl : Nat} {v : Value} (F : Ary Z h b ca ty vs) (W : Wr h h' a sl v) (q : b ≠ a) : Ary Z h' b ca ty vs := ⟨F.1, F.2.other W q⟩
theorem clamp_ofNat {i : Nat} (h : i < 2147483648) : (Int32.ofNat i).toNatClampNeg = i := by
  have e : (Int32.ofNat i).toInt = i := Int32.toInt_ofNat_small h
  show (Int32.ofNat i).toInt.toNat = i
  rw [e]; rfl
theorem nonneg_ofNat {i : Nat} (h : i < 2147483648) : ¬ Int32.ofNat i < 0 := by
  rw [Int32.lt_iff_toInt_lt, Int32.toInt_ofNat_small h]; show ¬ (i : Int) < 0; omega
theorem Ary.in {Z : State} {h : Heap} {a : Addr} {ca : ClassId} {ty : FieldType} {vs : List Value} {i : Nat} {cl : Cell} (hv : vs.length < 2147483648) (S : cl.slots.size = (Int32.ofNat vs.length).toNatClampNeg) (hi : i < vs.length) : ¬ (Int32.ofNat i < 0 ∨ cl.slots.size ≤ (Int32.ofNat i).toNatClampNeg) := by
  rw [S, clamp_ofNat hv, clamp_ofNat (by omega)]
  exact fun q => q.elim (nonneg_ofNat (by omega)) (by omega)
theorem i_newP (w : Wk p l e R s m args below meth c Z own bytes maxL ret mn n0 h0 ws T h k n) {aty : ArrayType} {N : Nat} {z : Int32} (d : decode bytes pc = .ok (.newarray aty, 2)) (w1 : (Cond.arrayClass (newarray.typeOf aty)).before a0 Z = true) (hz : z = Int32.ofNat N) (hN : N ≤ 65536) {cap : Nat} (hcap : N ≤ cap) (hcap' : cap ≤ 65536) (hc : k + 1 ≤ R.cells) (hs : n + cap ≤ R.slots) (hp : pc + 2 = pc')
    (K : ∀ a T' h' ca, a = h.size → Wk p l e R s m args below meth c Z own bytes maxL ret mn n0 h0 ws T' h' (k + 1) (n + cap) → h0.size ≤ a → Ext h h' → Ary Z h' a ca (newarray.typeOf aty) (List.replicate N (defaultValue (newarray.typeOf aty))) → Goes p e below P T' (mkF m pc' Ls (.ref a :: st))) : Goes p e below P T (mkF m pc Ls (.int z :: st)) := by
  obtain ⟨cx, locs, cells, slots, X, e1, N1, b1, b2, O1, K1⟩ := w
  obtain ⟨hx, hb', hml, hZ, hown, cr⟩ := id cx
  subst hp hz
  have cl := clamp_ofNat (i := N) (by omega)
  obtain ⟨T', h', cA, X', e', E, A, stp⟩ := newP X hx hZ w1 e1 (g := mkF m pc Ls (.int (Int32.ofNat N) :: st)) rfl (hb hb' d) rfl (nonneg_ofNat (by omega)) (cap := cap) (by rw [cl]; exact hcap) (by omega) (by omega) (by omega)
  refine (K h.size T' h' cA rfl ⟨cx, locs, _, _, X', e', N1, by omega, by omega, O1.ext E, K1.ext E⟩ K1.1 E ⟨by simp; omega, ?_⟩).step stp
  rw [List.length_replicate]
  exact (Arv.new A (nonneg_ofNat (by omega))).pad (by simpa using pad_rep [] (defaultValue (newarray.typeOf aty)) N)
theorem i_iaload (w : Wk p l e R s m args below meth c Z own bytes maxL ret mn n0 h0 ws T h k n) {a : Addr} {ca : ClassId} {vs : List Value} {i : Nat} {j z : Int32} (d : decode bytes pc = .ok (.iaload, 1)) (A : Ary Z h a ca .int vs) (hj : j = Int32.ofNat i) (hv : vs[i]? = some (.int z)) (hp : pc + 1 = pc') (K : Goes p e below P T (mkF m pc' Ls (.int z :: st))) : Goes p e below P T (mkF m pc Ls (.int j :: .ref a :: st)) := by
  obtain ⟨⟨hx, hb', hml, hZ, cr⟩, locs, cells, slots, X, e1, r⟩ := w
  subst hp hj
  obtain ⟨hl, cl, Ar, q, S, M, H, U⟩ := A
  obtain ⟨hi, hv'⟩ := List.getElem?_eq_some_iff.mp hv
  have hin := Ary.in (Z := Z) (h := h) (a := a) (ca := ca) (ty := .int) hl S hi
  exact K.step fun t q' => X.iaload hx (j := Int32.ofNat i) (v := .int z) (by rw [e1]; exact Ar.1) (State.isArrayOf_alike hZ.alike Ar.2.1) Ar.2.2 hin (Has.at H hin (by rw [clamp_ofNat (by omega), List.getD_eq_getElem?_getD, hv]; rfl)) (g := mkF m pc Ls (.int (Int32.ofNat i) :: .ref a :: st)) rfl rfl (hb hb' d) t q'
theorem i_caload (w : Wk p l e R s m args below meth c Z own bytes maxL ret mn n0 h0 ws T h k n) {a : Addr} {ca : ClassId} {vs : List Value} {i : Nat} {j z : Int32} (d : decode bytes pc = .ok (.caload, 1)) (A : Ary Z h a ca .char vs) (hj : j = Int32.ofNat i) (hv : vs[i]? = some (.int z)) (hp : pc + 1 = pc') (K : Goes p e below P T (mkF m pc' Ls (.int z :: st))) : Goes p e below P T (mkF m pc Ls (.int j :: .ref a :: st)) := by
  obtain ⟨⟨hx, hb', hml, hZ, cr⟩, locs, cells, slots, X, e1, r⟩ := w
  subst hp hj
  obtain ⟨hl, cl, Ar, q, S, M, H, U⟩ := A
  obtain ⟨hi, hv'⟩ := List.getElem?_eq_some_iff.mp hv
  have hin := Ary.in (Z := Z) (h := h) (a := a) (ca := ca) (ty := .char) hl S hi
  exact K.step fun t q' => X.caload hx (j := Int32.ofNat i) (v := .int z) (by rw [e1]; exact Ar.1) (State.isArrayOf_alike hZ.alike Ar.2.1) Ar.2.2 hin (Has.at H hin (by rw [clamp_ofNat (by omega), List.getD_eq_getElem?_getD, hv]; rfl)) (g := mkF m pc Ls (.int (Int32.ofNat i) :: .ref a :: st)) rfl rfl (hb hb' d) t q'
theorem i_baload (w : Wk p l e R s m args below meth c Z own bytes maxL ret mn n0 h0 ws T h k n) {a : Addr} {ca : ClassId} {vs : List Value} {i : Nat} {j z : Int32} (d : decode bytes pc = .ok (.baload, 1)) (A : Ary Z h a ca .byte vs) (hj : j = Int32.ofNat i) (hv : vs[i]? = some (.int z)) (hp : pc + 1 = pc') (K : Goes p e below P T (mkF m pc' Ls (.int z :: st))) : Goes p e below P T (mkF m pc Ls (.int j :: .ref a :: st)) := by
  obtain ⟨⟨hx, hb', hml, hZ, cr⟩, locs, cells, slots, X, e1, r⟩ := w
  subst hp hj
  obtain ⟨hl, cl, Ar, q, S, M, H, U⟩ := A
  obtain ⟨hi, hv'⟩ := List.getElem?_eq_some_iff.mp hv
  have hin := Ary.in (Z := Z) (h := h) (a := a) (ca := ca) (ty := .byte) hl S hi
  exact K.step fun t q' => X.baloadBytes hx (j := Int32.ofNat i) (v := .int z) (by rw [e1]; exact Ar.1) (State.isArrayOf_alike hZ.alike Ar.2.1) Ar.2.2 hin (Has.at H hin (by rw [clamp_ofNat (by omega), List.getD_eq_getElem?_getD, hv]; rfl)) (g := mkF m pc Ls (.int (Int32.ofNat i) :: .ref a :: st)) rfl rfl (hb hb' d) t q'
theorem i_aaload (w : Wk p l e R s m args below meth c Z own bytes maxL ret mn n0 h0 ws T h k n) {a : Addr} {ca : ClassId} {vs : List Value} {i : Nat} {j : Int32} {v : Value} {ty : FieldType} (d : decode bytes pc = .ok (.aaload, 1)) (A : Ary Z h a ca ty vs) (hty : ty.isReference = true) (hj : j = Int32.ofNat i) (hv : vs[i]? = some v) (hp : pc + 1 = pc') (K : Goes p e below P T (mkF m pc' Ls (v :: st))) : Goes p e below P T (mkF m pc Ls (.int j :: .ref a :: st)) := by
  obtain ⟨⟨hx, hb', hml, hZ, cr⟩, locs, cells, slots, X, e1, r⟩ := w
  subst hp hj
  obtain ⟨hl, cl, Ar, q, S, M, H, U⟩ := A
  obtain ⟨hi, hv'⟩ := List.getElem?_eq_some_iff.mp hv
  have hin := Ary.in (Z := Z) (h := h) (a := a) (ca := ca) (ty := ty) hl S hi
  exact K.step fun t q' => X.aaload hx (j := Int32.ofNat i) (v := v) (by rw [e1]; exact Ar.1) (State.isArrayOf_alike hZ.alike Ar.2.1) hty Ar.2.2 hin (Has.at H hin (by rw [clamp_ofNat (by omega), List.getD_eq_getElem?_getD, hv]; rfl)) (g := mkF m pc Ls (.int (Int32.ofNat i) :: .ref a :: st)) rfl rfl (hb hb' d) t q'
theorem i_iastore (w : Wk p l e R s m args below meth c Z own bytes maxL ret mn n0 h0 ws T h k n) {a : Addr} {ca : ClassId} {vs : List Value} {i : Nat} {j x : Int32} (d : decode bytes pc = .ok (.iastore, 1)) (A : Ary Z h a ca .int vs) (hj : j = Int32.ofNat i) (hi : i < vs.length) (ha : a ∈ ws ∨ h0.size ≤ a) (hp : pc + 1 = pc')
    (K : ∀ T' h', Wk p l e R s m args below meth c Z own bytes maxL ret mn n0 h0 ws T' h' k n → Keep h h' [a] → Ary Z h' a ca .int (vs.set i (.int x)) → Goes p e below P T' (mkF m pc' Ls (st))) : Goes p e below P T (mkF m pc Ls (.int x :: .int j :: .ref a :: st)) := by
  have hna := w.wsn ha
  obtain ⟨cx, locs, cells, slots, X, e1, N, b1, b2, O1, K1⟩ := w
  obtain ⟨hx, hb', hml, hZ, cr⟩ := id cx
  subst hp hj
  obtain ⟨hl, cl, Ar, q, S, M, H, U⟩ := A
  have hin := Ary.in (Z := Z) (h := h) (a := a) (ca := ca) (ty := .int) hl S hi
  obtain ⟨T', h', X', e', W, stp⟩ := stI X hx hZ e1 Ar (j := Int32.ofNat i) hin (g := mkF m pc Ls (.int x :: .int (Int32.ofNat i) :: .ref a :: st)) rfl rfl (hb hb' d)
  refine (K T' h' ⟨cx, _, cells, slots, X', e', Fr.snoc X' N hna, b1, b2, O1.wr W hna, K1.wr W ha⟩ (Keep.of_wr W) ⟨by simpa using hl, ?_⟩).step stp
  rw [List.length_set]
  exact Arv.set Ar q S M H U rfl W i (clamp_ofNat (by omega)) hi
theorem i_castore (w : Wk p l e R s m args below meth c Z own bytes maxL ret mn n0 h0 ws T h k n) {a : Addr} {ca : ClassId} {vs : List Value} {i : Nat} {j x : Int32} (d : decode bytes pc = .ok (.castore, 1)) (A : Ary Z h a ca .char vs) (hj : j = Int32.ofNat i) (hi : i < vs.length) (ha : a ∈ ws ∨ h0.size ≤ a) (hp : pc + 1 = pc')
    (K : ∀ T' h', Wk p l e R s m args below meth c Z own bytes maxL ret mn n0 h0 ws T' h' k n → Keep h h' [a] → Ary Z h' a ca .char (vs.set i (.int (nar .char x))) → Goes p e below P T' (mkF m pc' Ls (st))) : Goes p e below P T (mkF m pc Ls (.int x :: .int j :: .ref a :: st)) := by
  have hna := w.wsn ha
  obtain ⟨cx, locs, cells, slots, X, e1, N, b1, b2, O1, K1⟩ := w
  obtain ⟨hx, hb', hml, hZ, cr⟩ := id cx
  subst hp hj
  obtain ⟨hl, cl, Ar, q, S, M, H, U⟩ := A
  have hin := Ary.in (Z := Z) (h := h) (a := a) (ca := ca) (ty := .char) hl S hi
  obtain ⟨T', h', X', e', W, stp⟩ := stC X hx hZ e1 Ar (j := Int32.ofNat i) hin (g := mkF m pc Ls (.int x :: .int (Int32.ofNat i) :: .ref a :: st)) rfl rfl (hb hb' d)
  refine (K T' h' ⟨cx, _, cells, slots, X', e', Fr.snoc X' N hna, b1, b2, O1.wr W hna, K1.wr W ha⟩ (Keep.of_wr W) ⟨by simpa using hl, ?_⟩).step stp
  rw [List.length_set]
  exact Arv.set Ar q S M H U (fits_nar_char x) W i (clamp_ofNat (by omega)) hi
theorem i_bastore (w : Wk p l e R s m args below meth c Z own bytes maxL ret mn n0 h0 ws T h k n) {a : Addr} {ca : ClassId} {vs : List Value} {i : Nat} {j x : Int32} (d : decode bytes pc = .ok (.bastore, 1)) (A : Ary Z h a ca .byte vs) (hj : j = Int32.ofNat i) (hi : i < vs.length) (ha : a ∈ ws ∨ h0.size ≤ a) (hp : pc + 1 = pc')
    (K : ∀ T' h', Wk p l e R s m args below meth c Z own bytes maxL ret mn n0 h0 ws T' h' k n → Keep h h' [a] → Ary Z h' a ca .byte (vs.set i (.int (nar .byte x))) → Goes p e below P T' (mkF m pc' Ls (st))) : Goes p e below P T (mkF m pc Ls (.int x :: .int j :: .ref a :: st)) := by
  have hna := w.wsn ha
  obtain ⟨cx, locs, cells, slots, X, e1, N, b1, b2, O1, K1⟩ := w
  obtain ⟨hx, hb', hml, hZ, cr⟩ := id cx
  subst hp hj
  obtain ⟨hl, cl, Ar, q, S, M, H, U⟩ := A
  have hin := Ary.in (Z := Z) (h := h) (a := a) (ca := ca) (ty := .byte) hl S hi
  obtain ⟨T', h', X', e', W, stp⟩ := stB X hx hZ e1 Ar (j := Int32.ofNat i) hin (g := mkF m pc Ls (.int x :: .int (Int32.ofNat i) :: .ref a :: st)) rfl rfl (hb hb' d)
  refine (K T' h' ⟨cx, _, cells, slots, X', e', Fr.snoc X' N hna, b1, b2, O1.wr W hna, K1.wr W ha⟩ (Keep.of_wr W) ⟨by simpa using hl, ?_⟩).step stp
  rw [List.length_set]
  exact Arv.set Ar q S M H U (fits_nar_byte x) W i (clamp_ofNat (by omega)) hi
theorem i_len (w : Wk p l e R s m args below meth c Z own bytes maxL ret mn n0 h0 ws T h k n) {a : Addr} {ca : ClassId} {vs : List Value} {ty : FieldType} {z : Int32} (d : decode bytes pc = .ok (.arraylength, 1)) (A : Ary Z h a ca ty vs) (hz : Int32.ofNat vs.length = z) (hp : pc + 1 = pc') (K : Goes p e below P T (mkF m pc' Ls (.int z :: st))) : Goes p e below P T (mkF m pc Ls (.ref a :: st)) := by
  obtain ⟨⟨hx, hb', hml, hZ, cr⟩, locs, cells, slots, X, e1, r⟩ := w
  subst hp hz
  obtain ⟨hl, cl, Ar, q, S, M, H, U⟩ := A
  exact K.step fun t q' => X.arraylength hx (by rw [e1]; exact Ar.1) (State.isArrayOf_alike hZ.alike Ar.2.1) (g := mkF m pc Ls (.ref a :: st)) rfl rfl (hb hb' d) t (by rw [len_of S M]; exact q')
theorem i_initO (w : Wk p l e R s m args below meth c Z own bytes maxL ret mn n0 h0 ws T h k n) {index : Nat} {a : Addr} (d : decode bytes pc = .ok (.invokespecial index, 3)) (w1 : (Cond.methodLink own index Lib.objectInit).before a0 Z = true) (w2 : (Cond.instanceMethod Lib.objectInit).before a0 Z = true) (w3 : (Cond.code Lib.objectInit ⟨#[0xb1]⟩ 1 none).before a0 Z = true) (hsz : Ls.size = maxL) (hf : 1 ≤ R.frames) {W : Nat} (hW : (st.map fun v => v.category).sum ≤ W) (hl : W + 12 ≤ R.locals) (hp : pc + 3 = pc')
    (K : ∀ T', Wk p l e R s m args below meth c Z own bytes maxL ret mn n0 h0 ws T' h k n → Goes p e below P T' (mkF m pc' Ls (st))) : Goes p e below P T (mkF m pc Ls (.ref a :: st)) := by
  obtain ⟨cx, locs, cells, slots, X, e1, r⟩ := w
  obtain ⟨hx, hb', hml, hZ, hown, cr⟩ := id cx
  subst hp
  obtain ⟨T', X', e', stp⟩ := initO X hx hZ hown w1 w2 w3 e1 (g := mkF m pc Ls (.ref a :: st)) rfl (hsz.trans hml.symm) rfl (hb hb' d) hf (W := W) (by show 2 * 0 + _ ≤ _; omega) hl
  exact (K T' ⟨cx, locs, cells, slots, X', e', r⟩).step stp
end Steps
/-- the end: narrow -/
def PN (s : State) (n0 : Nat) (h0 : Heap) (ws : List Addr) (Q : Option Value → Heap → Prop) (kc ns : Nat) (o : Outcome) (t : State) : Prop := ∃ v L, o = .returned v ∧ (Q v t.heap ∧ Fr n0 L ∧ Keep h0 t.heap ws) ∧ FrameEnd s o t L kc ns
/-- the end: wide (the walk may have interned) -/
def PW (s : State) (n0 : Nat) (h0 : Heap) (ws : List Addr) (Q : Option Value → Heap → Prop) (kc ns : Nat) (o : Outcome) (t : State) : Prop := ∃ v L, o = .returned v ∧ (Q v t.heap ∧ Fr n0 L ∧ Keep h0 t.heap ws) ∧ ReturnedEndW s o t L kc ns
/-- **A CONTRACT**, narrow -/
def Ctr (l : Launch) (Z : State) (n0 : Nat) (y : MethodName) (bytes : ByteArray) (maxL : Nat) (ret : Option FieldType) (cs : List Jvm.Cond) (rm : Room) (as' : Array Value) (h0 : Heap) (ws : List Addr) (Q : Option Value → Heap → Prop) : Prop :=
  MetFree l y (head1 (Cond.code y bytes maxL ret :: cs) rm) (fun a U => a = as' ∧ Z.Warmed39 U.vm ∧ U.heap = h0) (fun _ _ _ _ _ => True) (fun _ U o U' => PN U n0 h0 ws Q rm.cells rm.slots o U')
def CtrW (l : Launch) (Z : State) (n0 : Nat) (y : MethodName) (bytes : ByteArray) (maxL : Nat) (ret : Option FieldType) (cs : List Jvm.Cond) (rm : Room) (as' : Array Value) (h0 : Heap) (ws : List Addr) (Q : Option Value → Heap → Prop) : Prop :=
  MetFree l y (head1 (Cond.code y bytes maxL ret :: cs) rm) (fun a U => a = as' ∧ Z.Warmed39 U.vm ∧ U.heap = h0) (fun _ _ _ _ _ => True) (fun _ U o U' => PW U n0 h0 ws Q rm.cells rm.slots o U')
section Ends
variable {p : Program} {l : Launch} {e : Env} {R : Room} {s : State} {m : MethodId} {args : Array Value} {below : List Frame} {meth : Method} {c : Code} {Z : State} {own : String} {bytes : ByteArray} {maxL : Nat} {ret : Option FieldType} {mn : String} {n0 : Nat} {h0 : Heap} {ws : List Addr} {T : State} {h : Heap} {k n : Nat} {P : Outcome → State → Prop} {Ls : Array Slot} {st : List Value} {pc pc' : Nat} {a0 : Array Value} {Q : Option Value → Heap → Prop} {kc ns : Nat}
theorem i_retI (w : Wk p l e R s m args below meth c Z own bytes maxL ret mn n0 h0 ws T h k n) {z : Int32} (d : decode bytes pc = .ok (.ireturn, 1)) (hr : ret = some .int) (q : Q (some (.int z)) h) (hk : k ≤ kc) (hn : n ≤ ns) : Goes p e below (PN s n0 h0 ws Q kc ns) T (mkF m pc Ls (.int z :: st)) := by
  obtain ⟨⟨hx, hb', hml, hZ, hown, hret, hlk, cr⟩, locs, cells, slots, X, e1, N, b1, b2, O1, K1⟩ := w
  obtain ⟨fs, hl, hrun, hended, hW, hsame⟩ := X.leave (v := some (.int z)) (fun h => by first | rfl | (rw [hret, hr] at h; cases h)) hlk
  exact ⟨_, _, retOut X hx (t := .int) (i := .ireturn) (hret.trans hr) rfl (Or.inl ⟨rfl, by simp, z, rfl⟩) (hb hb' d) hl, hrun, hended, _, _, rfl, ⟨by show Q _ T.heap; rw [e1]; exact q, N, by show Keep h0 T.heap ws; rw [e1]; exact K1⟩, ⟨_, rfl⟩, hW, hsame.mono (by omega) (by omega)⟩
theorem i_retIW {s0 : State} {vm0 : Vm} (w : Wk p l e R (s0.setVm vm0) m args below meth c Z own bytes maxL ret mn n0 h0 ws T h k n) {k0 : Nat} (hS : s0.Since vm0 k0) (hk0 : k0 ≤ h.size) {z : Int32} (d : decode bytes pc = .ok (.ireturn, 1)) (hr : ret = some .int) (q : Q (some (.int z)) h) (hk : k ≤ kc) (hn : n ≤ ns) : Goes p e below (PW s0 n0 h0 ws Q kc ns) T (mkF m pc Ls (.int z :: st)) := by
  obtain ⟨⟨hx, hb', hml, hZ, hown, hret, hlk, cr⟩, locs, cells, slots, X, e1, N, b1, b2, O1, K1⟩ := w
  obtain ⟨fs, hl, hrun, hended, hE1, hE2, hE3, hE4⟩ := X.leaveW hS (by rw [e1]; exact hk0) (v := some (.int z)) (fun h => by first | rfl | (rw [hret, hr] at h; cases h)) hlk
  exact ⟨_, _, retOut X hx (t := .int) (i := .ireturn) (hret.trans hr) rfl (Or.inl ⟨rfl, by simp, z, rfl⟩) (hb hb' d) hl, hrun, hended, _, _, rfl, ⟨by show Q _ T.heap; rw [e1]; exact q, N, by show Keep h0 T.heap ws; rw [e1]; exact K1⟩, hE1, hE2, hE3, hE4.mono (by omega) (by omega)⟩
theorem i_retN (w : Wk p l e R s m args below meth c Z own bytes maxL ret mn n0 h0 ws T h k n) {z : Int32} {t : FieldType} (d : decode bytes pc = .ok (.ireturn, 1)) (hr : ret = some t) (ht : t = .boolean ∨ t = .byte ∨ t = .char ∨ t = .short) (q : Q (some (.int (nar t z))) h) (hk : k ≤ kc) (hn : n ≤ ns) : Goes p e below (PN s n0 h0 ws Q kc ns) T (mkF m pc Ls (.int z :: st)) := by
  obtain ⟨⟨hx, hb', hml, hZ, hown, hret, hlk, cr⟩, locs, cells, slots, X, e1, N, b1, b2, O1, K1⟩ := w
  obtain ⟨fs, hl, hrun, hended, hW, hsame⟩ := X.leave (v := some (.int (nar t z))) (fun h => by first | rfl | (rw [hret, hr] at h; cases h)) hlk
  exact ⟨_, _, retN X hx (hret.trans hr) ht (hb hb' d) hl, hrun, hended, _, _, rfl, ⟨by show Q _ T.heap; rw [e1]; exact q, N, by show Keep h0 T.heap ws; rw [e1]; exact K1⟩, ⟨_, rfl⟩, hW, hsame.mono (by omega) (by omega)⟩
theorem i_retNW {s0 : State} {vm0 : Vm} (w : Wk p l e R (s0.setVm vm0) m args below meth c Z own bytes maxL ret mn n0 h0 ws T h k n) {k0 : Nat} (hS : s0.Since vm0 k0) (hk0 : k0 ≤ h.size) {z : Int32} {t : FieldType} (d : decode bytes pc = .ok (.ireturn, 1)) (hr : ret = some t) (ht : t = .boolean ∨ t = .byte ∨ t = .char ∨ t = .short) (q : Q (some (.int (nar t z))) h) (hk : k ≤ kc) (hn : n ≤ ns) : Goes p e below (PW s0 n0 h0 ws Q kc ns) T (mkF m pc Ls (.int z :: st)) := by
  obtain ⟨⟨hx, hb', hml, hZ, hown, hret, hlk, cr⟩, locs, cells, slots, X, e1, N, b1, b2, O1, K1⟩ := w
  obtain ⟨fs, hl, hrun, hended, hE1, hE2, hE3, hE4⟩ := X.leaveW hS (by rw [e1]; exact hk0) (v := some (.int (nar t z))) (fun h => by first | rfl | (rw [hret, hr] at h; cases h)) hlk
  exact ⟨_, _, retN X hx (hret.trans hr) ht (hb hb' d) hl, hrun, hended, _, _, rfl, ⟨by show Q _ T.heap; rw [e1]; exact q, N, by show Keep h0 T.heap ws; rw [e1]; exact K1⟩, hE1, hE2, hE3, hE4.mono (by omega) (by omega)⟩
theorem i_retA (w : Wk p l e R s m args below meth c Z own bytes maxL ret mn n0 h0 ws T h k n) {v : Value} {t : FieldType} (d : decode bytes pc = .ok (.areturn, 1)) (hr : ret = some t) (ht : t.isReference = true) (hv : v.isRef = true) (q : Q (some v) h) (hk : k ≤ kc) (hn : n ≤ ns) : Goes p e below (PN s n0 h0 ws Q kc ns) T (mkF m pc Ls (v :: st)) := by
  obtain ⟨⟨hx, hb', hml, hZ, hown, hret, hlk, cr⟩, locs, cells, slots, X, e1, N, b1, b2, O1, K1⟩ := w
  obtain ⟨fs, hl, hrun, hended, hW, hsame⟩ := X.leave (v := some v) (fun h => by first | rfl | (rw [hret, hr] at h; cases h)) hlk
  exact ⟨_, _, retOut X hx (hret.trans hr) (by cases t <;> cases v <;> simp_all [narrow, Value.isRef]) (Or.inr (Or.inr (Or.inr (Or.inr ⟨rfl, ht, hv⟩)))) (hb hb' d) hl, hrun, hended, _, _, rfl, ⟨by show Q _ T.heap; rw [e1]; exact q, N, by show Keep h0 T.heap ws; rw [e1]; exact K1⟩, ⟨_, rfl⟩, hW, hsame.mono (by omega) (by omega)⟩
theorem i_retAW {s0 : State} {vm0 : Vm} (w : Wk p l e R (s0.setVm vm0) m args below meth c Z own bytes maxL ret mn n0 h0 ws T h k n) {k0 : Nat} (hS : s0.Since vm0 k0) (hk0 : k0 ≤ h.size) {v : Value} {t : FieldType} (d : decode bytes pc = .ok (.areturn, 1)) (hr : ret = some t) (ht : t.isReference = true) (hv : v.isRef = true) (q : Q (some v) h) (hk : k ≤ kc) (hn : n ≤ ns) : Goes p e below (PW s0 n0 h0 ws Q kc ns) T (mkF m pc Ls (v :: st)) := by
  obtain ⟨⟨hx, hb', hml, hZ, hown, hret, hlk, cr⟩, locs, cells, slots, X, e1, N, b1, b2, O1, K1⟩ := w
  obtain ⟨fs, hl, hrun, hended, hE1, hE2, hE3, hE4⟩ := X.leaveW hS (by rw [e1]; exact hk0) (v := some v) (fun h => by first | rfl | (rw [hret, hr] at h; cases h)) hlk
  exact ⟨_, _, retOut X hx (hret.trans hr) (by cases t <;> cases v <;> simp_all [narrow, Value.isRef]) (Or.inr (Or.inr (Or.inr (Or.inr ⟨rfl, ht, hv⟩)))) (hb hb' d) hl, hrun, hended, _, _, rfl, ⟨by show Q _ T.heap; rw [e1]; exact q, N, by show Keep h0 T.heap ws; rw [e1]; exact K1⟩, hE1, hE2, hE3, hE4.mono (by omega) (by omega)⟩
theorem i_ret0 (w : Wk p l e R s m args below meth c Z own bytes maxL ret mn n0 h0 ws T h k n) (d : decode bytes pc = .ok (.return_, 1)) (hr : ret = none) (q : Q (none) h) (hk : k ≤ kc) (hn : n ≤ ns) : Goes p e below (PN s n0 h0 ws Q kc ns) T (mkF m pc Ls ([])) := by
  obtain ⟨⟨hx, hb', hml, hZ, hown, hret, hlk, cr⟩, locs, cells, slots, X, e1, N, b1, b2, O1, K1⟩ := w
  obtain ⟨fs, hl, hrun, hended, hW, hsame⟩ := X.leave (v := none) (fun h => by first | rfl | (rw [hret, hr] at h; cases h)) hlk
  exact ⟨_, _, X.returnOut hx (hret.trans hr) (hb hb' d) hl, hrun, hended, _, _, rfl, ⟨by show Q _ T.heap; rw [e1]; exact q, N, by show Keep h0 T.heap ws; rw [e1]; exact K1⟩, ⟨_, rfl⟩, hW, hsame.mono (by omega) (by omega)⟩
theorem i_ret0W {s0 : State} {vm0 : Vm} (w : Wk p l e R (s0.setVm vm0) m args below meth c Z own bytes maxL ret mn n0 h0 ws T h k n) {k0 : Nat} (hS : s0.Since vm0 k0) (hk0 : k0 ≤ h.size) (d : decode bytes pc = .ok (.return_, 1)) (hr : ret = none) (q : Q (none) h) (hk : k ≤ kc) (hn : n ≤ ns) : Goes p e below (PW s0 n0 h0 ws Q kc ns) T (mkF m pc Ls ([])) := by
  obtain ⟨⟨hx, hb', hml, hZ, hown, hret, hlk, cr⟩, locs, cells, slots, X, e1, N, b1, b2, O1, K1⟩ := w
  obtain ⟨fs, hl, hrun, hended, hE1, hE2, hE3, hE4⟩ := X.leaveW hS (by rw [e1]; exact hk0) (v := none) (fun h => by first | rfl | (rw [hret, hr] at h; cases h)) hlk
  exact ⟨_, _, X.returnOut hx (hret.trans hr) (hb hb' d) hl, hrun, hended, _, _, rfl, ⟨by show Q _ T.heap; rw [e1]; exact q, N, by show Keep h0 T.heap ws; rw [e1]; exact K1⟩, hE1, hE2, hE3, hE4.mono (by omega) (by omega)⟩
end Ends
theorem enter {l : Launch} {Z : State} {n0 : Nat} {y : MethodName} {bytes : ByteArray} {maxL : Nat} {ret : Option FieldType} {cs : List Jvm.Cond} {rm : Room} {as' : Array Value} {h0 : Heap} {ws : List Addr} {Q : Option Value → Heap → Prop} {Ls : Array Slot}
    (pn : plainFor y = true) (ef : ∀ m, entryFrame m as' maxL = mkF m 0 Ls []) (O : Old Z n0 h0) (hws : ∀ x ∈ ws, n0 ≤ x)
    (body : ∀ p e s m below meth c T, Wk p l e rm s m as' below meth c Z y.cls bytes maxL ret y.name n0 h0 ws T h0 0 0 → Goes p e below (PN s n0 h0 ws Q rm.cells rm.slots) T (mkF m 0 Ls [])) :
    Ctr l Z n0 y bytes maxL ret cs rm as' h0 ws Q := by
  refine MetFree.of_bodySF pn hisR ?_
  intro p e s m args below meth c s₁ Bd hml0 hP hK
  obtain ⟨rfl, hZ, hh⟩ := hP
  rw [ef m]
  exact body p e s m below meth c s₁ ⟨⟨Bd.exec, Bd.bytes, hml0, hZ, findClass_of_methodNamed Bd.named, Bd.returns, Bd.notSynchronized, (name_of_methodNamed Bd.named Bd.method).1, hws, Nat.le_trans (Nat.le_of_eq O.1.symm) O.2.1⟩,
    [], 0, 0, Stand.of_body Bd, by rw [← hh, Bd.state]; rfl, Fr.nil n0, Nat.le_refl _, Nat.le_refl _, O, Keep.refl _ _⟩
theorem enterW {l : Launch} {Z : State} {n0 : Nat} {y : MethodName} {bytes : ByteArray} {maxL : Nat} {ret : Option FieldType} {cs : List Jvm.Cond} {rm : Room} {as' : Array Value} {h0 : Heap} {ws : List Addr} {Q : Option Value → Heap → Prop} {Ls : Array Slot}
    (pn : plainFor y = true) (ef : ∀ m, entryFrame m as' maxL = mkF m 0 Ls []) (O : Old Z n0 h0) (hws : ∀ x ∈ ws, n0 ≤ x)
    (body : ∀ p e s m below meth c T, Wk p l e rm (s.setVm s.vm) m as' below meth c Z y.cls bytes maxL ret y.name n0 h0 ws T h0 0 0 → s.Since s.vm h0.size → Goes p e below (PW s n0 h0 ws Q rm.cells rm.slots) T (mkF m 0 Ls [])) :
    CtrW l Z n0 y bytes maxL ret cs rm as' h0 ws Q := by
  refine MetFree.of_bodySF pn hisR ?_
  intro p e s m args below meth c s₁ Bd hml0 hP hK
  obtain ⟨rfl, hZ, hh⟩ := hP
  rw [ef m]
  exact body p e s m below meth c s₁ ⟨⟨Bd.exec, Bd.bytes, hml0, hZ, findClass_of_methodNamed Bd.named, Bd.returns, Bd.notSynchronized, (name_of_methodNamed Bd.named Bd.method).1, hws, Nat.le_trans (Nat.le_of_eq O.1.symm) O.2.1⟩,
    [], 0, 0, Stand.of_body Bd, by rw [← hh, Bd.state]; rfl, Fr.nil n0, Nat.le_refl _, Nat.le_refl _, O, Keep.refl _ _⟩ ⟨State.Warmed39.refl s, fun j p hj hp => absurd (Array.getElem?_eq_some_iff.mp hp).1 (Nat.not_lt.mpr hj)⟩
section Calls
variable {p : Program} {l : Launch} {e : Env} {R : Room} {s : State} {m : MethodId} {args : Array Value} {below : List Frame} {meth : Method} {c : Code} {Z : State} {own : String} {bytes : ByteArray} {maxL : Nat} {ret : Option FieldType} {mn : String} {n0 : Nat} {h0 : Heap} {ws : List Addr} {T : State} {h : Heap} {k n : Nat} {P : Outcome → State → Prop} {Ls : Array Slot} {st : List Value} {pc pc' : Nat} {a0 : Array Value}
theorem c_static (w : Wk p l e R s m args below meth c Z own bytes maxL ret mn n0 h0 ws T h k n) {index : Nat} {y : MethodName} {bytes' : ByteArray} {maxL' : Nat} {ret' : Option FieldType} {rm : Room} {ws' : List Addr} {Q : Option Value → Heap → Prop} {argsL : List Value} {sg : MethodDescriptor} (d : decode bytes pc = .ok (.invokestatic index, 3)) (w1 : (Cond.methodLink own index y).before a0 Z = true) (w2 : (Cond.static y).before a0 Z = true) (w3 : (Cond.initialized y.cls).before a0 Z = true) (w4 : (Cond.code y bytes' maxL' ret').before a0 Z = true) (hy : y.cls ≠ "java/lang/invoke/MethodHandle" ∧ y.cls ≠ "java/lang/invoke/VarHandle") (pd : parseMethodDescriptor y.desc = some sg) (ha : argsL.length = sg.parameters.length)
    (C : Ctr l Z n0 y bytes' maxL' ret' [] rm argsL.toArray h ws' Q) (hsz : Ls.size = maxL) (hf : rm.frames + 1 ≤ R.frames) {W : Nat} (hW : (st.map fun v => v.category).sum ≤ W) (hl : W + (maxL' + 11) + rm.locals ≤ R.locals) (hc : k + rm.cells ≤ R.cells) (hs : n + rm.slots ≤ R.slots) (hws : ∀ x ∈ ws', x ∈ ws ∨ h0.size ≤ x) (hp : pc + 3 = pc') (K : ∀ v T' h', Wk p l e R s m args below meth c Z own bytes maxL ret mn n0 h0 ws T' h' (k + rm.cells) (n + rm.slots) → Keep h h' ws' → Q v h' → Goes p e below P T' (mkF m pc' Ls (v.toList ++ st))) : Goes p e below P T (mkF m pc Ls (argsL.reverse ++ st)) := by
  obtain ⟨cx, locs, cells, slots, X, e1, N, b1, b2, O1, K1⟩ := w
  obtain ⟨hx, hb', hml, hZ, hown, hret, hlk, hmn, hw0, hn0⟩ := id cx
  subst hp
  obtain ⟨_, _, ⟨T', L', k', n'⟩, -, X', ⟨Lc, ⟨q1, N', K'⟩, l1, y1, z1⟩, stp⟩ := Jvm.LawKit.callS X hx (y := y) hown (mvT hZ w1) (mvT hZ w2) (mvT hZ w3) (mvT hZ w4) hy (backOf (W := W) (Q := fun v t L => Q v t ∧ Fr n0 L ∧ Keep h t ws') C hZ w4 w3 hf hl) (g := mkF m pc Ls (argsL.reverse ++ st)) rfl (hsz.trans hml.symm) (argsL := argsL) (rest := st) (fun sig h => by rw [pd] at h; cases h; exact ha) rfl (by show 2 * 0 + _ ≤ _; omega) (hb hb' d) (fun _ _ => ⟨rfl, e1, by show cells + _ ≤ _; omega, by show slots + _ ≤ _; omega⟩)
  dsimp only [Pt.U, Pt.locs, Pt.cells, Pt.slots] at X' l1 y1 z1 stp q1 K'
  subst l1 y1 z1
  refine (K _ T' T'.heap ⟨cx, _, _, _, X', rfl, Fr.app N N', by omega, by omega, O1.keep K' (fun x hx => (hws x hx).elim (hw0 x) (Nat.le_trans hn0)), K1.trans K' hws⟩ K' q1).step stp
theorem c_special (w : Wk p l e R s m args below meth c Z own bytes maxL ret mn n0 h0 ws T h k n) {index : Nat} {y : MethodName} {bytes' : ByteArray} {maxL' : Nat} {rm : Room} {ws' : List Addr} {Q : Option Value → Heap → Prop} {argsL : List Value} {a : Addr} {sg : MethodDescriptor} (d : decode bytes pc = .ok (.invokespecial index, 3)) (hi : y.name = "<init>") (w1 : (Cond.methodLink own index y).before a0 Z = true) (w2 : (Cond.instanceMethod y).before a0 Z = true) (w3 : (Cond.initialized y.cls).before a0 Z = true) (w4 : (Cond.code y bytes' maxL' none).before a0 Z = true) (hy : y.cls ≠ "java/lang/invoke/MethodHandle" ∧ y.cls ≠ "java/lang/invoke/VarHandle") (pd : parseMethodDescriptor y.desc = some sg) (ha : argsL.length = sg.parameters.length)
    (C : Ctr l Z n0 y bytes' maxL' none [] rm (.ref a :: argsL).toArray h ws' Q) (hsz : Ls.size = maxL) (hf : rm.frames + 1 ≤ R.frames) {W : Nat} (hW : (st.map fun v => v.category).sum ≤ W) (hl : W + (maxL' + 11) + rm.locals ≤ R.locals) (hc : k + rm.cells ≤ R.cells) (hs : n + rm.slots ≤ R.slots) (hws : ∀ x ∈ ws', x ∈ ws ∨ h0.size ≤ x) (hp : pc + 3 = pc') (K : ∀ v T' h', Wk p l e R s m args below meth c Z own bytes maxL ret mn n0 h0 ws T' h' (k + rm.cells) (n + rm.slots) → Keep h h' ws' → Q v h' → Goes p e below P T' (mkF m pc' Ls (v.toList ++ st))) : Goes p e below P T (mkF m pc Ls (argsL.reverse ++ .ref a :: st)) := by
  obtain ⟨cx, locs, cells, slots, X, e1, N, b1, b2, O1, K1⟩ := w
  obtain ⟨hx, hb', hml, hZ, hown, hret, hlk, hmn, hw0, hn0⟩ := id cx
  subst hp
  obtain ⟨_, _, ⟨T', L', k', n'⟩, -, X', ⟨Lc, ⟨q1, N', K'⟩, l1, y1, z1⟩, stp⟩ := X.specialBack hx (y := y) hi hown (mvT hZ w1) (mvT hZ w2) (mvT hZ w4) hy (backOf (W := W) (Q := fun v t L => Q v t ∧ Fr n0 L ∧ Keep h t ws') C hZ w4 w3 hf hl) (g := mkF m pc Ls (argsL.reverse ++ .ref a :: st)) rfl (hsz.trans hml.symm) (Steps.refl _) (a := a) (argsL := argsL) (rest := st) (fun sig h => by rw [pd] at h; cases h; exact ha) rfl (by show 2 * 0 + _ ≤ _; omega) (hb hb' d) (fun _ _ => ⟨rfl, e1, by show cells + _ ≤ _; omega, by show slots + _ ≤ _; omega⟩)
  dsimp only [Pt.U, Pt.locs, Pt.cells, Pt.slots] at X' l1 y1 z1 stp q1 K'
  subst l1 y1 z1
  refine (K _ T' T'.heap ⟨cx, _, _, _, X', rfl, Fr.app N N', by omega, by omega, O1.keep K' (fun x hx => (hws x hx).elim (hw0 x) (Nat.le_trans hn0)), K1.trans K' hws⟩ K' q1).step (fun t q => stp.trans q)
theorem c_virtual (w : Wk p l e R s m args below meth c Z own bytes maxL ret mn n0 h0 ws T h k n) {index : Nat} {C : String} {y : MethodName} {bytes' : ByteArray} {maxL' : Nat} {ret' : Option FieldType} {rm : Room} {ws' : List Addr} {Q : Option Value → Heap → Prop} {argsL : List Value} {a : Addr} {sg : MethodDescriptor} (d : decode bytes pc = .ok (.invokevirtual index, 3)) (w1 : (Cond.methodLink own index y).before a0 Z = true) (w2 : (Cond.declares y).before a0 Z = true) (w3 : (Cond.selects C y y).before a0 Z = true) (w4 : (Cond.instanceMethod y).before a0 Z = true) (w5 : (Cond.code y bytes' maxL' ret').before a0 Z = true) (w6 : (Cond.initialized y.cls).before a0 Z = true) (hy : y.cls ≠ "java/lang/invoke/MethodHandle" ∧ y.cls ≠ "java/lang/invoke/VarHandle") (pd : parseMethodDescriptor y.desc = some sg) (ha : argsL.length = sg.parameters.length) (E : Exa Z h a C)
    (C' : Ctr l Z n0 y bytes' maxL' ret' [] rm (.ref a :: argsL).toArray h ws' Q) (hsz : Ls.size = maxL) (hf : rm.frames + 1 ≤ R.frames) {W : Nat} (hW : (st.map fun v => v.category).sum ≤ W) (hl : W + (maxL' + 11) + rm.locals ≤ R.locals) (hc : k + rm.cells ≤ R.cells) (hs : n + rm.slots ≤ R.slots) (hws : ∀ x ∈ ws', x ∈ ws ∨ h0.size ≤ x) (hp : pc + 3 = pc') (K : ∀ v T' h', Wk p l e R s m args below meth c Z own bytes maxL ret mn n0 h0 ws T' h' (k + rm.cells) (n + rm.slots) → Keep h h' ws' → Q v h' → Goes p e below P T' (mkF m pc' Ls (v.toList ++ st))) : Goes p e below P T (mkF m pc Ls (argsL.reverse ++ .ref a :: st)) := by
  obtain ⟨cx, locs, cells, slots, X, e1, N, b1, b2, O1, K1⟩ := w
  obtain ⟨hx, hb', hml, hZ, hown, hret, hlk, hmn, hw0, hn0⟩ := id cx
  subst hp
  obtain ⟨cq, kq, qa, qb, qc⟩ := isOf (T := T) hZ e1 E
  obtain ⟨_, _, ⟨T', L', k', n'⟩, -, X', ⟨Lc, ⟨q1, N', K'⟩, l1, y1, z1⟩, stp⟩ := X.virtualBack hx (y := y) (z := y) hown (mvT hZ w1) (mvT hZ w2) (notFace_of_selects (args := #[]) (mvT hZ w3)) (mvT hZ w3) (mvT hZ w4) hy (backOf (W := W) (Q := fun v t L => Q v t ∧ Fr n0 L ∧ Keep h t ws') C' hZ w5 w6 hf hl) qa qc (g := mkF m pc Ls (argsL.reverse ++ .ref a :: st)) rfl (hsz.trans hml.symm) (Steps.refl _) (argsL := argsL) (rest := st) (fun sig h => by rw [pd] at h; cases h; exact ha) rfl (by show 2 * 0 + _ ≤ _; omega) (hb hb' d) (fun _ _ => ⟨rfl, e1, by show cells + _ ≤ _; omega, by show slots + _ ≤ _; omega⟩)
  dsimp only [Pt.U, Pt.locs, Pt.cells, Pt.slots] at X' l1 y1 z1 stp q1 K'
  subst l1 y1 z1
  refine (K _ T' T'.heap ⟨cx, _, _, _, X', rfl, Fr.app N N', by omega, by omega, O1.keep K' (fun x hx => (hws x hx).elim (hw0 x) (Nat.le_trans hn0)), K1.trans K' hws⟩ K' q1).step (fun t q => stp.trans q)
/-- a payer in this kit's shape -/
def Pays (l : Launch) (R : Room) (p : Program) (e : Env) (below : List Frame) (s : State) (args : Array Value) (y : MethodName) (W : Nat) (as' : Array Value) (n0 : Nat) (h : Heap) (kc ns : Nat) (ws' : List Addr) (Q : Option Value → Heap → Prop) : Prop :=
  Back l R p e below s args y 3 W (fun A a => a = as' ∧ A.U.heap = h ∧ A.cells + kc ≤ R.cells ∧ A.slots + ns ≤ R.slots) (fun A _ v B => ∃ L, (Q v B.U.heap ∧ Fr n0 L ∧ Keep h B.U.heap ws') ∧ B.locs = A.locs ++ L ∧ B.cells = A.cells + kc ∧ B.slots = A.slots + ns)
theorem b_special (w : Wk p l e R s m args below meth c Z own bytes maxL ret mn n0 h0 ws T h k n) {index : Nat} {y : MethodName} {W : Nat} {kc ns : Nat} {ws' : List Addr} {Q : Option Value → Heap → Prop} {bytes' : ByteArray} {maxL' : Nat} {argsL : List Value} {a : Addr} {sg : MethodDescriptor} (d : decode bytes pc = .ok (.invokespecial index, 3)) (hi : y.name = "<init>") (w1 : (Cond.methodLink own index y).before a0 Z = true) (w2 : (Cond.instanceMethod y).before a0 Z = true) (w4 : (Cond.code y bytes' maxL' none).before a0 Z = true) (hy : y.cls ≠ "java/lang/invoke/MethodHandle" ∧ y.cls ≠ "java/lang/invoke/VarHandle") (pd : parseMethodDescriptor y.desc = some sg) (ha : argsL.length = sg.parameters.length)
    (C : Pays l R p e below s args y W (.ref a :: argsL).toArray n0 h kc ns ws' Q) (hsz : Ls.size = maxL) (hW : (st.map fun v => v.category).sum ≤ W) (hc : k + kc ≤ R.cells) (hs : n + ns ≤ R.slots) (hws : ∀ x ∈ ws', x ∈ ws ∨ h0.size ≤ x) (hp : pc + 3 = pc') (K : ∀ v T' h', Wk p l e R s m args below meth c Z own bytes maxL ret mn n0 h0 ws T' h' (k + kc) (n + ns) → Keep h h' ws' → Q v h' → Goes p e below P T' (mkF m pc' Ls (v.toList ++ st))) : Goes p e below P T (mkF m pc Ls (argsL.reverse ++ .ref a :: st)) := by
  obtain ⟨cx, locs, cells, slots, X, e1, N, b1, b2, O1, K1⟩ := w
  obtain ⟨hx, hb', hml, hZ, hown, hret, hlk, hmn, hw0, hn0⟩ := id cx
  subst hp
  obtain ⟨_, _, ⟨T', L', k', n'⟩, -, X', ⟨Lc, ⟨q1, N', K'⟩, l1, y1, z1⟩, stp⟩ := X.specialBack hx (y := y) hi hown (mvT hZ w1) (mvT hZ w2) (mvT hZ w4) hy C (g := mkF m pc Ls (argsL.reverse ++ .ref a :: st)) rfl (hsz.trans hml.symm) (Steps.refl _) (a := a) (argsL := argsL) (rest := st) (fun sig h => by rw [pd] at h; cases h; exact ha) rfl (by show 2 * 0 + _ ≤ _; omega) (hb hb' d) (fun _ _ => ⟨rfl, e1, by show cells + _ ≤ _; omega, by show slots + _ ≤ _; omega⟩)
  dsimp only [Pt.U, Pt.locs, Pt.cells, Pt.slots] at X' l1 y1 z1 stp q1 K'
  subst l1 y1 z1
  refine (K _ T' T'.heap ⟨cx, _, _, _, X', rfl, Fr.app N N', by omega, by omega, O1.keep K' (fun x hx => (hws x hx).elim (hw0 x) (Nat.le_trans hn0)), K1.trans K' hws⟩ K' q1).step (fun t q => stp.trans q)
theorem b_virtual (w : Wk p l e R s m args below meth c Z own bytes maxL ret mn n0 h0 ws T h k n) {index : Nat} {C : String} {y : MethodName} {W : Nat} {kc ns : Nat} {ws' : List Addr} {Q : Option Value → Heap → Prop} {argsL : List Value} {a : Addr} {sg : MethodDescriptor} (d : decode bytes pc = .ok (.invokevirtual index, 3)) (w1 : (Cond.methodLink own index y).before a0 Z = true) (w2 : (Cond.declares y).before a0 Z = true) (w3 : (Cond.selects C y y).before a0 Z = true) (w4 : (Cond.instanceMethod y).before a0 Z = true) (hy : y.cls ≠ "java/lang/invoke/MethodHandle" ∧ y.cls ≠ "java/lang/invoke/VarHandle") (pd : parseMethodDescriptor y.desc = some sg) (ha : argsL.length = sg.parameters.length) (E : Exa Z h a C)
    (C' : Pays l R p e below s args y W (.ref a :: argsL).toArray n0 h kc ns ws' Q) (hsz : Ls.size = maxL) (hW : (st.map fun v => v.category).sum ≤ W) (hc : k + kc ≤ R.cells) (hs : n + ns ≤ R.slots) (hws : ∀ x ∈ ws', x ∈ ws ∨ h0.size ≤ x) (hp : pc + 3 = pc') (K : ∀ v T' h', Wk p l e R s m args below meth c Z own bytes maxL ret mn n0 h0 ws T' h' (k + kc) (n + ns) → Keep h h' ws' → Q v h' → Goes p e below P T' (mkF m pc' Ls (v.toList ++ st))) : Goes p e below P T (mkF m pc Ls (argsL.reverse ++ .ref a :: st)) := by
  obtain ⟨cx, locs, cells, slots, X, e1, N, b1, b2, O1, K1⟩ := w
  obtain ⟨hx, hb', hml, hZ, hown, hret, hlk, hmn, hw0, hn0⟩ := id cx
  subst hp
  obtain ⟨cq, kq, qa, qb, qc⟩ := isOf (T := T) hZ e1 E
  obtain ⟨_, _, ⟨T', L', k', n'⟩, -, X', ⟨Lc, ⟨q1, N', K'⟩, l1, y1, z1⟩, stp⟩ := X.virtualBack hx (y := y) (z := y) hown (mvT hZ w1) (mvT hZ w2) (notFace_of_selects (args := #[]) (mvT hZ w3)) (mvT hZ w3) (mvT hZ w4) hy C' qa qc (g := mkF m pc Ls (argsL.reverse ++ .ref a :: st)) rfl (hsz.trans hml.symm) (Steps.refl _) (argsL := argsL) (rest := st) (fun sig h => by rw [pd] at h; cases h; exact ha) rfl (by show 2 * 0 + _ ≤ _; omega) (hb hb' d) (fun _ _ => ⟨rfl, e1, by show cells + _ ≤ _; omega, by show slots + _ ≤ _; omega⟩)
  dsimp only [Pt.U, Pt.locs, Pt.cells, Pt.slots] at X' l1 y1 z1 stp q1 K'
  subst l1 y1 z1
  refine (K _ T' T'.heap ⟨cx, _, _, _, X', rfl, Fr.app N N', by omega, by omega, O1.keep K' (fun x hx => (hws x hx).elim (hw0 x) (Nat.le_trans hn0)), K1.trans K' hws⟩ K' q1).step (fun t q => stp.trans q)
theorem b_static (w : Wk p l e R s m args below meth c Z own bytes maxL ret mn n0 h0 ws T h k n) {index : Nat} {y : MethodName} {W : Nat} {kc ns : Nat} {ws' : List Addr} {Q : Option Value → Heap → Prop} {bytes' : ByteArray} {maxL' : Nat} {ret' : Option FieldType} {argsL : List Value} {sg : MethodDescriptor} (d : decode bytes pc = .ok (.invokestatic index, 3)) (w1 : (Cond.methodLink own index y).before a0 Z = true) (w2 : (Cond.static y).before a0 Z = true) (w3 : (Cond.initialized y.cls).before a0 Z = true) (w4 : (Cond.code y bytes' maxL' ret').before a0 Z = true) (hy : y.cls ≠ "java/lang/invoke/MethodHandle" ∧ y.cls ≠ "java/lang/invoke/VarHandle") (pd : parseMethodDescriptor y.desc = some sg) (ha : argsL.length = sg.parameters.length)
    (C : Pays l R p e below s args y W argsL.toArray n0 h kc ns ws' Q) (hsz : Ls.size = maxL) (hW : (st.map fun v => v.category).sum ≤ W) (hc : k + kc ≤ R.cells) (hs : n + ns ≤ R.slots) (hws : ∀ x ∈ ws', x ∈ ws ∨ h0.size ≤ x) (hp : pc + 3 = pc') (K : ∀ v T' h', Wk p l e R s m args below meth c Z own bytes maxL ret mn n0 h0 ws T' h' (k + kc) (n + ns) → Keep h h' ws' → Q v h' → Goes p e below P T' (mkF m pc' Ls (v.toList ++ st))) : Goes p e below P T (mkF m pc Ls (argsL.reverse ++ st)) := by
  obtain ⟨cx, locs, cells, slots, X, e1, N, b1, b2, O1, K1⟩ := w
  obtain ⟨hx, hb', hml, hZ, hown, hret, hlk, hmn, hw0, hn0⟩ := id cx
  subst hp
  obtain ⟨_, _, ⟨T', L', k', n'⟩, -, X', ⟨Lc, ⟨q1, N', K'⟩, l1, y1, z1⟩, stp⟩ := Jvm.LawKit.callS X hx (y := y) hown (mvT hZ w1) (mvT hZ w2) (mvT hZ w3) (mvT hZ w4) hy C (g := mkF m pc Ls (argsL.reverse ++ st)) rfl (hsz.trans hml.symm) (argsL := argsL) (rest := st) (fun sig h => by rw [pd] at h; cases h; exact ha) rfl (by show 2 * 0 + _ ≤ _; omega) (hb hb' d) (fun _ _ => ⟨rfl, e1, by show cells + _ ≤ _; omega, by show slots + _ ≤ _; omega⟩)
  dsimp only [Pt.U, Pt.locs, Pt.cells, Pt.slots] at X' l1 y1 z1 stp q1 K'
  subst l1 y1 z1
  refine (K _ T' T'.heap ⟨cx, _, _, _, X', rfl, Fr.app N N', by omega, by omega, O1.keep K' (fun x hx => (hws x hx).elim (hw0 x) (Nat.le_trans hn0)), K1.trans K' hws⟩ K' q1).step stp
theorem c_staticW {s0 : State} {vm0 : Vm} (w : Wk p l e R (s0.setVm vm0) m args below meth c Z own bytes maxL ret mn n0 h0 ws T h k n) {k0 : Nat} (hS : s0.Since vm0 k0) (hk0 : k0 ≤ h.size) {index : Nat} {y : MethodName} {bytes' : ByteArray} {maxL' : Nat} {ret' : Option FieldType} {rm : Room} {ws' : List Addr} {Q : Option Value → Heap → Prop} {argsL : List Value} {sg : MethodDescriptor} (d : decode bytes pc = .ok (.invokestatic index, 3)) (w1 : (Cond.methodLink own index y).before a0 Z = true) (w2 : (Cond.static y).before a0 Z = true) (w3 : (Cond.initialized y.cls).before a0 Z = true) (w4 : (Cond.code y bytes' maxL' ret').before a0 Z = true) (hy : y.cls ≠ "java/lang/invoke/MethodHandle" ∧ y.cls ≠ "java/lang/invoke/VarHandle") (pd : parseMethodDescriptor y.desc = some sg) (ha : argsL.length = sg.parameters.length)
    (C : CtrW l Z n0 y bytes' maxL' ret' [] rm argsL.toArray h ws' Q) (hsz : Ls.size = maxL) (hf : rm.frames + 1 ≤ R.frames) {W : Nat} (hW : (st.map fun v => v.category).sum ≤ W) (hl : W + (maxL' + 11) + rm.locals ≤ R.locals) (hc : k + rm.cells ≤ R.cells) (hs : n + rm.slots ≤ R.slots) (hws : ∀ x ∈ ws', x ∈ ws ∨ h0.size ≤ x) (hp : pc + 3 = pc') (K : ∀ v T' h' vm1, Wk p l e R (s0.setVm vm1) m args below meth c Z own bytes maxL ret mn n0 h0 ws T' h' (k + rm.cells) (n + rm.slots) → s0.Since vm1 h'.size → Keep h h' ws' → Q v h' → Goes p e below P T' (mkF m pc' Ls (v.toList ++ st))) : Goes p e below P T (mkF m pc Ls (argsL.reverse ++ st)) := by
  obtain ⟨cx, locs, cells, slots, X, e1, N, b1, b2, O1, K1⟩ := w
  obtain ⟨hx, hb', hml, hZ, hown, hret, hlk, hmn, hw0, hn0⟩ := id cx
  subst hp
  obtain ⟨_, _, ⟨T', L', k', n'⟩, -, X', hS', hgr, ⟨Lc, ⟨q1, N', K'⟩, l1, y1, z1⟩, stp⟩ := callSS X hx (y := y) hown (mvT hZ w1) (mvT hZ w2) (mvT hZ w3) (mvT hZ w4) hy (backOfS (W := W) (Q := fun v t L => Q v t ∧ Fr n0 L ∧ Keep h t ws') C hZ w4 w3 hf hl) (g := mkF m pc Ls (argsL.reverse ++ st)) rfl (hsz.trans hml.symm) (argsL := argsL) (rest := st) (fun sig h => by rw [pd] at h; cases h; exact ha) rfl (by show 2 * 0 + _ ≤ _; omega) (hb hb' d) (fun _ _ => ⟨rfl, e1, by show cells + _ ≤ _; omega, by show slots + _ ≤ _; omega⟩)
  dsimp only [Pt.U, Pt.locs, Pt.cells, Pt.slots] at X' hS' hgr l1 y1 z1 stp q1 K'
  subst l1 y1 z1
  have hS2 : s0.Since T'.vm T'.heap.size := hS.trans hS' (Nat.le_trans hk0 (by rw [← e1]; exact hgr))
  refine (K _ T' T'.heap T'.vm ⟨⟨hx, hb', hml, State.Warmed39.trans (t := s0.setVm vm0) hZ hS'.1, by rw [show (s0.setVm T'.vm).vm = T'.vm from rfl, hS'.1.alike.findClass]; exact hown, hret, hlk, hmn, hw0, hn0⟩, _, _, _, X', rfl, Fr.app N N', by omega, by omega, O1.keep K' (fun x hx => (hws x hx).elim (hw0 x) (Nat.le_trans hn0)), K1.trans K' hws⟩ hS2 K' q1).step (fun t q => stp.trans q)
theorem c_virtualW {s0 : State} {vm0 : Vm} (w : Wk p l e R (s0.setVm vm0) m args below meth c Z own bytes maxL ret mn n0 h0 ws T h k n) {k0 : Nat} (hS : s0.Since vm0 k0) (hk0 : k0 ≤ h.size) {index : Nat} {C : String} {y : MethodName} {bytes' : ByteArray} {maxL' : Nat} {ret' : Option FieldType} {rm : Room} {ws' : List Addr} {Q : Option Value → Heap → Prop} {argsL : List Value} {a : Addr} {sg : MethodDescriptor} (d : decode bytes pc = .ok (.invokevirtual index, 3)) (w1 : (Cond.methodLink own index y).before a0 Z = true) (w2 : (Cond.declares y).before a0 Z = true) (w3 : (Cond.selects C y y).before a0 Z = true) (w4 : (Cond.instanceMethod y).before a0 Z = true) (w5 : (Cond.code y bytes' maxL' ret').before a0 Z = true) (w6 : (Cond.initialized y.cls).before a0 Z = true) (hy : y.cls ≠ "java/lang/invoke/MethodHandle" ∧ y.cls ≠ "java/lang/invoke/VarHandle") (pd : parseMethodDescriptor y.desc = some sg) (ha : argsL.length = sg.parameters.length) (E : Exa Z h a C)
    (C' : CtrW l Z n0 y bytes' maxL' ret' [] rm (.ref a :: argsL).toArray h ws' Q) (hsz : Ls.size = maxL) (hf : rm.frames + 1 ≤ R.frames) {W : Nat} (hW : (st.map fun v => v.category).sum ≤ W) (hl : W + (maxL' + 11) + rm.locals ≤ R.locals) (hc : k + rm.cells ≤ R.cells) (hs : n + rm.slots ≤ R.slots) (hws : ∀ x ∈ ws', x ∈ ws ∨ h0.size ≤ x) (hp : pc + 3 = pc') (K : ∀ v T' h' vm1, Wk p l e R (s0.setVm vm1) m args below meth c Z own bytes maxL ret mn n0 h0 ws T' h' (k + rm.cells) (n + rm.slots) → s0.Since vm1 h'.size → Keep h h' ws' → Q v h' → Goes p e below P T' (mkF m pc' Ls (v.toList ++ st))) : Goes p e below P T (mkF m pc Ls (argsL.reverse ++ .ref a :: st)) := by
  obtain ⟨cx, locs, cells, slots, X, e1, N, b1, b2, O1, K1⟩ := w
  obtain ⟨hx, hb', hml, hZ, hown, hret, hlk, hmn, hw0, hn0⟩ := id cx
  subst hp
  obtain ⟨cq, kq, qa, qb, qc⟩ := isOf (T := T) hZ e1 E
  obtain ⟨_, _, ⟨T', L', k', n'⟩, -, X', hS', hgr, ⟨Lc, ⟨q1, N', K'⟩, l1, y1, z1⟩, stp⟩ := X.virtualBackS hx (y := y) (z := y) hown (mvT hZ w1) (mvT hZ w2) (notFace_of_selects (args := #[]) (mvT hZ w3)) (mvT hZ w3) (mvT hZ w4) hy (backOfS (W := W) (Q := fun v t L => Q v t ∧ Fr n0 L ∧ Keep h t ws') C' hZ w5 w6 hf hl) qa qc (g := mkF m pc Ls (argsL.reverse ++ .ref a :: st)) rfl (hsz.trans hml.symm) (Steps.refl _) (argsL := argsL) (rest := st) (fun sig h => by rw [pd] at h; cases h; exact ha) rfl (by show 2 * 0 + _ ≤ _; omega) (hb hb' d) (fun _ _ => ⟨rfl, e1, by show cells + _ ≤ _; omega, by show slots + _ ≤ _; omega⟩)
  dsimp only [Pt.U, Pt.locs, Pt.cells, Pt.slots] at X' hS' hgr l1 y1 z1 stp q1 K'
  subst l1 y1 z1
  have hS2 : s0.Since T'.vm T'.heap.size := hS.trans hS' (Nat.le_trans hk0 (by rw [← e1]; exact hgr))
  refine (K _ T' T'.heap T'.vm ⟨⟨hx, hb', hml, State.Warmed39.trans (t := s0.setVm vm0) hZ hS'.1, by rw [show (s0.setVm T'.vm).vm = T'.vm from rfl, hS'.1.alike.findClass]; exact hown, hret, hlk, hmn, hw0, hn0⟩, _, _, _, X', rfl, Fr.app N N', by omega, by omega, O1.keep K' (fun x hx => (hws x hx).elim (hw0 x) (Nat.le_trans hn0)), K1.trans K' hws⟩ hS2 K' q1).step (fun t q => stp.trans q)
theorem c_specialW {s0 : State} {vm0 : Vm} (w : Wk p l e R (s0.setVm vm0) m args below meth c Z own bytes maxL ret mn n0 h0 ws T h k n) {k0 : Nat} (hS : s0.Since vm0 k0) (hk0 : k0 ≤ h.size) {index : Nat} {y : MethodName} {bytes' : ByteArray} {maxL' : Nat} {rm : Room} {ws' : List Addr} {Q : Option Value → Heap → Prop} {argsL : List Value} {a : Addr} {sg : MethodDescriptor} (d : decode bytes pc = .ok (.invokespecial index, 3)) (hi : y.name = "<init>") (w1 : (Cond.methodLink own index y).before a0 Z = true) (w2 : (Cond.instanceMethod y).before a0 Z = true) (w3 : (Cond.initialized y.cls).before a0 Z = true) (w4 : (Cond.code y bytes' maxL' none).before a0 Z = true) (hy : y.cls ≠ "java/lang/invoke/MethodHandle" ∧ y.cls ≠ "java/lang/invoke/VarHandle") (pd : parseMethodDescriptor y.desc = some sg) (ha : argsL.length = sg.parameters.length)
    (C : CtrW l Z n0 y bytes' maxL' none [] rm (.ref a :: argsL).toArray h ws' Q) (hsz : Ls.size = maxL) (hf : rm.frames + 1 ≤ R.frames) {W : Nat} (hW : (st.map fun v => v.category).sum ≤ W) (hl : W + (maxL' + 11) + rm.locals ≤ R.locals) (hc : k + rm.cells ≤ R.cells) (hs : n + rm.slots ≤ R.slots) (hws : ∀ x ∈ ws', x ∈ ws ∨ h0.size ≤ x) (hp : pc + 3 = pc') (K : ∀ v T' h' vm1, Wk p l e R (s0.setVm vm1) m args below meth c Z own bytes maxL ret mn n0 h0 ws T' h' (k + rm.cells) (n + rm.slots) → s0.Since vm1 h'.size → Keep h h' ws' → Q v h' → Goes p e below P T' (mkF m pc' Ls (v.toList ++ st))) : Goes p e below P T (mkF m pc Ls (argsL.reverse ++ .ref a :: st)) := by
  obtain ⟨cx, locs, cells, slots, X, e1, N, b1, b2, O1, K1⟩ := w
  obtain ⟨hx, hb', hml, hZ, hown, hret, hlk, hmn, hw0, hn0⟩ := id cx
  subst hp
  obtain ⟨_, _, ⟨T', L', k', n'⟩, -, X', hS', hgr, ⟨Lc, ⟨q1, N', K'⟩, l1, y1, z1⟩, stp⟩ := X.specialBackS hx (y := y) hi hown (mvT hZ w1) (mvT hZ w2) (mvT hZ w4) hy (backOfS (W := W) (Q := fun v t L => Q v t ∧ Fr n0 L ∧ Keep h t ws') C hZ w4 w3 hf hl) (g := mkF m pc Ls (argsL.reverse ++ .ref a :: st)) rfl (hsz.trans hml.symm) (Steps.refl _) (a := a) (argsL := argsL) (rest := st) (fun sig h => by rw [pd] at h; cases h; exact ha) rfl (by show 2 * 0 + _ ≤ _; omega) (hb hb' d) (fun _ _ => ⟨rfl, e1, by show cells + _ ≤ _; omega, by show slots + _ ≤ _; omega⟩)
  dsimp only [Pt.U, Pt.locs, Pt.cells, Pt.slots] at X' hS' hgr l1 y1 z1 stp q1 K'
  subst l1 y1 z1
  have hS2 : s0.Since T'.vm T'.heap.size := hS.trans hS' (Nat.le_trans hk0 (by rw [← e1]; exact hgr))
  refine (K _ T' T'.heap T'.vm ⟨⟨hx, hb', hml, State.Warmed39.trans (t := s0.setVm vm0) hZ hS'.1, by rw [show (s0.setVm T'.vm).vm = T'.vm from rfl, hS'.1.alike.findClass]; exact hown, hret, hlk, hmn, hw0, hn0⟩, _, _, _, X', rfl, Fr.app N N', by omega, by omega, O1.keep K' (fun x hx => (hws x hx).elim (hw0 x) (Nat.le_trans hn0)), K1.trans K' hws⟩ hS2 K' q1).step (fun t q => stp.trans q)
theorem i_ldcS {s0 : State} {vm0 : Vm} (w : Wk p l e R (s0.setVm vm0) m args below meth c Z own bytes maxL ret mn n0 h0 ws T h k n) {k0 : Nat} (hS : s0.Since vm0 k0) (hk0 : k0 ≤ h.size) {index N : Nat} {text : String} (d : decode bytes pc = .ok (.ldc index, 2)) (w1 : (Cond.stringLink own index text).before a0 Z = true) (wS : ∀ a ∈ Bundle.stringAtoms, a.before a0 Z = true) (hN : 4 * text.toList.length ≤ N) (hbig : N ≤ 536870912) (hc : k + 2 ≤ R.cells) (hs : n + (N + 4) ≤ R.slots) (hp : pc + 2 = pc')
    (K : ∀ a T' h' vm1, Wk p l e R (s0.setVm vm1) m args below meth c Z own bytes maxL ret mn n0 h0 ws T' h' (k + 2) (n + (N + 4)) → s0.Since vm1 h'.size → Ext h h' → Goes p e below P T' (mkF m pc' Ls (.ref a :: st))) : Goes p e below P T (mkF m pc Ls (st)) := by
  obtain ⟨cx, locs, cells, slots, X, e1, N1, b1, b2, O1, K1⟩ := w
  obtain ⟨hx, hb', hml, hZ, hown, cr⟩ := id cx
  subst hp
  obtain ⟨a, T', h', k1, X', e', E, hS', hk1, hZ', hown', stp⟩ := ldcS X hx hZ hown w1 wS e1 hS hk0 (g := mkF m pc Ls st) rfl (hb hb' d) hN hbig (by omega) (by omega)
  exact (K a T' h' T'.vm ⟨⟨hx, hb', hml, hZ', hown', cr⟩, locs, _, _, X', e', N1, by omega, by omega, O1.ext E, K1.ext E⟩ ⟨hS'.1, hS'.2.mono hk1⟩ E).step stp
theorem i_acopy (w : Wk p l e R s m args below meth c Z own bytes maxL ret mn n0 h0 ws T h k n) {index : Nat} {a b : Addr} {ca cb : ClassId} {ty : FieldType} {vs vd : List Value} {sp dp nn : Nat} (d : decode bytes pc = .ok (.invokestatic index, 3)) (w1 : (Cond.methodLink own index Jvm.Stand.acN).before a0 Z = true) (w2 : (Cond.native Jvm.Stand.acN).before a0 Z = true) (w3 : (Cond.static Jvm.Stand.acN).before a0 Z = true) (w4 : (Cond.initialized "java/lang/System").before a0 Z = true)
    (A : Ary Z h a ca ty vs) (B : Ary Z h b cb ty vd) (hty : refKind ty = false) (h4 : sp + nn ≤ vs.length) (h5 : dp + nn ≤ vd.length) (hb : b ∈ ws ∨ h0.size ≤ b) (hsz : Ls.size = maxL) (hf : 1 ≤ R.frames) {W : Nat} (hW : (st.map fun v => v.category).sum ≤ W) (hl : W + 18 ≤ R.locals) (hp : pc + 3 = pc')
    (K : ∀ T' h', Wk p l e R s m args below meth c Z own bytes maxL ret mn n0 h0 ws T' h' k n → Keep h h' [b] → Ary Z h' b cb ty (vd.take dp ++ (vs.drop sp).take nn ++ vd.drop (dp + nn)) → Goes p e below P T' (mkF m pc' Ls (st))) : Goes p e below P T (mkF m pc Ls (.int (Int32.ofNat nn) :: .int (Int32.ofNat dp) :: .ref b :: .int (Int32.ofNat sp) :: .ref a :: st)) := by
  have hna := w.wsn hb
  obtain ⟨cx, locs, cells, slots, X, e1, N, b1, b2, O1, K1⟩ := w
  obtain ⟨hx, hb', hml, hZ, hown, cr⟩ := id cx
  subst hp
  have lA := A.1
  have lB := B.1
  have us : (List.range nn).map (fun i => vs.getD (sp + i) (defaultValue ty)) = (vs.drop sp).take nn := by
    apply List.ext_getElem?
    intro i
    rw [List.getElem?_map, List.getElem?_take]
    by_cases hi : i < nn
    · rw [if_pos hi, List.getElem?_range hi, List.getElem?_drop, List.getElem?_eq_getElem (by omega)]
      simp [List.getD_eq_getElem?_getD, List.getElem?_eq_getElem (show sp + i < vs.length by omega)]
    · rw [if_neg hi, List.getElem?_eq_none (by simp; omega)]; rfl
  obtain ⟨T', h', L, X', e', N', K', B', stp⟩ := cpA X hx hZ hown w1 w2 w3 w4 e1 A.2 B.2 (sp := Int32.ofNat sp) (dp := Int32.ofNat dp) (nn := Int32.ofNat nn) (us := (vs.drop sp).take nn) (Or.inl ⟨rfl, hty⟩) (nonneg_ofNat (by omega)) (nonneg_ofNat (by omega)) (nonneg_ofNat (by omega))
    (by rw [clamp_ofNat (by omega), clamp_ofNat (by omega), clamp_ofNat (by omega)]; exact h4) (by rw [clamp_ofNat (by omega), clamp_ofNat (by omega), clamp_ofNat (by omega)]; exact h5) (by rw [clamp_ofNat (by omega), clamp_ofNat (by omega)]; exact us.symm) (by rw [clamp_ofNat (by omega), clamp_ofNat (by omega)]; exact h5) N hna
    (g := mkF m pc Ls (.int (Int32.ofNat nn) :: .int (Int32.ofNat dp) :: .ref b :: .int (Int32.ofNat sp) :: .ref a :: st)) rfl (hsz.trans hml.symm) rfl (Jvm.hb hb' d) hf (W := W) (by show 2 * 0 + _ ≤ _; omega) (by show W + (nativeFrameWords "java/lang/System" "arraycopy" 5 + 11) ≤ _; exact hl)
  rw [clamp_ofNat (show dp < 2147483648 by omega), clamp_ofNat (show nn < 2147483648 by omega)] at B'
  have ll : (vd.take dp ++ (vs.drop sp).take nn ++ vd.drop (dp + nn)).length = vd.length := by simp; omega
  exact (K T' h' ⟨cx, _, cells, slots, X', e', N', b1, b2, O1.keep K' (allS hna all0), K1.trans K' (allS hb all0)⟩ K' ⟨by rw [ll]; exact lB, by rw [ll]; exact B'⟩).step stp
end Calls
end Jvm.OwnKit
namespace Jvm.OwnKit
open Jvm Jvm.ClassFile Sem Op Lib Jvm.Free Jvm.Stand Jvm.LawKit Jvm.RoadKit
theorem cat1 {v : Value} (h : v.isRef = true) : v.category = 1 := by cases v <;> simp [Value.isRef, Value.category] at h ⊢
theorem toInt_small {k : Nat} (h : k < 2147483648) : (Int32.ofNat k).toInt = k := Int32.toInt_ofNat_small h
theorem nat_of_nonneg {x : Int32} (h : ¬ x < 0) : ∃ k, k < 2147483648 ∧ x = Int32.ofNat k ∧ x.toInt = k := by
  rw [Int32.lt_iff_toInt_lt] at h
  have e0 : (0 : Int32).toInt = 0 := rfl
  have b := x.toInt_lt
  refine ⟨x.toInt.toNat, by omega, ?_, by omega⟩
  apply Int32.toInt_inj.mp
  rw [toInt_small (by omega)]; omega
theorem lt_nat {a b : Nat} (ha : a < 2147483648) (hb : b < 2147483648) : Int32.ofNat a < Int32.ofNat b ↔ a < b := by
  rw [Int32.lt_iff_toInt_lt, toInt_small ha, toInt_small hb]; omega
theorem eq_nat {a b : Nat} (ha : a < 2147483648) (hb : b < 2147483648) : Int32.ofNat a = Int32.ofNat b ↔ a = b := by
  rw [← Int32.toInt_inj, toInt_small ha, toInt_small hb]; omega
theorem tbv (k : Nat) : (Int32.ofNat k).toBitVec = BitVec.ofNat 32 k := rfl
theorem tnat {k : Nat} (h : k < 4294967296) : (Int32.ofNat k).toBitVec.toNat = k := by rw [tbv, BitVec.toNat_ofNat]; omega
theorem i32_ext {x y : Int32} (h : x.toBitVec.toNat = y.toBitVec.toNat) : x = y := Int32.toBitVec_inj.mp (BitVec.eq_of_toNat_eq h)
theorem add_nat (a b : Nat) : Int32.ofNat a + Int32.ofNat b = Int32.ofNat (a + b) := by
  apply i32_ext; rw [Int32.toBitVec_add, BitVec.toNat_add, tbv, tbv, tbv]; simp
theorem sub_nat {a b : Nat} (h : b ≤ a) : Int32.ofNat a - Int32.ofNat b = Int32.ofNat (a - b) := by
  have e : Int32.ofNat a = Int32.ofNat (a - b) + Int32.ofNat b := by rw [add_nat]; congr 1; omega
  rw [e]
  apply Int32.toBitVec_inj.mp
  rw [Int32.toBitVec_sub, Int32.toBitVec_add, BitVec.add_sub_cancel]
theorem and_nat (a b : Nat) : Int32.ofNat a &&& Int32.ofNat b = Int32.ofNat (a &&& b) := by
  apply i32_ext
  rw [Int32.toBitVec_and, BitVec.toNat_and, tbv, tbv, tbv]
  simp [Nat.and_mod_two_pow]
theorem or_nat (a b : Nat) : Int32.ofNat a ||| Int32.ofNat b = Int32.ofNat (a ||| b) := by
  apply i32_ext
  rw [Int32.toBitVec_or, BitVec.toNat_or, tbv, tbv, tbv]
  simp [Nat.or_mod_two_pow]
theorem shl_nat {a j : Nat} (hj : j < 32) : Int32.ofNat a <<< (Int32.ofNat j &&& 31) = Int32.ofNat (a * 2 ^ j) := by
  have e : (Int32.ofNat j &&& 31) = Int32.ofNat j := by
    have q : (31 : Int32) = Int32.ofNat 31 := rfl
    rw [q, and_nat]; congr 1
    have := Nat.and_two_pow_sub_one_eq_mod j 5
    simp at this; rw [this]; omega
  rw [e]
  apply i32_ext
  rw [Int32.toBitVec_shiftLeft]
  have s : ((Int32.ofNat j).toBitVec.smod 32) = BitVec.ofNat 32 j := by
    rw [tbv]
    have t : ∀ k : Fin 32, (BitVec.ofNat 32 k.val).smod 32 = BitVec.ofNat 32 k.val := by decide
    exact t ⟨j, hj⟩
  rw [s, tbv, tbv, BitVec.shiftLeft_eq', BitVec.toNat_shiftLeft, BitVec.toNat_ofNat, BitVec.toNat_ofNat, BitVec.toNat_ofNat, Nat.mod_eq_of_lt (show j < 2 ^ 32 by omega), Nat.shiftLeft_eq, Nat.mod_mul_mod]
theorem shr_nat {a j : Nat} (ha : a < 2147483648) (hj : j < 32) : Int32.ofNat a >>> (Int32.ofNat j &&& 31) = Int32.ofNat (a / 2 ^ j) := by
  have e : (Int32.ofNat j &&& 31) = Int32.ofNat j := by
    have q : (31 : Int32) = Int32.ofNat 31 := rfl
    rw [q, and_nat]; congr 1
    have := Nat.and_two_pow_sub_one_eq_mod j 5
    simp at this; rw [this]; omega
  rw [e]
  apply i32_ext
  rw [Int32.toBitVec_shiftRight]
  have s : ((Int32.ofNat j).toBitVec.smod 32) = BitVec.ofNat 32 j := by
    rw [tbv]
    have t : ∀ k : Fin 32, (BitVec.ofNat 32 k.val).smod 32 = BitVec.ofNat 32 k.val := by decide
    exact t ⟨j, hj⟩
  have hm : (BitVec.ofNat 32 a).toNat = a := by rw [BitVec.toNat_ofNat]; omega
  rw [s, tbv, tbv, BitVec.sshiftRight_eq', BitVec.toNat_ofNat, Nat.mod_eq_of_lt (show j < 2 ^ 32 by omega), BitVec.toNat_sshiftRight_of_msb_false (by rw [BitVec.msb_eq_false_iff_two_mul_lt, hm]; omega), hm, Nat.shiftRight_eq_div_pow, BitVec.toNat_ofNat]
  have : a / 2 ^ j ≤ a := Nat.div_le_self _ _
  exact (Nat.mod_eq_of_lt (by generalize a / 2 ^ j = q at *; omega)).symm
theorem shr_zero (x : Int32) : x >>> ((0 : Int32) &&& 31) = x := by
  have e : ((0 : Int32) &&& 31) = 0 := by decide
  rw [e]
  apply Int32.toBitVec_inj.mp
  rw [Int32.toBitVec_shiftRight]
  have e1 : ((0 : Int32).toBitVec.smod 32) = 0#32 := by decide
  rw [e1, BitVec.sshiftRight_eq']
  exact BitVec.sshiftRight_zero
theorem char_nat (x : Int32) : ∃ k, k < 65536 ∧ nar .char x = Int32.ofNat k := by
  have f := fits_nar_char x
  simp only [fits, Bool.and_eq_true, decide_eq_true_eq] at f
  obtain ⟨f1, f2⟩ := f
  obtain ⟨k, h1, h2, h3⟩ := nat_of_nonneg (Int32.not_lt.mpr f1)
  refine ⟨k, ?_, h2⟩
  rw [Int32.le_iff_toInt_le, h3] at f2
  have e : (65535 : Int32).toInt = 65535 := rfl
  omega
theorem char_of_nat {k : Nat} (h : k < 65536) : nar .char (Int32.ofNat k) = Int32.ofNat k := by
  apply i32_ext
  show BitVec.toNat (((Int32.ofNat k).toBitVec.setWidth 16).setWidth 32) = _
  rw [BitVec.toNat_setWidth, BitVec.toNat_setWidth, tnat (by omega)]; omega
theorem char_idem (x : Int32) : nar .char (nar .char x) = nar .char x := by obtain ⟨k, h, e⟩ := char_nat x; rw [e, char_of_nat h]
theorem and_lt {x : Int32} {j : Nat} (hj : j < 31) : ∃ k, k < 2 ^ j ∧ x &&& Int32.ofNat (2 ^ j - 1) = Int32.ofNat k := by
  refine ⟨x.toBitVec.toNat % 2 ^ j, Nat.mod_lt _ (Nat.two_pow_pos _), ?_⟩
  have hp : 2 ^ j ≤ 2 ^ 31 := Nat.pow_le_pow_right (by omega) (by omega)
  have hm := Nat.mod_lt x.toBitVec.toNat (Nat.two_pow_pos j)
  apply i32_ext
  rw [Int32.toBitVec_and, BitVec.toNat_and, tnat (by omega), tnat (by omega), Nat.and_two_pow_sub_one_eq_mod]
theorem and31 (x : Int32) : ∃ k, k < 2147483648 ∧ x &&& 2147483647 = Int32.ofNat k := by
  refine ⟨x.toBitVec.toNat % 2 ^ 31, Nat.mod_lt _ (Nat.two_pow_pos _), ?_⟩
  have hm := Nat.mod_lt x.toBitVec.toNat (Nat.two_pow_pos 31)
  apply i32_ext
  rw [show (2147483647 : Int32) = Int32.ofNat (2 ^ 31 - 1) from rfl, Int32.toBitVec_and, BitVec.toNat_and, tnat (by omega), tnat (by omega), Nat.and_two_pow_sub_one_eq_mod]
theorem rem_nat {a b : Nat} (ha : a < 2147483648) (hb : b < 2147483648) (h : 0 < b) : Int32.ofNat a % Int32.ofNat b = Int32.ofNat (a % b) := by
  have hm := Nat.mod_lt a h
  apply Int32.toInt_inj.mp
  rw [Int32.toInt_mod, toInt_small ha, toInt_small hb, toInt_small (by omega)]
  rfl
theorem own_sta {s : State} {a0 : Array Value} {C nm d : String} {z : Int32} (w : (Cond.eq (Term.static C nm d) (Term.int z)).before a0 s = true) (wi : (Cond.initializedFor C nm d).before a0 s = true) : Sta s s.heap C nm d (.int z) := by
  have w' := Cond.before_iff.mp w
  obtain ⟨x, y, e1, e2, k1, k2⟩ := cmp_v (Or.inl w')
  cases (Term.int_eval z).symm.trans e2
  obtain ⟨z', rfl⟩ := k2
  have := gotT (Cond.eq_ints e1 (Term.int_eval z)) w'
  subst this
  exact Sta.start e1 (Or.inl wi)
/-- the byte of a char's code, as the array holds it -/
def bv (k : Nat) : Int32 := (Int32.ofNat k).toInt8.toInt32
theorem byte_idem (x : Int32) : nar .byte x.toInt8.toInt32 = x.toInt8.toInt32 := by
  show (x.toInt8.toInt32).toInt8.toInt32 = _
  rw [Int8.toInt8_toInt32]
theorem bv_mask (k : Nat) : bv k &&& 255 = Int32.ofNat (k % 256) := by
  apply i32_ext
  have h : (bv k).toBitVec = ((BitVec.ofNat 32 k).signExtend 8).signExtend 32 := by rw [bv, Int8.toBitVec_toInt32, Int32.toBitVec_toInt8, tbv]
  rw [Int32.toBitVec_and, BitVec.toNat_and, h, tnat (by omega)]
  have e : (((BitVec.ofNat 32 k).signExtend 8).signExtend 32).toNat % 256 = k % 256 := by
    rw [BitVec.toNat_signExtend]
    have hlt := (BitVec.ofNat 32 k).isLt
    simp only [BitVec.toNat_setWidth, BitVec.toNat_signExtend, BitVec.toNat_ofNat] at hlt ⊢
    split <;> split <;> omega
  rw [← e]
  exact Nat.and_two_pow_sub_one_eq_mod _ 8
theorem bv_char {k : Nat} (h : k < 256) : nar .char (bv k &&& 255) = Int32.ofNat k := by
  rw [bv_mask, Nat.mod_eq_of_lt h, char_of_nat (by omega)]
/-- StringUTF16.getChar's two bytes -/
theorem pair_char {k : Nat} (h : k < 65536) : nar .char (((bv k &&& 255) <<< ((0 : Int32) &&& 31)) ||| ((bv (k / 256) &&& 255) <<< ((8 : Int32) &&& 31))) = Int32.ofNat k := by
  rw [bv_mask, bv_mask]
  have e0 : (0 : Int32) = Int32.ofNat 0 := rfl
  have e8 : (8 : Int32) = Int32.ofNat 8 := rfl
  rw [e0, e8, shl_nat (by omega), shl_nat (by omega), or_nat, Nat.mod_eq_of_lt (show k / 256 < 256 by omega)]
  have : k % 256 * 2 ^ 0 ||| k / 256 * 2 ^ 8 = k := by
    rw [Nat.or_comm, Nat.pow_zero, Nat.mul_one, ← Nat.shiftLeft_eq, ← Nat.shiftLeft_add_eq_or_of_lt (by omega), Nat.shiftLeft_eq]; omega
  rw [this, char_of_nat h]
theorem bv_hi {k : Nat} (h : k < 65536) : (Int32.ofNat k >>> ((8 : Int32) &&& 31)).toInt8.toInt32 = bv (k / 256) := by
  have e8 : (8 : Int32) = Int32.ofNat 8 := rfl
  rw [e8, shr_nat (by omega) (by omega)]; rfl
theorem fits_bv (k : Nat) : fits .byte (.int (bv k)) = true := fits_nar_byte _
end Jvm.OwnKit
namespace Jvm.OwnKit
open Jvm Jvm.ClassFile Sem Op Lib Jvm.Free Jvm.Stand Jvm.LawKit Jvm.RoadKit
abbrev ST : String := "java/lang/String"
/-- chars as a char[] holds them -/
def chs (cs : List Nat) : List Value := cs.map fun c => .int (Int32.ofNat c)
/-- .. as a Latin-1 byte[] does -/
def lat (cs : List Nat) : List Value := cs.map fun c => .int (bv c)
/-- .. as a UTF-16 byte[] does, low before high -/
def wid : List Nat → List Value
  | [] => []
  | c :: cs => .int (bv c) :: .int (bv (c / 256)) :: wid cs
theorem chs_len (cs : List Nat) : (chs cs).length = cs.length := by simp [chs]
theorem lat_len (cs : List Nat) : (lat cs).length = cs.length := by simp [lat]
theorem wid_len : ∀ cs : List Nat, (wid cs).length = 2 * cs.length
  | [] => rfl
  | c :: cs => by simp [wid, wid_len cs]; omega
theorem chs_at {cs : List Nat} {i c : Nat} (h : cs[i]? = some c) : (chs cs)[i]? = some (.int (Int32.ofNat c)) := by simp [chs, h]
theorem lat_at {cs : List Nat} {i c : Nat} (h : cs[i]? = some c) : (lat cs)[i]? = some (.int (bv c)) := by simp [lat, h]
theorem wid_lo : ∀ {cs : List Nat} {i c : Nat}, cs[i]? = some c → (wid cs)[2 * i]? = some (.int (bv c))
  | x :: cs, 0, c, h => by simp at h; subst h; rfl
  | x :: cs, i + 1, c, h => by rw [show 2 * (i + 1) = 2 * i + 1 + 1 by omega]; simp [wid]; exact wid_lo (by simpa using h)
theorem wid_hi : ∀ {cs : List Nat} {i c : Nat}, cs[i]? = some c → (wid cs)[2 * i + 1]? = some (.int (bv (c / 256)))
  | x :: cs, 0, c, h => by simp at h; subst h; rfl
  | x :: cs, i + 1, c, h => by rw [show 2 * (i + 1) + 1 = 2 * i + 1 + 1 + 1 by omega]; simp [wid]; exact wid_hi (by simpa using h)
theorem inc_nat (i : Nat) : Int32.ofNat i + Int32.ofInt 1 = Int32.ofNat (i + 1) := add_nat i 1
theorem take_succ_some {α : Type} {cs : List α} {i : Nat} {c : α} (h : cs[i]? = some c) : cs.take (i + 1) = cs.take i ++ [c] := by rw [List.take_add_one, h]; rfl
theorem lat_step {cs : List Nat} {bs : List Value} {i ci : Nat} (hl : bs.length = cs.length) (hci : cs[i]? = some ci) (ht : bs.take i = lat (cs.take i)) : (bs.set i (.int (nar .byte (Int32.ofNat ci).toInt8.toInt32))).take (i + 1) = lat (cs.take (i + 1)) := by
  obtain ⟨hi, -⟩ := List.getElem?_eq_some_iff.mp hci
  rw [take_succ_some hci, take_succ_some (c := .int (nar .byte (Int32.ofNat ci).toInt8.toInt32)) (by rw [List.getElem?_set_self (by omega)]), List.take_set_of_le (Nat.le_refl _), ht, byte_idem]
  simp [lat, bv]
theorem all_step {cs : List Nat} {i ci : Nat} (hci : cs[i]? = some ci) (hs : ∀ c ∈ cs.take i, c < 256) (h : ci < 256) : ∀ c ∈ cs.take (i + 1), c < 256 := by
  rw [take_succ_some hci]; intro c hc; rcases List.mem_append.mp hc with q | q
  · exact hs c q
  · simp at q; omega
theorem le255 {c : Nat} (h : c < 65536) : ¬ (255 : Int32) < Int32.ofNat c ↔ c < 256 := by
  rw [show (255 : Int32) = Int32.ofNat 255 from rfl, lt_nat (by omega) (by omega)]; omega
theorem gt255 {c : Nat} (h : c < 65536) : (255 : Int32) < Int32.ofNat c ↔ 256 ≤ c := by
  rw [show (255 : Int32) = Int32.ofNat 255 from rfl, lt_nat (by omega) (by omega)]; omega
theorem ofNat_ne0 {n : Nat} (h : 0 < n) (h' : n < 2147483648) : ¬ Int32.ofNat n = 0 := by
  rw [show (0 : Int32) = Int32.ofNat 0 from rfl, eq_nat h' (by omega)]; omega
theorem shl1 (i : Nat) : Int32.ofNat i <<< ((1 : Int32) &&& 31) = Int32.ofNat (2 * i) := by
  rw [show (1 : Int32) = Int32.ofNat 1 from rfl, shl_nat (by omega), Nat.mul_comm]
theorem shr1 {i : Nat} (h : i < 2147483648) : Int32.ofNat i >>> ((1 : Int32) &&& 31) = Int32.ofNat (i / 2) := by
  rw [show (1 : Int32) = Int32.ofNat 1 from rfl, shr_nat h (by omega)]
theorem ushr31 {x : Int32} (h : x < 0) : XT.ushr x 31 = 1 := by
  rw [Int32.lt_iff_toInt_lt] at h
  have e0 : (0 : Int32).toInt = 0 := rfl
  rw [e0] at h
  apply i32_ext
  have hb : 2147483648 ≤ x.toBitVec.toNat := by
    have e : x.toInt = x.toBitVec.toInt := rfl
    rw [e, BitVec.toInt_eq_toNat_cond] at h
    split at h <;> omega
  have hl := x.toBitVec.isLt
  show BitVec.toNat (x.toBitVec >>> (BitVec.ofNat 32 31 % 32)) = 1
  rw [show (BitVec.ofNat 32 31 % 32) = 31#32 by decide, BitVec.ushiftRight_eq', BitVec.toNat_ushiftRight, show (31#32).toNat = 31 by decide, Nat.shiftRight_eq_div_pow]
  omega
theorem cod1 {n : Nat} (h : 0 < n) (h' : n < 1000000) : (XT.ushr (Int32.ofNat n - Int32.ofNat (2 * n)) 31).toInt8.toInt32 = 1 := by
  rw [ushr31 (by
    rw [Int32.lt_iff_toInt_lt, Int32.toInt_sub, toInt_small (by omega), toInt_small (by omega)]
    show Int.bmod _ _ < 0
    rw [Int.bmod_eq_of_le (by omega) (by omega)]; omega)]
  decide
theorem cod0 (x : Int32) : (XT.ushr (x - x) 31).toInt8.toInt32 = 0 := by
  have e : x - x = 0 := by apply Int32.toBitVec_inj.mp; rw [Int32.toBitVec_sub, BitVec.sub_self]; rfl
  rw [e]; decide
theorem wid_step {cs : List Nat} {bs : List Value} {i ci : Nat} (hl : bs.length = 2 * cs.length) (hci : cs[i]? = some ci) (ht : bs.take (2 * i) = wid (cs.take i)) : ((bs.set (2 * i) (.int (bv ci))).set (2 * i + 1) (.int (bv (ci / 256)))).take (2 * (i + 1)) = wid (cs.take (i + 1)) := by
  obtain ⟨hi, -⟩ := List.getElem?_eq_some_iff.mp hci
  have w2 : ∀ (xs : List Nat) (x : Nat), wid (xs ++ [x]) = wid xs ++ [.int (bv x), .int (bv (x / 256))] := by
    intro xs x; induction xs with
    | nil => rfl
    | cons y ys ih => simp [wid, ih]
  rw [show 2 * (i + 1) = 2 * i + 1 + 1 by omega, take_succ_some (c := .int (bv (ci / 256))) (by rw [List.getElem?_set_self (by simp; omega)]), List.take_set_of_le (Nat.le_refl _), take_succ_some (c := .int (bv ci)) (by rw [List.getElem?_set_self (by omega)]), List.take_set_of_le (Nat.le_refl _), ht, take_succ_some hci, w2]
  simp
/-- the first place of c in cs, from i on -/
def ixN (c : Nat) : List Nat → Nat → Option Nat
  | [], _ => none
  | x :: xs, i => if x = c then some i else ixN c xs (i + 1)
def ixv (c : Nat) (cs : List Nat) (i : Nat) : Int32 := match ixN c (cs.drop i) i with | some j => Int32.ofNat j | none => -1
theorem ixv_end {c : Nat} {cs : List Nat} {i : Nat} (h : cs.length ≤ i) : ixv c cs i = -1 := by rw [ixv, List.drop_of_length_le h]; rfl
theorem ixv_hit {c : Nat} {cs : List Nat} {i : Nat} (h : cs[i]? = some c) : ixv c cs i = Int32.ofNat i := by
  obtain ⟨hi, e⟩ := List.getElem?_eq_some_iff.mp h
  rw [ixv, List.drop_eq_getElem_cons hi, e]; simp [ixN]
theorem ixv_miss {c x : Nat} {cs : List Nat} {i : Nat} (h : cs[i]? = some x) (hx : ¬ x = c) : ixv c cs i = ixv c cs (i + 1) := by
  obtain ⟨hi, e⟩ := List.getElem?_eq_some_iff.mp h
  rw [ixv, List.drop_eq_getElem_cons hi, e]; simp [ixN, hx, ixv]
theorem bv_inj {x y : Nat} (hx : x < 256) (hy : y < 256) (h : bv x = bv y) : x = y := by
  have := bv_char hx; rw [h, bv_char hy] at this
  exact ((eq_nat (by omega) (by omega)).mp this).symm
theorem lat_take_drop (cs : List Nat) (b n : Nat) : ((lat cs).drop b).take n = lat ((cs.drop b).take n) := by simp [lat, List.map_drop, List.map_take]
/-- the String at a, Latin-1, its array at t -/
def StrL (Z : State) (h : Heap) (a t : Addr) (ca : ClassId) (cs : List Nat) : Prop := Exa Z h a ST ∧ Fld Z h a ST "value" "[B" (.ref t) ∧ Fld Z h a ST "coder" "B" (.int 0) ∧ Ary Z h t ca .byte (lat cs) ∧ ∀ c ∈ cs, c < 256
/-- .. UTF-16 -/
def StrW (Z : State) (h : Heap) (a t : Addr) (ca : ClassId) (cs : List Nat) : Prop := Exa Z h a ST ∧ Fld Z h a ST "value" "[B" (.ref t) ∧ Fld Z h a ST "coder" "B" (.int 1) ∧ Ary Z h t ca .byte (wid cs) ∧ (∀ c ∈ cs, c < 65536) ∧ ∃ c ∈ cs, 256 ≤ c
def Str (Z : State) (h : Heap) (a t : Addr) (ca : ClassId) (cs : List Nat) : Prop := StrL Z h a t ca cs ∨ StrW Z h a t ca cs
section
variable {Z : State} {h h' : Heap} {a t : Addr} {ca : ClassId} {cs : List Nat} {ws : List Addr}
theorem StrL.ext (E : Ext h h') (S : StrL Z h a t ca cs) : StrL Z h' a t ca cs := ⟨S.1.ext E, S.2.1.ext E, S.2.2.1.ext E, S.2.2.2.1.ext E, S.2.2.2.2⟩
theorem StrL.keep (S : StrL Z h a t ca cs) (K : Keep h h' ws) (q : a ∉ ws) (r : t ∉ ws) : StrL Z h' a t ca cs := ⟨S.1.keep K, S.2.1.keep K q, S.2.2.1.keep K q, S.2.2.2.1.keep K r, S.2.2.2.2⟩
theorem StrW.ext (E : Ext h h') (S : StrW Z h a t ca cs) : StrW Z h' a t ca cs := ⟨S.1.ext E, S.2.1.ext E, S.2.2.1.ext E, S.2.2.2.1.ext E, S.2.2.2.2⟩
theorem StrW.keep (S : StrW Z h a t ca cs) (K : Keep h h' ws) (q : a ∉ ws) (r : t ∉ ws) : StrW Z h' a t ca cs := ⟨S.1.keep K, S.2.1.keep K q, S.2.2.1.keep K q, S.2.2.2.1.keep K r, S.2.2.2.2⟩
theorem StrL.lt (S : StrL Z h a t ca cs) : a < h.size := S.1.lt
theorem StrL.ltT (S : StrL Z h a t ca cs) : t < h.size := S.2.2.2.1.lt
theorem StrW.lt (S : StrW Z h a t ca cs) : a < h.size := S.1.lt
theorem StrW.ltT (S : StrW Z h a t ca cs) : t < h.size := S.2.2.2.1.lt
theorem Str.lt (S : Str Z h a t ca cs) : a < h.size := S.elim (·.lt) (·.lt)
theorem Str.ltT (S : Str Z h a t ca cs) : t < h.size := S.elim (·.ltT) (·.ltT)
theorem Str.ext (E : Ext h h') (S : Str Z h a t ca cs) : Str Z h' a t ca cs := S.imp (·.ext E) (·.ext E)
theorem Str.keep (S : Str Z h a t ca cs) (K : Keep h h' ws) (q : a ∉ ws) (r : t ∉ ws) : Str Z h' a t ca cs := S.imp (·.keep K q r) (·.keep K q r)
theorem Str.exa (S : Str Z h a t ca cs) : Exa Z h a ST := S.elim (·.1) (·.1)
theorem Str.val (S : Str Z h a t ca cs) : Fld Z h a ST "value" "[B" (.ref t) := S.elim (·.2.1) (·.2.1)
theorem Str.raw (S : Str Z h a t ca cs) : ∃ vs cd, Fld Z h a ST "coder" "B" (.int cd) ∧ Ary Z h t ca .byte vs ∧ (cd = 0 ∨ cd = 1) ∧ Int32.ofNat vs.length >>> (cd &&& 31) = Int32.ofNat cs.length ∧ (vs.length = 0 ↔ cs.length = 0) ∧ ((cd = 0 ∧ vs = lat cs ∧ ∀ c ∈ cs, c < 256) ∨ (cd = 1 ∧ vs = wid cs)) := by
  rcases S with ⟨h1, h2, h3, h4, h5⟩ | ⟨h1, h2, h3, h4, h5, h6⟩
  · exact ⟨_, 0, h3, h4, Or.inl rfl, by rw [shr_zero, lat_len], by rw [lat_len], Or.inl ⟨rfl, rfl, h5⟩⟩
  · exact ⟨_, 1, h3, h4, Or.inr rfl, by have := h4.1; rw [wid_len] at this ⊢; rw [shr1 this]; congr 1; omega, by rw [wid_len]; omega, Or.inr ⟨rfl, rfl⟩⟩
theorem Str.c16 (S : Str Z h a t ca cs) : ∀ c ∈ cs, c < 65536 := S.elim (fun q c hc => Nat.lt_trans (q.2.2.2.2 c hc) (by omega)) (·.2.2.2.2.1)
end
end Jvm.OwnKit
namespace Jvm.OwnKit
open Jvm Jvm.ClassFile Sem Op Lib Jvm.Free Jvm.Stand Jvm.LawKit Jvm.RoadKit
section Objs
variable {p : Program} {l : Launch} {e : Env} {R : Room} {s : State} {m : MethodId} {args : Array Value} {below : List Frame} {meth : Method} {c : Code} {Z : State} {own : String} {bytes : ByteArray} {maxL : Nat} {ret : Option FieldType} {mn : String} {n0 : Nat} {h0 : Heap} {ws : List Addr} {T : State} {h : Heap} {k n : Nat} {P : Outcome → State → Prop} {Ls : Array Slot} {st : List Value} {pc pc' : Nat} {a0 : Array Value}
theorem i_newPE (w : Wk p l e R s m args below meth c Z own bytes maxL ret mn n0 h0 ws T h k n) {aty : ArrayType} {N : Nat} {z : Int32} {ad : String} (d : decode bytes pc = .ok (.newarray aty, 2)) (w1 : (Cond.arrayClass (newarray.typeOf aty)).before a0 Z = true) (had : "[" ++ (newarray.typeOf aty).toString = ad) (hz : z = Int32.ofNat N) (hN : N ≤ 65536) {cap : Nat} (hcap : N ≤ cap) (hcap' : cap ≤ 65536) (hc : k + 1 ≤ R.cells) (hs : n + cap ≤ R.slots) (hp : pc + 2 = pc')
    (K : ∀ a T' h' ca, a = h.size → Wk p l e R s m args below meth c Z own bytes maxL ret mn n0 h0 ws T' h' (k + 1) (n + cap) → h0.size ≤ a → Ext h h' → Ary Z h' a ca (newarray.typeOf aty) (List.replicate N (defaultValue (newarray.typeOf aty))) → Exa Z h' a ad → Goes p e below P T' (mkF m pc' Ls (.ref a :: st))) : Goes p e below P T (mkF m pc Ls (.int z :: st)) := by
  obtain ⟨cx, locs, cells, slots, X, e1, N1, b1, b2, O1, K1⟩ := w
  obtain ⟨hx, hb', hml, hZ, hown, cr⟩ := id cx
  subst hp hz
  have cl := clamp_ofNat (i := N) (by omega)
  obtain ⟨T', h', cA, X', e', E, A, EX, stp⟩ := newPE X hx hZ w1 e1 (g := mkF m pc Ls (.int (Int32.ofNat N) :: st)) rfl (hb hb' d) rfl (nonneg_ofNat (by omega)) (cap := cap) (by rw [cl]; exact hcap) (by omega) (by omega) (by omega) had
  refine (K h.size T' h' cA rfl ⟨cx, locs, _, _, X', e', N1, by omega, by omega, O1.ext E, K1.ext E⟩ K1.1 E ⟨by simp; omega, ?_⟩ EX).step stp
  rw [List.length_replicate]
  exact (Arv.new A (nonneg_ofNat (by omega))).pad (by simpa using pad_rep [] (defaultValue (newarray.typeOf aty)) N)
theorem i_newR (w : Wk p l e R s m args below meth c Z own bytes maxL ret mn n0 h0 ws T h k n) {index N : Nat} {z : Int32} {C ad : String} (d : decode bytes pc = .ok (.anewarray index, 3)) (w1 : (Cond.classLink own index C).before a0 Z = true) (w2 : (Cond.arrayOver (.object C)).before a0 Z = true) (had : "[" ++ (FieldType.object C).toString = ad) (hz : z = Int32.ofNat N) (hN : N ≤ 65536) {cap : Nat} (hcap : N ≤ cap) (hcap' : cap ≤ 65536) (hc : k + 1 ≤ R.cells) (hs : n + cap ≤ R.slots) (hp : pc + 3 = pc')
    (K : ∀ a T' h' ca, a = h.size → Wk p l e R s m args below meth c Z own bytes maxL ret mn n0 h0 ws T' h' (k + 1) (n + cap) → h0.size ≤ a → Ext h h' → Ary Z h' a ca (.object C) (List.replicate N .null) → Exa Z h' a ad → Ovr Z ca C → Goes p e below P T' (mkF m pc' Ls (.ref a :: st))) : Goes p e below P T (mkF m pc Ls (.int z :: st)) := by
  obtain ⟨cx, locs, cells, slots, X, e1, N1, b1, b2, O1, K1⟩ := w
  obtain ⟨hx, hb', hml, hZ, hown, cr⟩ := id cx
  subst hp hz
  have cl := clamp_ofNat (i := N) (by omega)
  obtain ⟨T', h', cA, X', e', E, A, EX, OV, stp⟩ := newRE X hx hZ hown w1 w2 e1 (g := mkF m pc Ls (.int (Int32.ofNat N) :: st)) rfl (hb hb' d) rfl (nonneg_ofNat (by omega)) (cap := cap) (by rw [cl]; exact hcap) (by omega) (by omega) (by omega) had
  refine (K h.size T' h' cA rfl ⟨cx, locs, _, _, X', e', N1, by omega, by omega, O1.ext E, K1.ext E⟩ K1.1 E ⟨by simp; omega, ?_⟩ EX OV).step stp
  rw [List.length_replicate]
  exact (Arv.new A (nonneg_ofNat (by omega))).pad (pad_rep [] .null N)
theorem i_clone (w : Wk p l e R s m args below meth c Z own bytes maxL ret mn n0 h0 ws T h k n) {index : Nat} {ad : String} {a : Addr} {ca : ClassId} {ty : FieldType} {vs : List Value} (d : decode bytes pc = .ok (.invokevirtual index, 3)) (w1 : (Cond.methodLink own index ⟨ad, "clone", "()Ljava/lang/Object;"⟩).before a0 Z = true) (w2 : (Cond.sameMethod ad "java/lang/Object" "clone" "()Ljava/lang/Object;").before a0 Z = true) (w3 : (Cond.native ⟨"java/lang/Object", "clone", "()Ljava/lang/Object;"⟩).before a0 Z = true)
    (w4 : (Cond.instanceMethod ⟨"java/lang/Object", "clone", "()Ljava/lang/Object;"⟩).before a0 Z = true) (w5 : (Cond.selects ad ⟨ad, "clone", "()Ljava/lang/Object;"⟩ ⟨"java/lang/Object", "clone", "()Ljava/lang/Object;"⟩).before a0 Z = true) (w6 : (Cond.castable ad "java/lang/Cloneable").before a0 Z = true)
    (A : Ary Z h a ca ty vs) (E : Exa Z h a ad) (hsz : Ls.size = maxL) (hf : 1 ≤ R.frames) {W : Nat} (hW : (st.map fun v => v.category).sum ≤ W) (hl : W + 14 ≤ R.locals) {cap : Nat} (hcap : vs.length ≤ cap) (hc : k + 1 ≤ R.cells) (hs : n + cap ≤ R.slots) (hp : pc + 3 = pc')
    (K : ∀ b T' h', b = h.size → Wk p l e R s m args below meth c Z own bytes maxL ret mn n0 h0 ws T' h' (k + 1) (n + cap) → h0.size ≤ b → Ext h h' → Ary Z h' b ca ty vs → Exa Z h' b ad → Goes p e below P T' (mkF m pc' Ls (.ref b :: st))) : Goes p e below P T (mkF m pc Ls (.ref a :: st)) := by
  obtain ⟨cx, locs, cells, slots, X, e1, N1, b1, b2, O1, K1⟩ := w
  obtain ⟨hx, hb', hml, hZ, hown, cr⟩ := id cx
  subst hp
  obtain ⟨T', h', X', e', E', A', EX, stp⟩ := cloneH X hx hZ hown w1 w2 w3 w4 w5 w6 e1 (Arv.arh A.2) E (g := mkF m pc Ls (.ref a :: st)) rfl (hsz.trans hml.symm) rfl (hb hb' d) hf (W := W) (cap := cap) (by show 2 * 0 + _ ≤ _; omega) hl (by rw [clamp_ofNat A.1]; exact hcap) (by omega) (by omega)
  exact (K h.size T' h' rfl ⟨cx, locs, _, _, X', e', N1, by omega, by omega, O1.ext E', K1.ext E'⟩ K1.1 E' ⟨A.1, A'⟩ EX).step stp
theorem i_cast (w : Wk p l e R s m args below meth c Z own bytes maxL ret mn n0 h0 ws T h k n) {index : Nat} {C : String} {a : Addr} (d : decode bytes pc = .ok (.checkcast index, 3)) (w1 : (Cond.classLink own index C).before a0 Z = true) (I : Ins Z h a C true) (hp : pc + 3 = pc') (K : ∀ T', Wk p l e R s m args below meth c Z own bytes maxL ret mn n0 h0 ws T' h k n → Goes p e below P T' (mkF m pc' Ls (.ref a :: st))) : Goes p e below P T (mkF m pc Ls (.ref a :: st)) := by
  obtain ⟨cx, locs, cells, slots, X, e1, r⟩ := w
  obtain ⟨hx, hb', hml, hZ, hown, cr⟩ := id cx
  subst hp
  obtain ⟨T', X', e', stp⟩ := castY X hx hZ hown w1 e1 I (g := mkF m pc Ls (.ref a :: st)) rfl rfl (hb hb' d)
  exact (K T' ⟨cx, locs, cells, slots, X', e', r⟩).step stp
theorem i_instY (w : Wk p l e R s m args below meth c Z own bytes maxL ret mn n0 h0 ws T h k n) {index : Nat} {C : String} {a : Addr} (d : decode bytes pc = .ok (.instanceof index, 3)) (w1 : (Cond.classLink own index C).before a0 Z = true) (I : Ins Z h a C true) (hp : pc + 3 = pc') (K : ∀ T', Wk p l e R s m args below meth c Z own bytes maxL ret mn n0 h0 ws T' h k n → Goes p e below P T' (mkF m pc' Ls (.int 1 :: st))) : Goes p e below P T (mkF m pc Ls (.ref a :: st)) := by
  obtain ⟨cx, locs, cells, slots, X, e1, r⟩ := w
  obtain ⟨hx, hb', hml, hZ, hown, cr⟩ := id cx
  subst hp
  obtain ⟨T', X', e', stp⟩ := instY X hx hZ hown w1 e1 I (g := mkF m pc Ls (.ref a :: st)) rfl rfl (hb hb' d)
  exact (K T' ⟨cx, locs, cells, slots, X', e', r⟩).step stp
theorem i_gcls (w : Wk p l e R s m args below meth c Z own bytes maxL ret mn n0 h0 ws T h k n) {index : Nat} {C : String} {a mr : Addr} (d : decode bytes pc = .ok (.invokevirtual index, 3)) (w1 : (Cond.methodLink own index ⟨"java/lang/Object", "getClass", "()Ljava/lang/Class;"⟩).before a0 Z = true) (w2 : (Cond.declares ⟨"java/lang/Object", "getClass", "()Ljava/lang/Class;"⟩).before a0 Z = true) (w4 : (Cond.selects C ⟨"java/lang/Object", "getClass", "()Ljava/lang/Class;"⟩ ⟨"java/lang/Object", "getClass", "()Ljava/lang/Class;"⟩).before a0 Z = true)
    (w5 : (Cond.instanceMethod ⟨"java/lang/Object", "getClass", "()Ljava/lang/Class;"⟩).before a0 Z = true) (w6 : (Cond.native ⟨"java/lang/Object", "getClass", "()Ljava/lang/Class;"⟩).before a0 Z = true) (E : Exa Z h a C) (M : Mir Z C mr) (hsz : Ls.size = maxL) (hf : 1 ≤ R.frames) {W : Nat} (hW : (st.map fun v => v.category).sum ≤ W) (hl : W + 14 ≤ R.locals) (hp : pc + 3 = pc')
    (K : ∀ T', Wk p l e R s m args below meth c Z own bytes maxL ret mn n0 h0 ws T' h k n → Goes p e below P T' (mkF m pc' Ls (.ref mr :: st))) : Goes p e below P T (mkF m pc Ls (.ref a :: st)) := by
  obtain ⟨cx, locs, cells, slots, X, e1, r⟩ := w
  obtain ⟨hx, hb', hml, hZ, hown, cr⟩ := id cx
  subst hp
  obtain ⟨cB, kB, i1, i2, i3⟩ := isOf (T := T) hZ e1 E
  obtain ⟨cc, kc, m1, m2, m3, -⟩ := M
  rw [hZ.alike.findClass] at i1
  cases i1.symm.trans m1
  obtain ⟨k', q, ek⟩ := hZ.alike.2.2 _ _ m2
  have q14 : nativeFrameWords "java/lang/Object" "getClass" 1 + 11 = 14 := by decide
  have own_lo : 2 * 0 + (st.map fun v => v.category).sum + (nativeFrameWords "java/lang/Object" "getClass" 1 + 11) ≤ R.locals := by rw [q14]; omega
  obtain ⟨vm', X', stp⟩ := X.getClassOf hx hown (mvT hZ w1) (mvT hZ w2) (notFace_of_selects (args := #[]) (mvT hZ w4)) (mvT hZ w4) (mvT hZ w5) (mvT hZ w6) (by rw [hZ.alike.findClass]; exact m1) i3 q (by rw [ek]; exact m3) (g := mkF m pc Ls (.ref a :: st)) rfl (hsz.trans hml.symm) rfl (hb hb' d) hf own_lo
  exact (K _ ⟨cx, locs, cells, slots, X', e1, r⟩).step stp
theorem i_ldcM (w : Wk p l e R s m args below meth c Z own bytes maxL ret mn n0 h0 ws T h k n) {index : Nat} {C : String} {mr : Addr} (d : decode bytes pc = .ok (.ldc index, 2)) (w1 : (Cond.classLink own index C).before a0 Z = true) (M : Mir Z C mr) (hp : pc + 2 = pc') (K : ∀ T', Wk p l e R s m args below meth c Z own bytes maxL ret mn n0 h0 ws T' h k n → Goes p e below P T' (mkF m pc' Ls (.ref mr :: st))) : Goes p e below P T (mkF m pc Ls (st)) := by
  obtain ⟨cx, locs, cells, slots, X, e1, r⟩ := w
  obtain ⟨hx, hb', hml, hZ, hown, cr⟩ := id cx
  subst hp
  obtain ⟨cc, kc, m1, m2, m3, -⟩ := M
  obtain ⟨k', q, ek⟩ := hZ.alike.2.2 _ _ m2
  have f1 : s.vm.findClass C = some cc := by rw [hZ.alike.findClass]; exact m1
  have f2 : k'.mirror = some mr := by rw [ek]; exact m3
  obtain ⟨vm', X', stp⟩ := X.ldcMirror hx (a := mr) hown (mvT hZ w1) (by simp [Term.eval, f1, q, f2]) (g := mkF m pc Ls st) rfl (hb hb' d)
  exact (K _ ⟨cx, locs, cells, slots, X', e1, r⟩).step stp
theorem i_acopyR (w : Wk p l e R s m args below meth c Z own bytes maxL ret mn n0 h0 ws T h k n) {index : Nat} {a b : Addr} {ca cb : ClassId} {ty ty' : FieldType} {vs vd : List Value} {sp dp nn : Nat} (d : decode bytes pc = .ok (.invokestatic index, 3)) (w1 : (Cond.methodLink own index Jvm.Stand.acN).before a0 Z = true) (w2 : (Cond.native Jvm.Stand.acN).before a0 Z = true) (w3 : (Cond.static Jvm.Stand.acN).before a0 Z = true) (w4 : (Cond.initialized "java/lang/System").before a0 Z = true)
    (A : Ary Z h a ca ty vs) (B : Ary Z h b cb ty' vd) (hty : refKind ty = true ∧ refKind ty' = true ∧ StoL Z h b ((vs.drop sp).take nn)) (h4 : sp + nn ≤ vs.length) (h5 : dp + nn ≤ vd.length) (hb : b ∈ ws ∨ h0.size ≤ b) (hsz : Ls.size = maxL) (hf : 1 ≤ R.frames) {W : Nat} (hW : (st.map fun v => v.category).sum ≤ W) (hl : W + 18 ≤ R.locals) (hp : pc + 3 = pc')
    (K : ∀ T' h', Wk p l e R s m args below meth c Z own bytes maxL ret mn n0 h0 ws T' h' k n → Keep h h' [b] → Ary Z h' b cb ty' (vd.take dp ++ (vs.drop sp).take nn ++ vd.drop (dp + nn)) → Goes p e below P T' (mkF m pc' Ls (st))) : Goes p e below P T (mkF m pc Ls (.int (Int32.ofNat nn) :: .int (Int32.ofNat dp) :: .ref b :: .int (Int32.ofNat sp) :: .ref a :: st)) := by
  have hna := w.wsn hb
  obtain ⟨cx, locs, cells, slots, X, e1, N, b1, b2, O1, K1⟩ := w
  obtain ⟨hx, hb', hml, hZ, hown, cr⟩ := id cx
  subst hp
  have lA := A.1
  have lB := B.1
  have us : (List.range nn).map (fun i => vs.getD (sp + i) (defaultValue ty)) = (vs.drop sp).take nn := by
    apply List.ext_getElem?
    intro i
    rw [List.getElem?_map, List.getElem?_take]
    by_cases hi : i < nn
    · rw [if_pos hi, List.getElem?_range hi, List.getElem?_drop, List.getElem?_eq_getElem (by omega)]
      simp [List.getD_eq_getElem?_getD, List.getElem?_eq_getElem (show sp + i < vs.length by omega)]
    · rw [if_neg hi, List.getElem?_eq_none (by simp; omega)]; rfl
  obtain ⟨T', h', L, X', e', N', K', B', stp⟩ := cpA X hx hZ hown w1 w2 w3 w4 e1 A.2 B.2 (sp := Int32.ofNat sp) (dp := Int32.ofNat dp) (nn := Int32.ofNat nn) (us := (vs.drop sp).take nn) (Or.inr hty) (nonneg_ofNat (by omega)) (nonneg_ofNat (by omega)) (nonneg_ofNat (by omega))
    (by rw [clamp_ofNat (by omega), clamp_ofNat (by omega), clamp_ofNat (by omega)]; exact h4) (by rw [clamp_ofNat (by omega), clamp_ofNat (by omega), clamp_ofNat (by omega)]; exact h5) (by rw [clamp_ofNat (by omega), clamp_ofNat (by omega)]; exact us.symm) (by rw [clamp_ofNat (by omega), clamp_ofNat (by omega)]; exact h5) N hna
    (g := mkF m pc Ls (.int (Int32.ofNat nn) :: .int (Int32.ofNat dp) :: .ref b :: .int (Int32.ofNat sp) :: .ref a :: st)) rfl (hsz.trans hml.symm) rfl (Jvm.hb hb' d) hf (W := W) (by show 2 * 0 + _ ≤ _; omega) (by show W + (nativeFrameWords "java/lang/System" "arraycopy" 5 + 11) ≤ _; exact hl)
  rw [clamp_ofNat (show dp < 2147483648 by omega), clamp_ofNat (show nn < 2147483648 by omega)] at B'
  have ll : (vd.take dp ++ (vs.drop sp).take nn ++ vd.drop (dp + nn)).length = vd.length := by simp; omega
  exact (K T' h' ⟨cx, _, cells, slots, X', e', N', b1, b2, O1.keep K' (allS hna all0), K1.trans K' (allS hb all0)⟩ K' ⟨by rw [ll]; exact lB, by rw [ll]; exact B'⟩).step stp
end Objs
end Jvm.OwnKit
namespace Jvm.OwnKit
open Jvm Jvm.ClassFile Sem Op Lib Jvm.Free Jvm.Stand Jvm.LawKit Jvm.RoadKit Jvm.Free.SB Jvm.Free.SBG
section Words
variable {Z : State} {a0 : Array Value}
theorem decl_of {y : MethodName} {bytes : ByteArray} {maxL : Nat} {ret : Option FieldType} (w : (Cond.instanceMethod y).before a0 Z = true) (wc : (Cond.code y bytes maxL ret).before a0 Z = true) : (Cond.declares y).before a0 Z = true := by
  obtain ⟨mk, methM, hnamed, hmethM, hst, -⟩ := Cond.instanceMethod_spec w
  obtain ⟨m2, cM, q1, -, -, -, -, -, -, hsig⟩ := Cond.code_spec hnamed wc
  cases hmethM.symm.trans q1
  simp [Cond.before, Cond.holds, Cond.value, hnamed, hmethM, hst, hsig]
theorem face_of {C : String} {x z y : MethodName} (w : (Cond.selects C x z).before a0 Z = true) (e : y.cls = z.cls) : NotFace Z y := fun r0 h0 => by
  obtain ⟨c2, r2, m2, q1, q2, q3, q4, kP, hkP, hkPi⟩ := Cond.selects_spec w
  have a := findClass_of_methodNamed h0
  have b := findClass_of_methodNamed q3
  rw [e, b] at a
  have e2 : r0.cls = m2.cls := (Option.some.inj a).symm
  rw [e2]
  exact ⟨kP, hkP, hkPi⟩
theorem same_of {y : MethodName} (w : (Cond.instanceMethod y).before a0 Z = true) (f : NotFace Z y) (hy : y.cls ≠ "java/lang/invoke/MethodHandle" ∧ y.cls ≠ "java/lang/invoke/VarHandle") : (Cond.sameMethod y.cls y.cls y.name y.desc).before a0 Z = true := by
  obtain ⟨mk, methM, hnamed, hmethM, hst, -⟩ := Cond.instanceMethod_spec w
  obtain ⟨kr, hk, hi⟩ := f mk hnamed
  have hf := State.methodFound?_of_named hnamed hy
  have hc := findClass_of_methodNamed hnamed
  have hn' : Z.methodNamed? ⟨y.cls, y.name, y.desc⟩ = some mk := hnamed
  simp [Cond.before, Cond.holds, Cond.value, hc, hf, hn', hk, hi]
end Words
section Calls2
variable {p : Program} {l : Launch} {e : Env} {R : Room} {s : State} {m : MethodId} {args : Array Value} {below : List Frame} {meth : Method} {c : Code} {Z : State} {own : String} {bytes : ByteArray} {maxL : Nat} {ret : Option FieldType} {mn : String} {n0 : Nat} {h0 : Heap} {ws : List Addr} {T : State} {h : Heap} {k n : Nat} {P : Outcome → State → Prop} {Ls : Array Slot} {st : List Value} {pc pc' : Nat} {a0 : Array Value}
theorem c_super (w : Wk p l e R s m args below meth c Z own bytes maxL ret mn n0 h0 ws T h k n) {index : Nat} {C : String} {y : MethodName} {bytes' : ByteArray} {maxL' : Nat} {ret' : Option FieldType} {rm : Room} {ws' : List Addr} {Q : Option Value → Heap → Prop} {argsL : List Value} {a : Addr} {sg : MethodDescriptor} (d : decode bytes pc = .ok (.invokespecial index, 3)) (hi : y.name ≠ "<init>") (w1 : (Cond.methodLink own index y).before a0 Z = true) (w2 : (Cond.instanceMethod y).before a0 Z = true) (w3 : (Cond.initialized y.cls).before a0 Z = true) (w4 : (Cond.code y bytes' maxL' ret').before a0 Z = true) (w5 : (Cond.superclass own y.cls).before a0 Z = true) (nf : NotFace Z y) (hy : y.cls ≠ "java/lang/invoke/MethodHandle" ∧ y.cls ≠ "java/lang/invoke/VarHandle") (pd : parseMethodDescriptor y.desc = some sg) (ha : argsL.length = sg.parameters.length) (E : Exa Z h a C)
    (C' : Ctr l Z n0 y bytes' maxL' ret' [] rm (.ref a :: argsL).toArray h ws' Q) (hsz : Ls.size = maxL) (hf : rm.frames + 1 ≤ R.frames) {W : Nat} (hW : (st.map fun v => v.category).sum ≤ W) (hl : W + (maxL' + 11) + rm.locals ≤ R.locals) (hc : k + rm.cells ≤ R.cells) (hs : n + rm.slots ≤ R.slots) (hws : ∀ x ∈ ws', x ∈ ws ∨ h0.size ≤ x) (hp : pc + 3 = pc') (K : ∀ v T' h', Wk p l e R s m args below meth c Z own bytes maxL ret mn n0 h0 ws T' h' (k + rm.cells) (n + rm.slots) → Keep h h' ws' → Q v h' → Goes p e below P T' (mkF m pc' Ls (v.toList ++ st))) : Goes p e below P T (mkF m pc Ls (argsL.reverse ++ .ref a :: st)) := by
  obtain ⟨cx, locs, cells, slots, X, e1, N, b1, b2, O1, K1⟩ := w
  obtain ⟨hx, hb', hml, hZ, hown, hret, hlk, hmn, hw0, hn0⟩ := id cx
  subst hp
  obtain ⟨_, _, ⟨T', L', k', n'⟩, -, X', ⟨Lc, ⟨q1, N', K'⟩, l1, y1, z1⟩, stp⟩ := superBack X hx hZ (y := y) hown w1 (same_of w2 nf hy) w2 w5 hi (backOf (W := W) (Q := fun v t L => Q v t ∧ Fr n0 L ∧ Keep h t ws') C' hZ w4 w3 hf hl) e1 (Ins.self E) (g := mkF m pc Ls (argsL.reverse ++ .ref a :: st)) rfl (hsz.trans hml.symm) w4 (argsL := argsL) (rest := st) (fun sig h => by rw [pd] at h; cases h; exact ha) rfl (by show 2 * 0 + _ ≤ _; omega) (hb hb' d) (fun _ _ => ⟨rfl, e1, by show cells + _ ≤ _; omega, by show slots + _ ≤ _; omega⟩)
  dsimp only [Pt.U, Pt.locs, Pt.cells, Pt.slots] at X' l1 y1 z1 stp q1 K'
  subst l1 y1 z1
  refine (K _ T' T'.heap ⟨cx, _, _, _, X', rfl, Fr.app N N', by omega, by omega, O1.keep K' (fun x hx => (hws x hx).elim (hw0 x) (Nat.le_trans hn0)), K1.trans K' hws⟩ K' q1).step (fun t q => stp.trans q)
theorem c_virtualZ (w : Wk p l e R s m args below meth c Z own bytes maxL ret mn n0 h0 ws T h k n) {index : Nat} {C : String} {x : MethodName} {y : MethodName} {bytes' : ByteArray} {maxL' : Nat} {ret' : Option FieldType} {rm : Room} {ws' : List Addr} {Q : Option Value → Heap → Prop} {argsL : List Value} {a : Addr} {sg : MethodDescriptor} (d : decode bytes pc = .ok (.invokevirtual index, 3)) (w1 : (Cond.methodLink own index x).before a0 Z = true) (w2 : (Cond.declares x).before a0 Z = true) (nf : NotFace Z x) (hd : x.desc = y.desc) (hy' : x.cls ≠ "java/lang/invoke/MethodHandle" ∧ x.cls ≠ "java/lang/invoke/VarHandle") (w3 : (Cond.selects C x y).before a0 Z = true) (w4 : (Cond.instanceMethod y).before a0 Z = true) (w5 : (Cond.code y bytes' maxL' ret').before a0 Z = true) (w6 : (Cond.initialized y.cls).before a0 Z = true) (hy : y.cls ≠ "java/lang/invoke/MethodHandle" ∧ y.cls ≠ "java/lang/invoke/VarHandle") (pd : parseMethodDescriptor y.desc = some sg) (ha : argsL.length = sg.parameters.length) (E : Exa Z h a C)
    (C' : Ctr l Z n0 y bytes' maxL' ret' [] rm (.ref a :: argsL).toArray h ws' Q) (hsz : Ls.size = maxL) (hf : rm.frames + 1 ≤ R.frames) {W : Nat} (hW : (st.map fun v => v.category).sum ≤ W) (hl : W + (maxL' + 11) + rm.locals ≤ R.locals) (hc : k + rm.cells ≤ R.cells) (hs : n + rm.slots ≤ R.slots) (hws : ∀ x ∈ ws', x ∈ ws ∨ h0.size ≤ x) (hp : pc + 3 = pc') (K : ∀ v T' h', Wk p l e R s m args below meth c Z own bytes maxL ret mn n0 h0 ws T' h' (k + rm.cells) (n + rm.slots) → Keep h h' ws' → Q v h' → Goes p e below P T' (mkF m pc' Ls (v.toList ++ st))) : Goes p e below P T (mkF m pc Ls (argsL.reverse ++ .ref a :: st)) := by
  obtain ⟨cx, locs, cells, slots, X, e1, N, b1, b2, O1, K1⟩ := w
  obtain ⟨hx, hb', hml, hZ, hown, hret, hlk, hmn, hw0, hn0⟩ := id cx
  subst hp
  obtain ⟨cq, kq, qa, qb, qc⟩ := isOf (T := T) hZ e1 E
  obtain ⟨_, _, ⟨T', L', k', n'⟩, -, X', ⟨Lc, ⟨q1, N', K'⟩, l1, y1, z1⟩, stp⟩ := X.virtualBack hx (y := x) (z := y) hown (mvT hZ w1) (mvT hZ w2) (NotFace.move hZ.alike nf) (mvT hZ w3) (mvT hZ w4) hy' (backOf (W := W) (Q := fun v t L => Q v t ∧ Fr n0 L ∧ Keep h t ws') C' hZ w5 w6 hf hl) qa qc (g := mkF m pc Ls (argsL.reverse ++ .ref a :: st)) rfl (hsz.trans hml.symm) (Steps.refl _) (argsL := argsL) (rest := st) (fun sig h => by rw [hd, pd] at h; cases h; exact ha) rfl (by show 2 * 0 + _ ≤ _; omega) (hb hb' d) (fun _ _ => ⟨rfl, e1, by show cells + _ ≤ _; omega, by show slots + _ ≤ _; omega⟩)
  dsimp only [Pt.U, Pt.locs, Pt.cells, Pt.slots] at X' l1 y1 z1 stp q1 K'
  subst l1 y1 z1
  refine (K _ T' T'.heap ⟨cx, _, _, _, X', rfl, Fr.app N N', by omega, by omega, O1.keep K' (fun x hx => (hws x hx).elim (hw0 x) (Nat.le_trans hn0)), K1.trans K' hws⟩ K' q1).step (fun t q => stp.trans q)
end Calls2
/-- the end of a walk that keeps what is said of String constants -/
def PH (EL : List (String × Nat)) (Z s : State) (n0 : Nat) (h0 : Heap) (ws : List Addr) (Q : Option Value → Heap → Prop) (kc ns : Nat) (o : Outcome) (t : State) : Prop := ∃ v L, o = .returned v ∧ (Q v t.heap ∧ Fr n0 L ∧ Keep h0 t.heap ws) ∧ CHr Z EL s.vm s.heap t.vm t.heap ∧ ReturnedEndW s o t L kc ns
def CtrH (EL : List (String × Nat)) (l : Launch) (Z : State) (n0 : Nat) (y : MethodName) (bytes : ByteArray) (maxL : Nat) (ret : Option FieldType) (cs : List Jvm.Cond) (rm : Room) (as' : Array Value) (h0 : Heap) (ws : List Addr) (Q : Option Value → Heap → Prop) : Prop :=
  MetFree l y (head1 (Cond.code y bytes maxL ret :: cs) rm) (fun a U => a = as' ∧ Z.Warmed39 U.vm ∧ U.heap = h0 ∧ CHv Z EL U.vm h0) (fun _ _ _ _ _ => True) (fun _ U o U' => PH EL Z U n0 h0 ws Q rm.cells rm.slots o U')
section Ends2
variable {p : Program} {l : Launch} {e : Env} {R : Room} {s : State} {m : MethodId} {args : Array Value} {below : List Frame} {meth : Method} {c : Code} {Z : State} {own : String} {bytes : ByteArray} {maxL : Nat} {ret : Option FieldType} {mn : String} {n0 : Nat} {h0 : Heap} {ws : List Addr} {T : State} {h : Heap} {k n : Nat} {P : Outcome → State → Prop} {Ls : Array Slot} {st : List Value} {pc pc' : Nat} {a0 : Array Value} {Q : Option Value → Heap → Prop} {kc ns : Nat} {EL : List (String × Nat)}
theorem i_retIH {s0 : State} {vm0 : Vm} (hEL : EW Z a0 EL) (w : Wk p l e R (s0.setVm vm0) m args below meth c Z own bytes maxL ret mn n0 h0 ws T h k n) {k0 : Nat} (hS : s0.Since vm0 k0) (hk0 : k0 ≤ h.size) (C : CHr Z EL s0.vm s0.heap vm0 h) {z : Int32} (d : decode bytes pc = .ok (.ireturn, 1)) (hr : ret = some .int) (q : Q (some (.int z)) h) (hk : k ≤ kc) (hn : n ≤ ns) : Goes p e below (PH EL Z s0 n0 h0 ws Q kc ns) T (mkF m pc Ls (.int z :: st)) := by
  obtain ⟨⟨hx, hb', hml, hZ, hown, hret, hlk, cr⟩, locs, cells, slots, X, e1, N, b1, b2, O1, K1⟩ := w
  obtain ⟨fs, hl, hrun, hended, hE1, hE2, hE3, hE4⟩ := X.leaveW hS (by rw [e1]; exact hk0) (v := some (.int z)) (fun h => by first | rfl | (rw [hret, hr] at h; cases h)) hlk
  have C2 : CHr Z EL s0.vm s0.heap T.vm T.heap := by rw [e1]; exact C.trans (CHv.at X hZ hEL C.1)
  exact ⟨_, _, retOut X hx (t := .int) (i := .ireturn) (hret.trans hr) rfl (Or.inl ⟨rfl, by simp, z, rfl⟩) (hb hb' d) hl, hrun, hended, _, _, rfl, ⟨by show Q _ T.heap; rw [e1]; exact q, N, by show Keep h0 T.heap ws; rw [e1]; exact K1⟩, C2, hE1, hE2, hE3, hE4.mono (by omega) (by omega)⟩
theorem i_retNH {s0 : State} {vm0 : Vm} (hEL : EW Z a0 EL) (w : Wk p l e R (s0.setVm vm0) m args below meth c Z own bytes maxL ret mn n0 h0 ws T h k n) {k0 : Nat} (hS : s0.Since vm0 k0) (hk0 : k0 ≤ h.size) (C : CHr Z EL s0.vm s0.heap vm0 h) {z : Int32} {t : FieldType} (d : decode bytes pc = .ok (.ireturn, 1)) (hr : ret = some t) (ht : t = .boolean ∨ t = .byte ∨ t = .char ∨ t = .short) (q : Q (some (.int (nar t z))) h) (hk : k ≤ kc) (hn : n ≤ ns) : Goes p e below (PH EL Z s0 n0 h0 ws Q kc ns) T (mkF m pc Ls (.int z :: st)) := by
  obtain ⟨⟨hx, hb', hml, hZ, hown, hret, hlk, cr⟩, locs, cells, slots, X, e1, N, b1, b2, O1, K1⟩ := w
  obtain ⟨fs, hl, hrun, hended, hE1, hE2, hE3, hE4⟩ := X.leaveW hS (by rw [e1]; exact hk0) (v := some (.int (nar t z))) (fun h => by first | rfl | (rw [hret, hr] at h; cases h)) hlk
  have C2 : CHr Z EL s0.vm s0.heap T.vm T.heap := by rw [e1]; exact C.trans (CHv.at X hZ hEL C.1)
  exact ⟨_, _, retN X hx (hret.trans hr) ht (hb hb' d) hl, hrun, hended, _, _, rfl, ⟨by show Q _ T.heap; rw [e1]; exact q, N, by show Keep h0 T.heap ws; rw [e1]; exact K1⟩, C2, hE1, hE2, hE3, hE4.mono (by omega) (by omega)⟩
theorem i_retAH {s0 : State} {vm0 : Vm} (hEL : EW Z a0 EL) (w : Wk p l e R (s0.setVm vm0) m args below meth c Z own bytes maxL ret mn n0 h0 ws T h k n) {k0 : Nat} (hS : s0.Since vm0 k0) (hk0 : k0 ≤ h.size) (C : CHr Z EL s0.vm s0.heap vm0 h) {v : Value} {t : FieldType} (d : decode bytes pc = .ok (.areturn, 1)) (hr : ret = some t) (ht : t.isReference = true) (hv : v.isRef = true) (q : Q (some v) h) (hk : k ≤ kc) (hn : n ≤ ns) : Goes p e below (PH EL Z s0 n0 h0 ws Q kc ns) T (mkF m pc Ls (v :: st)) := by
  obtain ⟨⟨hx, hb', hml, hZ, hown, hret, hlk, cr⟩, locs, cells, slots, X, e1, N, b1, b2, O1, K1⟩ := w
  obtain ⟨fs, hl, hrun, hended, hE1, hE2, hE3, hE4⟩ := X.leaveW hS (by rw [e1]; exact hk0) (v := some v) (fun h => by first | rfl | (rw [hret, hr] at h; cases h)) hlk
  have C2 : CHr Z EL s0.vm s0.heap T.vm T.heap := by rw [e1]; exact C.trans (CHv.at X hZ hEL C.1)
  exact ⟨_, _, retOut X hx (hret.trans hr) (by cases t <;> cases v <;> simp_all [narrow, Value.isRef]) (Or.inr (Or.inr (Or.inr (Or.inr ⟨rfl, ht, hv⟩)))) (hb hb' d) hl, hrun, hended, _, _, rfl, ⟨by show Q _ T.heap; rw [e1]; exact q, N, by show Keep h0 T.heap ws; rw [e1]; exact K1⟩, C2, hE1, hE2, hE3, hE4.mono (by omega) (by omega)⟩
theorem i_ret0H {s0 : State} {vm0 : Vm} (hEL : EW Z a0 EL) (w : Wk p l e R (s0.setVm vm0) m args below meth c Z own bytes maxL ret mn n0 h0 ws T h k n) {k0 : Nat} (hS : s0.Since vm0 k0) (hk0 : k0 ≤ h.size) (C : CHr Z EL s0.vm s0.heap vm0 h) (d : decode bytes pc = .ok (.return_, 1)) (hr : ret = none) (q : Q (none) h) (hk : k ≤ kc) (hn : n ≤ ns) : Goes p e below (PH EL Z s0 n0 h0 ws Q kc ns) T (mkF m pc Ls ([])) := by
  obtain ⟨⟨hx, hb', hml, hZ, hown, hret, hlk, cr⟩, locs, cells, slots, X, e1, N, b1, b2, O1, K1⟩ := w
  obtain ⟨fs, hl, hrun, hended, hE1, hE2, hE3, hE4⟩ := X.leaveW hS (by rw [e1]; exact hk0) (v := none) (fun h => by first | rfl | (rw [hret, hr] at h; cases h)) hlk
  have C2 : CHr Z EL s0.vm s0.heap T.vm T.heap := by rw [e1]; exact C.trans (CHv.at X hZ hEL C.1)
  exact ⟨_, _, X.returnOut hx (hret.trans hr) (hb hb' d) hl, hrun, hended, _, _, rfl, ⟨by show Q _ T.heap; rw [e1]; exact q, N, by show Keep h0 T.heap ws; rw [e1]; exact K1⟩, C2, hE1, hE2, hE3, hE4.mono (by omega) (by omega)⟩
end Ends2
theorem enterH {EL : List (String × Nat)} {l : Launch} {Z : State} {n0 : Nat} {y : MethodName} {bytes : ByteArray} {maxL : Nat} {ret : Option FieldType} {cs : List Jvm.Cond} {rm : Room} {as' : Array Value} {h0 : Heap} {ws : List Addr} {Q : Option Value → Heap → Prop} {Ls : Array Slot}
    (pn : plainFor y = true) (ef : ∀ m, entryFrame m as' maxL = mkF m 0 Ls []) (O : Old Z n0 h0) (hws : ∀ x ∈ ws, n0 ≤ x)
    (body : ∀ p e s m below meth c T, Wk p l e rm (s.setVm s.vm) m as' below meth c Z y.cls bytes maxL ret y.name n0 h0 ws T h0 0 0 → s.Since s.vm h0.size → CHr Z EL s.vm s.heap s.vm h0 → Goes p e below (PH EL Z s n0 h0 ws Q rm.cells rm.slots) T (mkF m 0 Ls [])) :
    CtrH EL l Z n0 y bytes maxL ret cs rm as' h0 ws Q := by
  refine MetFree.of_bodySF pn hisR ?_
  intro p e s m args below meth c s₁ Bd hml0 hP hK
  obtain ⟨rfl, hZ, hh, hC⟩ := hP
  rw [ef m]
  exact body p e s m below meth c s₁ ⟨⟨Bd.exec, Bd.bytes, hml0, hZ, findClass_of_methodNamed Bd.named, Bd.returns, Bd.notSynchronized, (name_of_methodNamed Bd.named Bd.method).1, hws, Nat.le_trans (Nat.le_of_eq O.1.symm) O.2.1⟩,
    [], 0, 0, Stand.of_body Bd, by rw [← hh, Bd.state]; rfl, Fr.nil n0, Nat.le_refl _, Nat.le_refl _, O, Keep.refl _ _⟩ ⟨State.Warmed39.refl s, fun j p hj hp => absurd (Array.getElem?_eq_some_iff.mp hp).1 (Nat.not_lt.mpr hj)⟩ (by rw [hh]; exact CHr.refl hC)
section Calls3
variable {p : Program} {l : Launch} {e : Env} {R : Room} {s : State} {m : MethodId} {args : Array Value} {below : List Frame} {meth : Method} {c : Code} {Z : State} {own : String} {bytes : ByteArray} {maxL : Nat} {ret : Option FieldType} {mn : String} {n0 : Nat} {h0 : Heap} {ws : List Addr} {T : State} {h : Heap} {k n : Nat} {P : Outcome → State → Prop} {Ls : Array Slot} {st : List Value} {pc pc' : Nat} {a0 : Array Value} {EL : List (String × Nat)}
theorem c_staticH {s0 : State} {vm0 : Vm} (hEL : EW Z a0 EL) (w : Wk p l e R (s0.setVm vm0) m args below meth c Z own bytes maxL ret mn n0 h0 ws T h k n) {k0 : Nat} (hS : s0.Since vm0 k0) (hk0 : k0 ≤ h.size) (H : CHv Z EL vm0 h) {index : Nat} {y : MethodName} {bytes' : ByteArray} {maxL' : Nat} {ret' : Option FieldType} {rm : Room} {ws' : List Addr} {Q : Option Value → Heap → Prop} {argsL : List Value} {sg : MethodDescriptor} (d : decode bytes pc = .ok (.invokestatic index, 3)) (w1 : (Cond.methodLink own index y).before a0 Z = true) (w2 : (Cond.static y).before a0 Z = true) (w3 : (Cond.initialized y.cls).before a0 Z = true) (w4 : (Cond.code y bytes' maxL' ret').before a0 Z = true) (hy : y.cls ≠ "java/lang/invoke/MethodHandle" ∧ y.cls ≠ "java/lang/invoke/VarHandle") (pd : parseMethodDescriptor y.desc = some sg) (ha : argsL.length = sg.parameters.length)
    (C : CtrH EL l Z n0 y bytes' maxL' ret' [] rm argsL.toArray h ws' Q) (hsz : Ls.size = maxL) (hf : rm.frames + 1 ≤ R.frames) {W : Nat} (hW : (st.map fun v => v.category).sum ≤ W) (hl : W + (maxL' + 11) + rm.locals ≤ R.locals) (hc : k + rm.cells ≤ R.cells) (hs : n + rm.slots ≤ R.slots) (hws : ∀ x ∈ ws', x ∈ ws ∨ h0.size ≤ x) (hp : pc + 3 = pc') (K : ∀ v T' h' vm1, Wk p l e R (s0.setVm vm1) m args below meth c Z own bytes maxL ret mn n0 h0 ws T' h' (k + rm.cells) (n + rm.slots) → s0.Since vm1 h'.size → CHr Z EL vm0 h vm1 h' → Keep h h' ws' → Q v h' → Goes p e below P T' (mkF m pc' Ls (v.toList ++ st))) : Goes p e below P T (mkF m pc Ls (argsL.reverse ++ st)) := by
  obtain ⟨cx, locs, cells, slots, X, e1, N, b1, b2, O1, K1⟩ := w
  obtain ⟨hx, hb', hml, hZ, hown, hret, hlk, hmn, hw0, hn0⟩ := id cx
  subst hp
  obtain ⟨_, _, ⟨T', L', k', n'⟩, -, X', hS', hgr, ⟨Lc, ⟨q1, N', K'⟩, l1, y1, z1, hC⟩, stp⟩ := callSS X hx (y := y) hown (mvT hZ w1) (mvT hZ w2) (mvT hZ w3) (mvT hZ w4) hy (backOfSH (s := s0) (W := W) (Q := fun v t L => Q v t ∧ Fr n0 L ∧ Keep h t ws') C hZ w4 w3 hf hl hEL H) (g := mkF m pc Ls (argsL.reverse ++ st)) rfl (hsz.trans hml.symm) (argsL := argsL) (rest := st) (fun sig h => by rw [pd] at h; cases h; exact ha) rfl (by show 2 * 0 + _ ≤ _; omega) (hb hb' d) (fun _ _ => ⟨rfl, e1, by show cells + _ ≤ _; omega, by show slots + _ ≤ _; omega⟩)
  dsimp only [Pt.U, Pt.locs, Pt.cells, Pt.slots] at X' hS' hgr l1 y1 z1 stp q1 K' hC
  subst l1 y1 z1
  have hS2 : s0.Since T'.vm T'.heap.size := hS.trans hS' (Nat.le_trans hk0 (by rw [← e1]; exact hgr))
  refine (K _ T' T'.heap T'.vm ⟨⟨hx, hb', hml, State.Warmed39.trans (t := s0.setVm vm0) hZ hS'.1, by rw [show (s0.setVm T'.vm).vm = T'.vm from rfl, hS'.1.alike.findClass]; exact hown, hret, hlk, hmn, hw0, hn0⟩, _, _, _, X', rfl, Fr.app N N', by omega, by omega, O1.keep K' (fun x hx => (hws x hx).elim (hw0 x) (Nat.le_trans hn0)), K1.trans K' hws⟩ hS2 hC K' q1).step (fun t q => stp.trans q)
theorem c_virtualH {s0 : State} {vm0 : Vm} (hEL : EW Z a0 EL) (w : Wk p l e R (s0.setVm vm0) m args below meth c Z own bytes maxL ret mn n0 h0 ws T h k n) {k0 : Nat} (hS : s0.Since vm0 k0) (hk0 : k0 ≤ h.size) (H : CHv Z EL vm0 h) {index : Nat} {C0 : String} {y : MethodName} {bytes' : ByteArray} {maxL' : Nat} {ret' : Option FieldType} {rm : Room} {ws' : List Addr} {Q : Option Value → Heap → Prop} {argsL : List Value} {a : Addr} {sg : MethodDescriptor} (d : decode bytes pc = .ok (.invokevirtual index, 3)) (w1 : (Cond.methodLink own index y).before a0 Z = true) (w2 : (Cond.declares y).before a0 Z = true) (w3 : (Cond.selects C0 y y).before a0 Z = true) (w4 : (Cond.instanceMethod y).before a0 Z = true) (w5 : (Cond.code y bytes' maxL' ret').before a0 Z = true) (w6 : (Cond.initialized y.cls).before a0 Z = true) (hy : y.cls ≠ "java/lang/invoke/MethodHandle" ∧ y.cls ≠ "java/lang/invoke/VarHandle") (pd : parseMethodDescriptor y.desc = some sg) (ha : argsL.length = sg.parameters.length) (E : Exa Z h a C0)
    (C : CtrH EL l Z n0 y bytes' maxL' ret' [] rm (.ref a :: argsL).toArray h ws' Q) (hsz : Ls.size = maxL) (hf : rm.frames + 1 ≤ R.frames) {W : Nat} (hW : (st.map fun v => v.category).sum ≤ W) (hl : W + (maxL' + 11) + rm.locals ≤ R.locals) (hc : k + rm.cells ≤ R.cells) (hs : n + rm.slots ≤ R.slots) (hws : ∀ x ∈ ws', x ∈ ws ∨ h0.size ≤ x) (hp : pc + 3 = pc') (K : ∀ v T' h' vm1, Wk p l e R (s0.setVm vm1) m args below meth c Z own bytes maxL ret mn n0 h0 ws T' h' (k + rm.cells) (n + rm.slots) → s0.Since vm1 h'.size → CHr Z EL vm0 h vm1 h' → Keep h h' ws' → Q v h' → Goes p e below P T' (mkF m pc' Ls (v.toList ++ st))) : Goes p e below P T (mkF m pc Ls (argsL.reverse ++ .ref a :: st)) := by
  obtain ⟨cx, locs, cells, slots, X, e1, N, b1, b2, O1, K1⟩ := w
  obtain ⟨hx, hb', hml, hZ, hown, hret, hlk, hmn, hw0, hn0⟩ := id cx
  subst hp
  obtain ⟨cq, kq, qa, qb, qc⟩ := isOf (T := T) hZ e1 E
  obtain ⟨_, _, ⟨T', L', k', n'⟩, -, X', hS', hgr, ⟨Lc, ⟨q1, N', K'⟩, l1, y1, z1, hC⟩, stp⟩ := X.virtualBackS hx (y := y) (z := y) hown (mvT hZ w1) (mvT hZ w2) (notFace_of_selects (args := #[]) (mvT hZ w3)) (mvT hZ w3) (mvT hZ w4) hy (backOfSH (s := s0) (W := W) (Q := fun v t L => Q v t ∧ Fr n0 L ∧ Keep h t ws') C hZ w5 w6 hf hl hEL H) qa qc (g := mkF m pc Ls (argsL.reverse ++ .ref a :: st)) rfl (hsz.trans hml.symm) (Steps.refl _) (argsL := argsL) (rest := st) (fun sig h => by rw [pd] at h; cases h; exact ha) rfl (by show 2 * 0 + _ ≤ _; omega) (hb hb' d) (fun _ _ => ⟨rfl, e1, by show cells + _ ≤ _; omega, by show slots + _ ≤ _; omega⟩)
  dsimp only [Pt.U, Pt.locs, Pt.cells, Pt.slots] at X' hS' hgr l1 y1 z1 stp q1 K' hC
  subst l1 y1 z1
  have hS2 : s0.Since T'.vm T'.heap.size := hS.trans hS' (Nat.le_trans hk0 (by rw [← e1]; exact hgr))
  refine (K _ T' T'.heap T'.vm ⟨⟨hx, hb', hml, State.Warmed39.trans (t := s0.setVm vm0) hZ hS'.1, by rw [show (s0.setVm T'.vm).vm = T'.vm from rfl, hS'.1.alike.findClass]; exact hown, hret, hlk, hmn, hw0, hn0⟩, _, _, _, X', rfl, Fr.app N N', by omega, by omega, O1.keep K' (fun x hx => (hws x hx).elim (hw0 x) (Nat.le_trans hn0)), K1.trans K' hws⟩ hS2 hC K' q1).step (fun t q => stp.trans q)
theorem i_ldcO {s0 : State} {vm0 : Vm} (hEL : EW Z a0 EL) (w : Wk p l e R (s0.setVm vm0) m args below meth c Z own bytes maxL ret mn n0 h0 ws T h k n) {k0 : Nat} (hS : s0.Since vm0 k0) (hk0 : k0 ≤ h.size) (H : CHv Z EL vm0 h) {index N : Nat} {text : String} (d : decode bytes pc = .ok (.ldc index, 2)) (w1 : (Cond.stringLink own index text).before a0 Z = true) (wS : ∀ a ∈ Bundle.stringAtoms, a.before a0 Z = true) (hN : 4 * text.toList.length ≤ N) (hbig : N ≤ 536870912) (hc : k + 2 ≤ R.cells) (hs : n + (N + 4) ≤ R.slots) (hp : pc + 2 = pc')
    (K : ∀ a T' h' vm1, Wk p l e R (s0.setVm vm1) m args below meth c Z own bytes maxL ret mn n0 h0 ws T' h' (k + 2) (n + (N + 4)) → s0.Since vm1 h'.size → Ext h h' → CHr Z EL vm0 h vm1 h' → Goes p e below P T' (mkF m pc' Ls (.ref a :: st))) : Goes p e below P T (mkF m pc Ls (st)) := by
  obtain ⟨cx, locs, cells, slots, X, e1, N1, b1, b2, O1, K1⟩ := w
  obtain ⟨hx, hb', hml, hZ, hown, cr⟩ := id cx
  subst hp
  obtain ⟨a, T', h', k1, X', e', E, hS', hk1, hZ', hown', hC, -, stp⟩ := ldcOH X hx hZ hown w1 wS e1 hS hk0 hEL H (g := mkF m pc Ls st) rfl (hb hb' d) hN hbig (by omega) (by omega)
  exact (K a T' h' T'.vm ⟨⟨hx, hb', hml, hZ', hown', cr⟩, locs, _, _, X', e', N1, by omega, by omega, O1.ext E, K1.ext E⟩ ⟨hS'.1, hS'.2.mono hk1⟩ E hC).step stp
theorem i_ldcR {s0 : State} {vm0 : Vm} (hEL : EW Z a0 EL) (w : Wk p l e R (s0.setVm vm0) m args below meth c Z own bytes maxL ret mn n0 h0 ws T h k n) {k0 : Nat} (hS : s0.Since vm0 k0) (hk0 : k0 ≤ h.size) (H : CHv Z EL vm0 h) {index N : Nat} {text : String} (d : decode bytes pc = .ok (.ldc index, 2)) (w1 : (Cond.stringLink own index text).before a0 Z = true) (wS : ∀ a ∈ Bundle.stringAtoms, a.before a0 Z = true) (hN : 4 * text.toList.length ≤ N) (hbig : N ≤ 536870912) (hc : k + 2 ≤ R.cells) (hs : n + (N + 4) ≤ R.slots) (hp : pc + 2 = pc') {cs : List Nat} (hmem : (own, index) ∈ EL) (ht : ∀ c ∈ text.toList, c.toNat < 256) (ht' : text.toList.map (fun c => Value.int (Jvm.Lit.byteI c.toNat.toUInt16)) = lat cs) (hcs : cs.length < 2147483648) (hcl : ∀ c ∈ cs, c < 256)
    (K : ∀ a b ca T' h' vm1, Wk p l e R (s0.setVm vm1) m args below meth c Z own bytes maxL ret mn n0 h0 ws T' h' (k + 2) (n + (N + 4)) → s0.Since vm1 h'.size → Ext h h' → CHr Z EL vm0 h vm1 h' → StrL Z h' a b ca cs → (∀ x, Safe Z EL vm1 h' x → x ≠ a ∧ x ≠ b) → Goes p e below P T' (mkF m pc' Ls (.ref a :: st))) : Goes p e below P T (mkF m pc Ls (st)) := by
  obtain ⟨cx, locs, cells, slots, X, e1, N1, b1, b2, O1, K1⟩ := w
  obtain ⟨hx, hb', hml, hZ, hown, cr⟩ := id cx
  subst hp
  obtain ⟨a, T', h', k1, b, kk, X', e', E, hS', hk1, hZ', hown', E1, E2, E3, E4, -, -, hC, -, hne, stp⟩ := ldcCH X hx hZ hown w1 wS e1 hS hk0 hEL hmem H (z := Int32.ofNat (lat cs).length) ⟨ht, ht'⟩ (nonneg_ofNat (by rw [lat_len]; exact hcs)) (by rw [clamp_ofNat (by rw [lat_len]; exact hcs)]) (g := mkF m pc Ls st) rfl (hb hb' d) hN hbig (by omega) (by omega)
  exact (K a b kk T' h' T'.vm ⟨⟨hx, hb', hml, hZ', hown', cr⟩, locs, _, _, X', e', N1, by omega, by omega, O1.ext E, K1.ext E⟩ ⟨hS'.1, hS'.2.mono hk1⟩ E hC ⟨E1, E3, E2, ⟨by rw [lat_len]; exact hcs, E4⟩, hcl⟩ hne).step stp
end Calls3
end Jvm.OwnKit
namespace Jvm.Pilot.@@N@@
open Jvm Jvm.ClassFile Sem Op Lib Jvm.Free Jvm.Stand Jvm.LawKit Jvm.RoadKit Bundle Jvm.Pilot.@@N@@.Jvm.D Jvm.OwnKit
theorem own_ch8 (x : Int32) : ∃ k, k < 256 ∧ nar .char (x &&& (255 : Int32)) = Int32.ofNat k := by
  obtain ⟨k, h, e⟩ := and_lt (x := x) (j := 8) (by omega)
  refine ⟨k, h, ?_⟩
  rw [show (255 : Int32) = Int32.ofNat (2 ^ 8 - 1) from rfl, e, char_of_nat (by omega)]
theorem own_mod3 (x : Int32) : (x &&& (2147483647 : Int32)) % (3 : Int32) = 0 ∨ (x &&& (2147483647 : Int32)) % (3 : Int32) = 1 ∨ (x &&& (2147483647 : Int32)) % (3 : Int32) = 2 := by
  obtain ⟨k, hk, e⟩ := and31 x
  rw [e, show (3 : Int32) = Int32.ofNat 3 from rfl, rem_nat hk (by omega) (by omega)]
  have := Nat.mod_lt k (show 0 < 3 by omega)
  obtain h | h | h : k % 3 = 0 ∨ k % 3 = 1 ∨ k % 3 = 2 := by omega
  · rw [h]; exact Or.inl rfl
  · rw [h]; exact Or.inr (Or.inl rfl)
  · rw [h]; exact Or.inr (Or.inr rfl)
theorem own_lenP (rs : List Nat) : ([73, 78, 86, 65, 76, 73, 68, 58, 32] ++ rs).length = 9 + rs.length := by simp; omega
theorem own_EW {Z : State} {a0 : Array Value} (hw : ∀ d ∈ tables_1, d.before a0 Z = true) : EW Z a0 consts_1 := EW.cons (hw _ (List.mem_of_getElem? (i := 15) rfl)) (by decide) (EW.cons (hw _ (List.mem_of_getElem? (i := 76) rfl)) (by decide) (EW.cons (hw _ (List.mem_of_getElem? (i := 1) rfl)) (by decide) (EW.cons (hw _ (List.mem_of_getElem? (i := 214) rfl)) (by decide) EW.nil)))

theorem own_d44_0 : decode jdk_43_method_3_code 0 = .ok (.iload_n 0, 1) := by decide +kernel
theorem own_d44_1 : decode jdk_43_method_3_code 1 = .ok (.sipush 255, 3) := by decide +kernel
theorem own_d44_4 : decode jdk_43_method_3_code 4 = .ok (.if_icmp .gt 7, 3) := by decide +kernel
theorem own_d44_7 : decode jdk_43_method_3_code 7 = .ok (.iconst 1, 1) := by decide +kernel
theorem own_d44_8 : decode jdk_43_method_3_code 8 = .ok (.goto 4, 3) := by decide +kernel
theorem own_d44_11 : decode jdk_43_method_3_code 11 = .ok (.iconst 0, 1) := by decide +kernel
theorem own_d44_12 : decode jdk_43_method_3_code 12 = .ok (.ireturn, 1) := by decide +kernel
theorem own_pn_java_lang_StringLatin1 : plainName "java/lang/StringLatin1" = true := by first | (simp [plainName, overriddenIn]; done) | decide +kernel
theorem own_pd_pCqZ : parseMethodDescriptor "(C)Z" = some ⟨[.char], some .boolean⟩ := by decide +kernel
theorem own_ef_own_d44 (m : MethodId) (x0 : Int32) : entryFrame m #[(.int x0)] 1 = mkF m 0 #[.val (.int x0)] [] := by
  first | (simp [entryFrame, mkF, argsToLocals, Value.category]; done) | rfl
set_option maxRecDepth 65536 in
set_option maxHeartbeats 40000000 in
theorem own_canEncC (l : Launch) (Z : State) (a0 : Array Value) (hw : ∀ d ∈ tables_1, d.before a0 Z = true) (x : Int32) (h0 : Heap) (n0 : Nat) (O : Old Z n0 h0)  :
    Ctr l Z n0 (⟨"java/lang/StringLatin1", "canEncode", "(C)Z"⟩ : MethodName) jdk_43_method_3_code 1 (some .boolean) [] ({ frames := 0, cells := 0, slots := 0, locals := 0 } : Room) #[(.int x)] h0 [] (fun v h => v = some (.int (if (255 : Int32) < x then 0 else 1)) ∧ h0 = h) := by
  refine enter (plainFor_of_name own_pn_java_lang_StringLatin1) (fun m => own_ef_own_d44 m x) O (fun _ q => nomatch q) ?_
  intro p e s m below meth c T w
  refine i_iloadN w own_d44_0 rfl (pc' := 1) rfl ?_
  refine i_sipush w own_d44_1 (z := (255 : Int32)) (by decide) (pc' := 4) rfl ?_
  refine i_icmp_gt w own_d44_4 (pcY := 11) (by decide) (pc' := 7) rfl (fun hc4 => ?_) (fun hc4 => ?_)
  ·
    refine i_iconst w own_d44_11 (z := (0 : Int32)) (by decide) (pc' := 12) rfl ?_
    exact i_retN w own_d44_12 rfl (by simp) ⟨by rw [if_pos hc4]; rfl, rfl⟩ (by decide) (by decide)
  ·
    refine i_iconst w own_d44_7 (z := (1 : Int32)) (by decide) (pc' := 8) rfl ?_
    refine i_goto w own_d44_8 (pc' := 12) (by decide) ?_
    exact i_retN w own_d44_12 rfl (by simp) ⟨by rw [if_neg hc4]; rfl, rfl⟩ (by decide) (by decide)
theorem own_d45_0 : decode jdk_43_method_46_code 0 = .ok (.iconst 1, 1) := by decide +kernel
theorem own_d45_1 : decode jdk_43_method_46_code 1 = .ok (.newarray .byte, 2) := by decide +kernel
theorem own_d45_3 : decode jdk_43_method_46_code 3 = .ok (.dup, 1) := by decide +kernel
theorem own_d45_4 : decode jdk_43_method_46_code 4 = .ok (.iconst 0, 1) := by decide +kernel
theorem own_d45_5 : decode jdk_43_method_46_code 5 = .ok (.iload_n 0, 1) := by decide +kernel
theorem own_d45_6 : decode jdk_43_method_46_code 6 = .ok (.i2b, 1) := by decide +kernel
theorem own_d45_7 : decode jdk_43_method_46_code 7 = .ok (.bastore, 1) := by decide +kernel
theorem own_d45_8 : decode jdk_43_method_46_code 8 = .ok (.areturn, 1) := by decide +kernel
theorem own_pd_pCqAB : parseMethodDescriptor "(C)[B" = some ⟨[.char], some (.array .byte)⟩ := by decide +kernel
theorem own_ef_own_d45 (m : MethodId) (x0 : Int32) : entryFrame m #[(.int x0)] 1 = mkF m 0 #[.val (.int x0)] [] := by
  first | (simp [entryFrame, mkF, argsToLocals, Value.category]; done) | rfl
set_option maxRecDepth 65536 in
set_option maxHeartbeats 40000000 in
theorem own_toBytesC (l : Launch) (Z : State) (a0 : Array Value) (hw : ∀ d ∈ tables_1, d.before a0 Z = true) (x : Int32) (h0 : Heap) (n0 : Nat) (O : Old Z n0 h0)  :
    Ctr l Z n0 (⟨"java/lang/StringLatin1", "toBytes", "(C)[B"⟩ : MethodName) jdk_43_method_46_code 1 (some (.array .byte)) [] ({ frames := 0, cells := 1, slots := 1, locals := 0 } : Room) #[(.int x)] h0 [] (fun v h => ∃ t ca, v = some (.ref t) ∧ h0.size ≤ t ∧ Ary Z h t ca .byte [.int x.toInt8.toInt32]) := by
  refine enter (plainFor_of_name own_pn_java_lang_StringLatin1) (fun m => own_ef_own_d45 m x) O (fun _ q => nomatch q) ?_
  intro p e s m below meth c T w
  refine i_iconst w own_d45_0 (z := (1 : Int32)) (by decide) (pc' := 1) rfl ?_
  refine i_newP w own_d45_1 (hw _ (List.mem_of_getElem? (i := 4) rfl)) (N := 1) rfl (by decide) (cap := 1) (by decide) (by decide) (by decide) (by decide) (pc' := 3) rfl ?_
  intro b T1 h1 ca_b g_b w1 z_b E1 A_b
  show Goes p e below _ T1 (mkF m 3 #[.val (.int x)] [(.ref b)])
  refine i_dup w1 own_d45_3 rfl (pc' := 4) rfl ?_
  refine i_iconst w1 own_d45_4 (z := (0 : Int32)) (by decide) (pc' := 5) rfl ?_
  refine i_iloadN w1 own_d45_5 rfl (pc' := 6) rfl ?_
  refine i_i2b w1 own_d45_6 (pc' := 7) rfl ?_
  refine i_bastore w1 own_d45_7 A_b (i := 0) rfl (by decide) (Or.inr z_b) (pc' := 8) rfl ?_
  intro T3 h3 w3 K3 A3
  show Goes p e below _ T3 (mkF m 8 #[.val (.int x)] [(.ref b)])
  exact i_retA w3 own_d45_8 rfl rfl rfl ⟨b, ca_b, rfl, z_b, by simpa only [List.replicate, List.set, byte_idem] using A3⟩ (by decide) (by decide)
theorem own_d46_0 : decode jdk_42_method_151_code 0 = .ok (.aload_n 0, 1) := by decide +kernel
theorem own_d46_1 : decode jdk_42_method_151_code 1 = .ok (.invokespecial 1, 3) := by decide +kernel
theorem own_d46_4 : decode jdk_42_method_151_code 4 = .ok (.aload_n 0, 1) := by decide +kernel
theorem own_d46_5 : decode jdk_42_method_151_code 5 = .ok (.aload_n 1, 1) := by decide +kernel
theorem own_d46_6 : decode jdk_42_method_151_code 6 = .ok (.putfield 9, 3) := by decide +kernel
theorem own_d46_9 : decode jdk_42_method_151_code 9 = .ok (.aload_n 0, 1) := by decide +kernel
theorem own_d46_10 : decode jdk_42_method_151_code 10 = .ok (.iload_n 2, 1) := by decide +kernel
theorem own_d46_11 : decode jdk_42_method_151_code 11 = .ok (.putfield 15, 3) := by decide +kernel
theorem own_d46_14 : decode jdk_42_method_151_code 14 = .ok (.return_, 1) := by decide +kernel
theorem own_pn_java_lang_String : plainName "java/lang/String" = true := by first | (simp [plainName, overriddenIn]; done) | decide +kernel
theorem own_pd_pABBqV : parseMethodDescriptor "([BB)V" = some ⟨[(.array .byte), .byte], none⟩ := by decide +kernel
theorem own_ef_own_d46 (m : MethodId) (x0 : Addr) (x1 : Addr) (x2 : Int32) : entryFrame m #[(.ref x0), (.ref x1), (.int x2)] 3 = mkF m 0 #[.val (.ref x0), .val (.ref x1), .val (.int x2)] [] := by
  first | (simp [entryFrame, mkF, argsToLocals, Value.category]; done) | rfl
set_option maxRecDepth 65536 in
set_option maxHeartbeats 40000000 in
theorem own_initBB (l : Launch) (Z : State) (a0 : Array Value) (hw : ∀ d ∈ tables_1, d.before a0 Z = true) (a t : Addr) (cd : Int32) {v0 c0 : Value} (h0 : Heap) (n0 : Nat) (O : Old Z n0 h0) (ha : n0 ≤ a) (Ea : Exa Z h0 a ST) (Fv : Fld Z h0 a ST "value" "[B" v0) (Fc : Fld Z h0 a ST "coder" "B" c0) (hnb : narrow .byte (.int cd) = .int cd) (hfb : fits .byte (.int cd) = true) :
    Ctr l Z n0 (⟨"java/lang/String", "<init>", "([BB)V"⟩ : MethodName) jdk_42_method_151_code 3 none [] ({ frames := 1, cells := 0, slots := 0, locals := 12 } : Room) #[(.ref a), (.ref t), (.int cd)] h0 [a] (fun v h => v = none ∧ Exa Z h a ST ∧ Fld Z h a ST "value" "[B" (.ref t) ∧ Fld Z h a ST "coder" "B" (.int cd)) := by
  refine enter (plainFor_of_name own_pn_java_lang_String) (fun m => own_ef_own_d46 m a t cd) O (allS ha all0) ?_
  intro p e s m below meth c T w
  refine i_aloadN w own_d46_0 rfl rfl (pc' := 1) rfl ?_
  refine i_initO w own_d46_1 (hw _ (List.mem_of_getElem? (i := 139) rfl)) (hw _ (List.mem_of_getElem? (i := 26) rfl)) (hw _ (List.mem_of_getElem? (i := 27) rfl)) rfl (by decide) (W := 0) (Nat.le_of_eq rfl) (by decide) (pc' := 4) rfl ?_
  intro T4 w4
  show Goes p e below _ T4 (mkF m 4 #[.val (.ref a), .val (.ref t), .val (.int cd)] [])
  refine i_aloadN w4 own_d46_4 rfl rfl (pc' := 5) rfl ?_
  refine i_aloadN w4 own_d46_5 rfl rfl (pc' := 6) rfl ?_
  refine i_putF w4 own_d46_6 (hw _ (List.mem_of_getElem? (i := 92) rfl)) Fv Ea (Or.inr ⟨(hw _ (List.mem_of_getElem? (i := 5) rfl)), rfl, rfl⟩) (hw _ (List.mem_of_getElem? (i := 3) rfl)) (ty := (.array .byte)) (by decide) rfl rfl (Or.inl (List.mem_singleton.mpr rfl)) (pc' := 9) rfl ?_
  intro T5 h5 w5 W5
  show Goes p e below _ T5 (mkF m 9 #[.val (.ref a), .val (.ref t), .val (.int cd)] [])
  have Fv1 := Fld.same W5 Fv
  have Fc1 := Fc.other W5 (Or.inr (slot_ne (Or.inr (hw _ (List.mem_of_getElem? (i := 6) rfl))) (Or.inr (hw _ (List.mem_of_getElem? (i := 5) rfl))) (by decide) (t := .byte) (t' := (.array .byte)) (by decide) (by decide)))
  have Ea1 := Ea.wr W5
  refine i_aloadN w5 own_d46_9 rfl rfl (pc' := 10) rfl ?_
  refine i_iloadN w5 own_d46_10 rfl (pc' := 11) rfl ?_
  refine i_putF w5 own_d46_11 (hw _ (List.mem_of_getElem? (i := 99) rfl)) Fc1 Ea1 (Or.inr ⟨(hw _ (List.mem_of_getElem? (i := 6) rfl)), rfl, rfl⟩) (hw _ (List.mem_of_getElem? (i := 3) rfl)) (ty := .byte) (by decide) hnb hfb (Or.inl (List.mem_singleton.mpr rfl)) (pc' := 14) rfl ?_
  intro T6 h6 w6 W6
  show Goes p e below _ T6 (mkF m 14 #[.val (.ref a), .val (.ref t), .val (.int cd)] [])
  have Fc2 := Fld.same W6 Fc1
  have Fv2 := Fv1.other W6 (Or.inr (slot_ne (Or.inr (hw _ (List.mem_of_getElem? (i := 5) rfl))) (Or.inr (hw _ (List.mem_of_getElem? (i := 6) rfl))) (by decide) (t := (.array .byte)) (t' := .byte) (by decide) (by decide)))
  have Ea2 := Ea1.wr W6
  exact i_ret0 w6 own_d46_14 rfl ⟨rfl, Ea2, Fv2, Fc2⟩ (by decide) (by decide)
theorem own_d43_0 : decode jdk_42_method_139_code 0 = .ok (.getstatic 38, 3) := by decide +kernel
theorem own_d43_3 : decode jdk_42_method_139_code 3 = .ok (.ifCond .eq 23, 3) := by decide +kernel
theorem own_d43_6 : decode jdk_42_method_139_code 6 = .ok (.iload_n 0, 1) := by decide +kernel
theorem own_d43_7 : decode jdk_42_method_139_code 7 = .ok (.invokestatic 1015, 3) := by decide +kernel
theorem own_d43_10 : decode jdk_42_method_139_code 10 = .ok (.ifCond .eq 16, 3) := by decide +kernel
theorem own_d43_13 : decode jdk_42_method_139_code 13 = .ok (.new 10, 3) := by decide +kernel
theorem own_d43_16 : decode jdk_42_method_139_code 16 = .ok (.dup, 1) := by decide +kernel
theorem own_d43_17 : decode jdk_42_method_139_code 17 = .ok (.iload_n 0, 1) := by decide +kernel
theorem own_d43_18 : decode jdk_42_method_139_code 18 = .ok (.invokestatic 1018, 3) := by decide +kernel
theorem own_d43_21 : decode jdk_42_method_139_code 21 = .ok (.iconst 0, 1) := by decide +kernel
theorem own_d43_22 : decode jdk_42_method_139_code 22 = .ok (.invokespecial 209, 3) := by decide +kernel
theorem own_d43_25 : decode jdk_42_method_139_code 25 = .ok (.areturn, 1) := by decide +kernel
theorem own_d43_26 : decode jdk_42_method_139_code 26 = .ok (.new 10, 3) := by decide +kernel
theorem own_d43_29 : decode jdk_42_method_139_code 29 = .ok (.dup, 1) := by decide +kernel
theorem own_d43_30 : decode jdk_42_method_139_code 30 = .ok (.iload_n 0, 1) := by decide +kernel
theorem own_d43_31 : decode jdk_42_method_139_code 31 = .ok (.invokestatic 1021, 3) := by decide +kernel
theorem own_d43_34 : decode jdk_42_method_139_code 34 = .ok (.iconst 1, 1) := by decide +kernel
theorem own_d43_35 : decode jdk_42_method_139_code 35 = .ok (.invokespecial 209, 3) := by decide +kernel
theorem own_d43_38 : decode jdk_42_method_139_code 38 = .ok (.areturn, 1) := by decide +kernel
theorem own_pd_pCqLjava_lang_Stringe : parseMethodDescriptor "(C)Ljava/lang/String;" = some ⟨[.char], some (.object "java/lang/String")⟩ := by decide +kernel
theorem own_ef_own_d43 (m : MethodId) (x0 : Int32) : entryFrame m #[(.int x0)] 1 = mkF m 0 #[.val (.int x0)] [] := by
  first | (simp [entryFrame, mkF, argsToLocals, Value.category]; done) | rfl
set_option maxRecDepth 65536 in
set_option maxHeartbeats 40000000 in
theorem own_valueOfC (l : Launch) (Z : State) (a0 : Array Value) (hw : ∀ d ∈ tables_1, d.before a0 Z = true) (x : Nat) (G1 : Int32) (hG : ¬ G1 = 0) (SG : Sta Z Z.heap "java/lang/String" "COMPACT_STRINGS" "Z" (.int G1)) (h0 : Heap) (n0 : Nat) (O : Old Z n0 h0) (hx : x < 256) :
    Ctr l Z n0 (⟨"java/lang/String", "valueOf", "(C)Ljava/lang/String;"⟩ : MethodName) jdk_42_method_139_code 1 (some (.object "java/lang/String")) [] ({ frames := 2, cells := 2, slots := 5, locals := 27 } : Room) #[(.int (Int32.ofNat x))] h0 [] (fun v h => ∃ a t ca, v = some (.ref a) ∧ h0.size ≤ a ∧ a < t ∧ StrL Z h a t ca [x]) := by
  refine enter (plainFor_of_name own_pn_java_lang_String) (fun m => own_ef_own_d43 m (Int32.ofNat x)) O (fun _ q => nomatch q) ?_
  intro p e s m below meth c T w
  have hx255 : ¬ (255 : Int32) < Int32.ofNat x := (le255 (by omega)).mpr hx
  refine i_getS w own_d43_0 (hw _ (List.mem_of_getElem? (i := 98) rfl)) SG (pc' := 3) rfl ?_
  intro T7 w7
  refine i_if_eq_N w7 hG own_d43_3 (pc' := 6) rfl ?_
  refine i_iloadN w7 own_d43_6 rfl (pc' := 7) rfl ?_
  refine c_static w7 (y := (⟨"java/lang/StringLatin1", "canEncode", "(C)Z"⟩ : MethodName)) (argsL := [(.int (Int32.ofNat x))]) (st := []) own_d43_7 (hw _ (List.mem_of_getElem? (i := 226) rfl)) (hw _ (List.mem_of_getElem? (i := 227) rfl)) (hw _ (List.mem_of_getElem? (i := 188) rfl)) (hw _ (List.mem_of_getElem? (i := 228) rfl)) (by decide) own_pd_pCqZ rfl (own_canEncC l Z a0 hw (Int32.ofNat x) h0 n0 w7.old ) rfl (by decide) (W := 0) (Nat.le_of_eq rfl) (by decide) (by decide) (by decide) (fun _ q => nomatch q) (pc' := 10) rfl ?_
  intro v8 T8 h8 w8 K8 q8
  obtain ⟨rfl, rfl⟩ := q8
  show Goes p e below _ T8 (mkF m 10 #[.val (.int (Int32.ofNat x))] [(.int (if (255 : Int32) < (Int32.ofNat x) then 0 else 1))])
  rw [if_neg hx255]
  show Goes p e below _ T8 (mkF m 10 #[.val (.int (Int32.ofNat x))] [(.int (1 : Int32))])
  refine i_if_eq_N w8 (by decide) own_d43_10 (pc' := 13) rfl ?_
  refine i_new w8 own_d43_13 (hw _ (List.mem_of_getElem? (i := 215) rfl)) (hw _ (List.mem_of_getElem? (i := 3) rfl)) (hw _ (List.mem_of_getElem? (i := 2) rfl)) (by decide) (by decide) (pc' := 16) rfl ?_
  intro a T9 h9 g_a w9 z_a E9 A_a D_a
  show Goes p e below _ T9 (mkF m 16 #[.val (.int (Int32.ofNat x))] [(.ref a)])
  have Fv : Fld Z h9 a ST "value" "[B" .null := D_a (Or.inr (hw _ (List.mem_of_getElem? (i := 5) rfl))) (ty := .array .byte) (by decide)
  have Fc : Fld Z h9 a ST "coder" "B" (.int 0) := D_a (Or.inr (hw _ (List.mem_of_getElem? (i := 6) rfl))) (ty := .byte) (by decide)
  refine i_dup w9 own_d43_16 rfl (pc' := 17) rfl ?_
  refine i_iloadN w9 own_d43_17 rfl (pc' := 18) rfl ?_
  refine c_static w9 (y := (⟨"java/lang/StringLatin1", "toBytes", "(C)[B"⟩ : MethodName)) (argsL := [(.int (Int32.ofNat x))]) (st := [(.ref a), (.ref a)]) own_d43_18 (hw _ (List.mem_of_getElem? (i := 229) rfl)) (hw _ (List.mem_of_getElem? (i := 230) rfl)) (hw _ (List.mem_of_getElem? (i := 188) rfl)) (hw _ (List.mem_of_getElem? (i := 231) rfl)) (by decide) own_pd_pCqAB rfl (own_toBytesC l Z a0 hw (Int32.ofNat x) h9 n0 w9.old ) rfl (by decide) (W := 2) (Nat.le_of_eq rfl) (by decide) (by decide) (by decide) (fun _ q => nomatch q) (pc' := 21) rfl ?_
  intro v11 T11 h11 w11 K11 q11
  obtain ⟨t, ca, rfl, zt, At⟩ := q11
  show Goes p e below _ T11 (mkF m 21 #[.val (.int (Int32.ofNat x))] [(.ref t), (.ref a), (.ref a)])
  have Fv1 := Fv.keep K11 nin0
  have Fc1 := Fc.keep K11 nin0
  have Ea1 := A_a.keep K11
  have lat1 : a < t := Nat.lt_of_lt_of_le A_a.lt zt
  refine i_iconst w11 own_d43_21 (z := (0 : Int32)) (by decide) (pc' := 22) rfl ?_
  refine c_special w11 (y := (⟨"java/lang/String", "<init>", "([BB)V"⟩ : MethodName)) (a := a) (argsL := [(.ref t), (.int (0 : Int32))]) (st := [(.ref a)]) own_d43_22 rfl (hw _ (List.mem_of_getElem? (i := 232) rfl)) (hw _ (List.mem_of_getElem? (i := 233) rfl)) (hw _ (List.mem_of_getElem? (i := 2) rfl)) (hw _ (List.mem_of_getElem? (i := 234) rfl)) (by decide) own_pd_pABBqV rfl (own_initBB l Z a0 hw a t 0 h11 n0 w11.old (Nat.le_trans w11.n0h0 z_a) Ea1 Fv1 Fc1 rfl rfl) rfl (by decide) (W := 1) (Nat.le_of_eq rfl) (by decide) (by decide) (by decide) (allS (Or.inr z_a) all0) (pc' := 25) rfl ?_
  intro v13 T13 h13 w13 K13 q13
  obtain ⟨rfl, Ea2, Fv2, Fc2⟩ := q13
  show Goes p e below _ T13 (mkF m 25 #[.val (.int (Int32.ofNat x))] [(.ref a)])
  have At2 := At.keep K13 (ninS (Nat.ne_of_gt lat1) nin0)
  exact i_retA w13 own_d43_25 rfl rfl rfl ⟨a, t, ca, rfl, z_a, lat1, Ea2, Fv2, Fc2, At2, fun c hc => by simp at hc; omega⟩ (by decide) (by decide)
theorem own_d39_0 : decode jdk_52_method_21_code 0 = .ok (.iconst 0, 1) := by decide +kernel
theorem own_d39_1 : decode jdk_52_method_21_code 1 = .ok (.istore 5, 2) := by decide +kernel
theorem own_d39_3 : decode jdk_52_method_21_code 3 = .ok (.iload 5, 2) := by decide +kernel
theorem own_d39_5 : decode jdk_52_method_21_code 5 = .ok (.iload 4, 2) := by decide +kernel
theorem own_d39_7 : decode jdk_52_method_21_code 7 = .ok (.if_icmp .ge 37, 3) := by decide +kernel
theorem own_d39_10 : decode jdk_52_method_21_code 10 = .ok (.aload_n 0, 1) := by decide +kernel
theorem own_d39_11 : decode jdk_52_method_21_code 11 = .ok (.iload_n 1, 1) := by decide +kernel
theorem own_d39_12 : decode jdk_52_method_21_code 12 = .ok (.caload, 1) := by decide +kernel
theorem own_d39_13 : decode jdk_52_method_21_code 13 = .ok (.istore 6, 2) := by decide +kernel
theorem own_d39_15 : decode jdk_52_method_21_code 15 = .ok (.iload 6, 2) := by decide +kernel
theorem own_d39_17 : decode jdk_52_method_21_code 17 = .ok (.sipush 255, 3) := by decide +kernel
theorem own_d39_20 : decode jdk_52_method_21_code 20 = .ok (.if_icmp .le 6, 3) := by decide +kernel
theorem own_d39_23 : decode jdk_52_method_21_code 23 = .ok (.iload 5, 2) := by decide +kernel
theorem own_d39_25 : decode jdk_52_method_21_code 25 = .ok (.ireturn, 1) := by decide +kernel
theorem own_d39_26 : decode jdk_52_method_21_code 26 = .ok (.aload_n 2, 1) := by decide +kernel
theorem own_d39_27 : decode jdk_52_method_21_code 27 = .ok (.iload_n 3, 1) := by decide +kernel
theorem own_d39_28 : decode jdk_52_method_21_code 28 = .ok (.iload 6, 2) := by decide +kernel
theorem own_d39_30 : decode jdk_52_method_21_code 30 = .ok (.i2b, 1) := by decide +kernel
theorem own_d39_31 : decode jdk_52_method_21_code 31 = .ok (.bastore, 1) := by decide +kernel
theorem own_d39_32 : decode jdk_52_method_21_code 32 = .ok (.iinc 1 1, 3) := by decide +kernel
theorem own_d39_35 : decode jdk_52_method_21_code 35 = .ok (.iinc 3 1, 3) := by decide +kernel
theorem own_d39_38 : decode jdk_52_method_21_code 38 = .ok (.iinc 5 1, 3) := by decide +kernel
theorem own_d39_41 : decode jdk_52_method_21_code 41 = .ok (.goto (-38), 3) := by decide +kernel
theorem own_d39_44 : decode jdk_52_method_21_code 44 = .ok (.iload 4, 2) := by decide +kernel
theorem own_d39_46 : decode jdk_52_method_21_code 46 = .ok (.ireturn, 1) := by decide +kernel
theorem own_pn_java_lang_StringUTF16 : plainName "java/lang/StringUTF16" = true := by first | (simp [plainName, overriddenIn]; done) | decide +kernel
set_option maxRecDepth 65536 in
set_option maxHeartbeats 40000000 in
theorem own_cmp5_loop (l : Launch) (Z : State) (b d : Addr) (cb cd : ClassId) (cs : List Nat) (hcs : ∀ c ∈ cs, c < 65536) (hn : cs.length ≤ 65536) (hbd : b ≠ d) (h0 : Heap) (n0 : Nat) {p : Program} {e : Env} {s : State} {m : MethodId} {args : Array Value} {below : List Frame} {meth : Method} {c : Code} :
    ∀ (j i : Nat) (T : State) (h : Heap) (kk nn : Nat) (o6 : Slot) (bs : List Value), i + j = cs.length → One o6 → Wk p l e ({ frames := 0, cells := 0, slots := 0, locals := 0 } : Room) s m args below meth c Z "java/lang/StringUTF16" jdk_52_method_21_code 7 (some .int) "compress" n0 h0 [d] T h 0 0 → Ary Z h b cb .char (chs cs) → Ary Z h d cd .byte bs → bs.length = cs.length → bs.take i = lat (cs.take i) → (∀ c ∈ cs.take i, c < 256) →
      Goes p e below (PN s n0 h0 [d] (fun v h => ∃ j bs, v = some (.int (Int32.ofNat j)) ∧ j ≤ cs.length ∧ (∀ c ∈ cs.take j, c < 256) ∧ (∀ c, cs[j]? = some c → 256 ≤ c) ∧ Ary Z h d cd .byte bs ∧ bs.length = cs.length ∧ bs.take j = lat (cs.take j)) 0 0) T (mkF m 3 #[.val (.ref b), .val (.int (Int32.ofNat i)), .val (.ref d), .val (.int (Int32.ofNat i)), .val (.int (Int32.ofNat cs.length)), .val (.int (Int32.ofNat i)), o6] []) := by
  intro j
  induction j with
  | zero =>
    intro i T h kk nn o6 bs hij ho6 w Ab Ad hbl ht hs
    refine i_iload w own_d39_3 rfl (pc' := 5) rfl ?_
    refine i_iload w own_d39_5 rfl (pc' := 7) rfl ?_
    refine i_icmp_ge_Y w (by rw [show i = cs.length by omega]; exact Int32.lt_irrefl) own_d39_7 (pc' := 44) (by decide) ?_
    refine i_iload w own_d39_44 rfl (pc' := 46) rfl ?_
    exact i_retI w own_d39_46 rfl ⟨cs.length, bs, rfl, Nat.le_refl _, by rw [show cs.length = i by omega]; exact hs, fun c hc => by simp at hc, Ad, hbl, by rw [show cs.length = i by omega]; exact ht⟩ (by decide) (by decide)
  | succ j ih =>
    intro i T h kk nn o6 bs hij ho6 w Ab Ad hbl ht hs
    obtain ⟨ci, hci⟩ : ∃ ci, cs[i]? = some ci := ⟨_, List.getElem?_eq_getElem (by omega)⟩
    have hcb : ci < 65536 := hcs ci (List.mem_of_getElem? hci)
    refine i_iload w own_d39_3 rfl (pc' := 5) rfl ?_
    refine i_iload w own_d39_5 rfl (pc' := 7) rfl ?_
    refine i_icmp_ge_N w ((lt_nat (by omega) (by omega)).mpr (by omega)) own_d39_7 (pc' := 10) rfl ?_
    refine i_aloadN w own_d39_10 rfl rfl (pc' := 11) rfl ?_
    refine i_iloadN w own_d39_11 rfl (pc' := 12) rfl ?_
    refine i_caload w own_d39_12 Ab rfl (chs_at hci) (pc' := 13) rfl ?_
    refine i_istore w own_d39_13 (l' := #[.val (.ref b), .val (.int (Int32.ofNat i)), .val (.ref d), .val (.int (Int32.ofNat i)), .val (.int (Int32.ofNat cs.length)), .val (.int (Int32.ofNat i)), .val (.int (Int32.ofNat ci))]) (XS.store1 rfl ho6 rfl) (pc' := 15) rfl ?_
    refine i_iload w own_d39_15 rfl (pc' := 17) rfl ?_
    refine i_sipush w own_d39_17 (z := (255 : Int32)) (by decide) (pc' := 20) rfl ?_
    refine i_icmp_le w own_d39_20 (pcY := 26) (by decide) (pc' := 23) rfl (fun hc20 => ?_) (fun hc20 => ?_)
    ·
      refine i_aloadN w own_d39_26 rfl rfl (pc' := 27) rfl ?_
      refine i_iloadN w own_d39_27 rfl (pc' := 28) rfl ?_
      refine i_iload w own_d39_28 rfl (pc' := 30) rfl ?_
      refine i_i2b w own_d39_30 (pc' := 31) rfl ?_
      refine i_bastore w own_d39_31 Ad (i := i) rfl (by omega) (Or.inl (List.mem_singleton.mpr rfl)) (pc' := 32) rfl ?_
      intro T15 h15 w15 K1 A1
      show Goes p e below _ T15 (mkF m 32 #[.val (.ref b), .val (.int (Int32.ofNat i)), .val (.ref d), .val (.int (Int32.ofNat i)), .val (.int (Int32.ofNat cs.length)), .val (.int (Int32.ofNat i)), .val (.int (Int32.ofNat ci))] [])
      refine i_iinc w15 own_d39_32 rfl (z := (Int32.ofNat (i + 1))) (inc_nat i) (l' := #[.val (.ref b), .val (.int (Int32.ofNat (i + 1))), .val (.ref d), .val (.int (Int32.ofNat i)), .val (.int (Int32.ofNat cs.length)), .val (.int (Int32.ofNat i)), .val (.int (Int32.ofNat ci))]) rfl (pc' := 35) rfl ?_
      refine i_iinc w15 own_d39_35 rfl (z := (Int32.ofNat (i + 1))) (inc_nat i) (l' := #[.val (.ref b), .val (.int (Int32.ofNat (i + 1))), .val (.ref d), .val (.int (Int32.ofNat (i + 1))), .val (.int (Int32.ofNat cs.length)), .val (.int (Int32.ofNat i)), .val (.int (Int32.ofNat ci))]) rfl (pc' := 38) rfl ?_
      refine i_iinc w15 own_d39_38 rfl (z := (Int32.ofNat (i + 1))) (inc_nat i) (l' := #[.val (.ref b), .val (.int (Int32.ofNat (i + 1))), .val (.ref d), .val (.int (Int32.ofNat (i + 1))), .val (.int (Int32.ofNat cs.length)), .val (.int (Int32.ofNat (i + 1))), .val (.int (Int32.ofNat ci))]) rfl (pc' := 41) rfl ?_
      refine i_goto w15 own_d39_41 (pc' := 3) (by decide) ?_
      exact ih (i + 1) T15 h15 kk nn (.val (.int (Int32.ofNat ci))) _ (by omega) (One.val rfl) w15 (Ab.keep K1 (ninS hbd nin0)) A1 (by simpa using hbl) (lat_step hbl hci ht) (all_step hci hs ((le255 hcb).mp hc20))
    ·
      refine i_iload w own_d39_23 rfl (pc' := 25) rfl ?_
      exact i_retI w own_d39_25 rfl ⟨i, bs, rfl, by omega, hs, fun c hc => by rw [hci] at hc; cases hc; exact (gt255 hcb).mp hc20, Ad, hbl, ht⟩ (by decide) (by decide)
theorem own_pd_pACIABIIqI : parseMethodDescriptor "([CI[BII)I" = some ⟨[(.array .char), .int, (.array .byte), .int, .int], some .int⟩ := by decide +kernel
theorem own_ef_own_d39 (m : MethodId) (x0 : Addr) (x1 : Int32) (x2 : Addr) (x3 : Int32) (x4 : Int32) : entryFrame m #[(.ref x0), (.int x1), (.ref x2), (.int x3), (.int x4)] 7 = mkF m 0 #[.val (.ref x0), .val (.int x1), .val (.ref x2), .val (.int x3), .val (.int x4), .unset, .unset] [] := by
  first | (simp [entryFrame, mkF, argsToLocals, Value.category]; done) | rfl
set_option maxRecDepth 65536 in
set_option maxHeartbeats 40000000 in
theorem own_cmp5 (l : Launch) (Z : State) (a0 : Array Value) (hw : ∀ d ∈ tables_1, d.before a0 Z = true) (b d : Addr) (cb cd : ClassId) (cs : List Nat) (bs0 : List Value) (h0 : Heap) (n0 : Nat) (O : Old Z n0 h0) (hcs : ∀ c ∈ cs, c < 65536) (hn : cs.length ≤ 65536) (hbd : b ≠ d) (hd : n0 ≤ d) (Ab : Ary Z h0 b cb .char (chs cs)) (Ad : Ary Z h0 d cd .byte bs0) (hbl : bs0.length = cs.length) :
    Ctr l Z n0 (⟨"java/lang/StringUTF16", "compress", "([CI[BII)I"⟩ : MethodName) jdk_52_method_21_code 7 (some .int) [] ({ frames := 0, cells := 0, slots := 0, locals := 0 } : Room) #[(.ref b), (.int (0 : Int32)), (.ref d), (.int (0 : Int32)), (.int (Int32.ofNat cs.length))] h0 [d] (fun v h => ∃ j bs, v = some (.int (Int32.ofNat j)) ∧ j ≤ cs.length ∧ (∀ c ∈ cs.take j, c < 256) ∧ (∀ c, cs[j]? = some c → 256 ≤ c) ∧ Ary Z h d cd .byte bs ∧ bs.length = cs.length ∧ bs.take j = lat (cs.take j)) := by
  refine enter (plainFor_of_name own_pn_java_lang_StringUTF16) (fun m => own_ef_own_d39 m b (0 : Int32) d (0 : Int32) (Int32.ofNat cs.length)) O (allS hd all0) ?_
  intro p e s m below meth c T w
  refine i_iconst w own_d39_0 (z := (0 : Int32)) (by decide) (pc' := 1) rfl ?_
  refine i_istore w own_d39_1 (l' := #[.val (.ref b), .val (.int (0 : Int32)), .val (.ref d), .val (.int (0 : Int32)), .val (.int (Int32.ofNat cs.length)), .val (.int (0 : Int32)), .unset]) rfl (pc' := 3) rfl ?_
  exact own_cmp5_loop l Z b d cb cd cs hcs hn hbd h0 n0 cs.length 0 T h0 0 0 .unset _ (by omega) One.u w Ab Ad hbl rfl (fun c hc => nomatch hc)
theorem own_d38_0 : decode jdk_52_method_16_code 0 = .ok (.iload_n 2, 1) := by decide +kernel
theorem own_d38_1 : decode jdk_52_method_16_code 1 = .ok (.newarray .byte, 2) := by decide +kernel
theorem own_d38_3 : decode jdk_52_method_16_code 3 = .ok (.astore_n 3, 1) := by decide +kernel
theorem own_d38_4 : decode jdk_52_method_16_code 4 = .ok (.aload_n 0, 1) := by decide +kernel
theorem own_d38_5 : decode jdk_52_method_16_code 5 = .ok (.iload_n 1, 1) := by decide +kernel
theorem own_d38_6 : decode jdk_52_method_16_code 6 = .ok (.aload_n 3, 1) := by decide +kernel
theorem own_d38_7 : decode jdk_52_method_16_code 7 = .ok (.iconst 0, 1) := by decide +kernel
theorem own_d38_8 : decode jdk_52_method_16_code 8 = .ok (.iload_n 2, 1) := by decide +kernel
theorem own_d38_9 : decode jdk_52_method_16_code 9 = .ok (.invokestatic 115, 3) := by decide +kernel
theorem own_d38_12 : decode jdk_52_method_16_code 12 = .ok (.istore 4, 2) := by decide +kernel
theorem own_d38_14 : decode jdk_52_method_16_code 14 = .ok (.iload 4, 2) := by decide +kernel
theorem own_d38_16 : decode jdk_52_method_16_code 16 = .ok (.iload_n 2, 1) := by decide +kernel
theorem own_d38_17 : decode jdk_52_method_16_code 17 = .ok (.if_icmp .eq 40, 3) := by decide +kernel
theorem own_d38_20 : decode jdk_52_method_16_code 20 = .ok (.aload_n 0, 1) := by decide +kernel
theorem own_d38_21 : decode jdk_52_method_16_code 21 = .ok (.iload_n 1, 1) := by decide +kernel
theorem own_d38_22 : decode jdk_52_method_16_code 22 = .ok (.iload_n 2, 1) := by decide +kernel
theorem own_d38_23 : decode jdk_52_method_16_code 23 = .ok (.invokestatic 119, 3) := by decide +kernel
theorem own_d38_26 : decode jdk_52_method_16_code 26 = .ok (.astore 5, 2) := by decide +kernel
theorem own_d38_28 : decode jdk_52_method_16_code 28 = .ok (.aload 5, 2) := by decide +kernel
theorem own_d38_30 : decode jdk_52_method_16_code 30 = .ok (.iload 4, 2) := by decide +kernel
theorem own_d38_32 : decode jdk_52_method_16_code 32 = .ok (.invokestatic 71, 3) := by decide +kernel
theorem own_d38_35 : decode jdk_52_method_16_code 35 = .ok (.sipush 255, 3) := by decide +kernel
theorem own_d38_38 : decode jdk_52_method_16_code 38 = .ok (.if_icmp .gt 16, 3) := by decide +kernel
theorem own_d38_41 : decode jdk_52_method_16_code 41 = .ok (.aload 5, 2) := by decide +kernel
theorem own_d38_43 : decode jdk_52_method_16_code 43 = .ok (.iconst 0, 1) := by decide +kernel
theorem own_d38_44 : decode jdk_52_method_16_code 44 = .ok (.aload_n 3, 1) := by decide +kernel
theorem own_d38_45 : decode jdk_52_method_16_code 45 = .ok (.iconst 0, 1) := by decide +kernel
theorem own_d38_46 : decode jdk_52_method_16_code 46 = .ok (.iload_n 2, 1) := by decide +kernel
theorem own_d38_47 : decode jdk_52_method_16_code 47 = .ok (.invokestatic 123, 3) := by decide +kernel
theorem own_d38_50 : decode jdk_52_method_16_code 50 = .ok (.iload_n 2, 1) := by decide +kernel
theorem own_d38_51 : decode jdk_52_method_16_code 51 = .ok (.if_icmp .eq 6, 3) := by decide +kernel
theorem own_d38_54 : decode jdk_52_method_16_code 54 = .ok (.aload 5, 2) := by decide +kernel
theorem own_d38_56 : decode jdk_52_method_16_code 56 = .ok (.areturn, 1) := by decide +kernel
theorem own_d38_57 : decode jdk_52_method_16_code 57 = .ok (.aload_n 3, 1) := by decide +kernel
theorem own_d38_58 : decode jdk_52_method_16_code 58 = .ok (.areturn, 1) := by decide +kernel
theorem own_pd_pACIIqAB : parseMethodDescriptor "([CII)[B" = some ⟨[(.array .char), .int, .int], some (.array .byte)⟩ := by decide +kernel
theorem own_ef_own_d38 (m : MethodId) (x0 : Addr) (x1 : Int32) (x2 : Int32) : entryFrame m #[(.ref x0), (.int x1), (.int x2)] 6 = mkF m 0 #[.val (.ref x0), .val (.int x1), .val (.int x2), .unset, .unset, .unset] [] := by
  first | (simp [entryFrame, mkF, argsToLocals, Value.category]; done) | rfl
set_option maxRecDepth 65536 in
set_option maxHeartbeats 40000000 in
theorem own_cmp3 (l : Launch) (Z : State) (a0 : Array Value) (hw : ∀ d ∈ tables_1, d.before a0 Z = true) (b : Addr) (cb : ClassId) (cs : List Nat) (h0 : Heap) (n0 : Nat) (O : Old Z n0 h0) (hL : ∀ c ∈ cs, c < 256) (hn : cs.length ≤ 16) (Ab : Ary Z h0 b cb .char (chs cs)) :
    Ctr l Z n0 (⟨"java/lang/StringUTF16", "compress", "([CII)[B"⟩ : MethodName) jdk_52_method_16_code 6 (some (.array .byte)) [] ({ frames := 1, cells := 1, slots := 16, locals := 18 } : Room) #[(.ref b), (.int (0 : Int32)), (.int (Int32.ofNat cs.length))] h0 [] (fun v h => ∃ t ca, v = some (.ref t) ∧ h0.size ≤ t ∧ Ary Z h t ca .byte (lat cs)) := by
  refine enter (plainFor_of_name own_pn_java_lang_StringUTF16) (fun m => own_ef_own_d38 m b (0 : Int32) (Int32.ofNat cs.length)) O (fun _ q => nomatch q) ?_
  intro p e s m below meth c T w
  have hcs : ∀ c ∈ cs, c < 65536 := fun c hc => by have := hL c hc; omega
  refine i_iloadN w own_d38_0 rfl (pc' := 1) rfl ?_
  refine i_newP w own_d38_1 (hw _ (List.mem_of_getElem? (i := 4) rfl)) (N := cs.length) rfl (by omega) (cap := 16) hn (by decide) (by decide) (by decide) (pc' := 3) rfl ?_
  intro d T16 h16 ca_d g_d w16 z_d E16 A_d
  show Goes p e below _ T16 (mkF m 3 #[.val (.ref b), .val (.int (0 : Int32)), .val (.int (Int32.ofNat cs.length)), .unset, .unset, .unset] [(.ref d)])
  have Ab1 := Ab.ext E16
  have lbd : b < d := g_d ▸ Ab.lt
  refine i_astoreN w16 own_d38_3 rfl (l' := #[.val (.ref b), .val (.int (0 : Int32)), .val (.int (Int32.ofNat cs.length)), .val (.ref d), .unset, .unset]) rfl (pc' := 4) rfl ?_
  refine i_aloadN w16 own_d38_4 rfl rfl (pc' := 5) rfl ?_
  refine i_iloadN w16 own_d38_5 rfl (pc' := 6) rfl ?_
  refine i_aloadN w16 own_d38_6 rfl rfl (pc' := 7) rfl ?_
  refine i_iconst w16 own_d38_7 (z := (0 : Int32)) (by decide) (pc' := 8) rfl ?_
  refine i_iloadN w16 own_d38_8 rfl (pc' := 9) rfl ?_
  refine c_static w16 (y := (⟨"java/lang/StringUTF16", "compress", "([CI[BII)I"⟩ : MethodName)) (argsL := [(.ref b), (.int (0 : Int32)), (.ref d), (.int (0 : Int32)), (.int (Int32.ofNat cs.length))]) (st := []) own_d38_9 (hw _ (List.mem_of_getElem? (i := 208) rfl)) (hw _ (List.mem_of_getElem? (i := 209) rfl)) (hw _ (List.mem_of_getElem? (i := 206) rfl)) (hw _ (List.mem_of_getElem? (i := 210) rfl)) (by decide) own_pd_pACIABIIqI rfl (own_cmp5 l Z a0 hw b d cb ca_d cs _ h16 n0 w16.old hcs (by omega) (Nat.ne_of_lt lbd) (Nat.le_trans w16.n0h0 z_d) Ab1 A_d (by simp)) rfl (by decide) (W := 0) (Nat.le_of_eq rfl) (by decide) (by decide) (by decide) (allS (Or.inr z_d) all0) (pc' := 12) rfl ?_
  intro v18 T18 h18 w18 K18 q18
  obtain ⟨j, bs, rfl, hj, ht, hs, Ad, hbl, hbt⟩ := q18
  show Goes p e below _ T18 (mkF m 12 #[.val (.ref b), .val (.int (0 : Int32)), .val (.int (Int32.ofNat cs.length)), .val (.ref d), .unset, .unset] [(.int (Int32.ofNat j))])
  have hjn : j = cs.length := by
    rcases Nat.lt_or_ge j cs.length with q | q
    · have := hs _ (List.getElem?_eq_getElem q); have := hL _ (List.getElem_mem q); omega
    · omega
  subst hjn
  rw [List.take_length, ← hbl, List.take_length] at hbt
  subst hbt
  refine i_istore w18 own_d38_12 (l' := #[.val (.ref b), .val (.int (0 : Int32)), .val (.int (Int32.ofNat cs.length)), .val (.ref d), .val (.int (Int32.ofNat cs.length)), .unset]) rfl (pc' := 14) rfl ?_
  refine i_iload w18 own_d38_14 rfl (pc' := 16) rfl ?_
  refine i_iloadN w18 own_d38_16 rfl (pc' := 17) rfl ?_
  refine i_icmp_eq_Y w18 rfl own_d38_17 (pc' := 57) (by decide) ?_
  refine i_aloadN w18 own_d38_57 rfl rfl (pc' := 58) rfl ?_
  exact i_retA w18 own_d38_58 rfl rfl rfl ⟨d, ca_d, rfl, z_d, Ad⟩ (by decide) (by decide)
theorem own_d40_0 : decode jdk_52_method_15_code 0 = .ok (.iload_n 1, 1) := by decide +kernel
theorem own_d40_1 : decode jdk_52_method_15_code 1 = .ok (.aload_n 0, 1) := by decide +kernel
theorem own_d40_2 : decode jdk_52_method_15_code 2 = .ok (.arraylength, 1) := by decide +kernel
theorem own_d40_3 : decode jdk_52_method_15_code 3 = .ok (.isub, 1) := by decide +kernel
theorem own_d40_4 : decode jdk_52_method_15_code 4 = .ok (.bipush 31, 2) := by decide +kernel
theorem own_d40_6 : decode jdk_52_method_15_code 6 = .ok (.iushr, 1) := by decide +kernel
theorem own_d40_7 : decode jdk_52_method_15_code 7 = .ok (.i2b, 1) := by decide +kernel
theorem own_d40_8 : decode jdk_52_method_15_code 8 = .ok (.ireturn, 1) := by decide +kernel
theorem own_pd_pABIqB : parseMethodDescriptor "([BI)B" = some ⟨[(.array .byte), .int], some .byte⟩ := by decide +kernel
theorem own_ef_own_d40 (m : MethodId) (x0 : Addr) (x1 : Int32) : entryFrame m #[(.ref x0), (.int x1)] 2 = mkF m 0 #[.val (.ref x0), .val (.int x1)] [] := by
  first | (simp [entryFrame, mkF, argsToLocals, Value.category]; done) | rfl
set_option maxRecDepth 65536 in
set_option maxHeartbeats 40000000 in
theorem own_codLen (l : Launch) (Z : State) (a0 : Array Value) (hw : ∀ d ∈ tables_1, d.before a0 Z = true) (t : Addr) (ca : ClassId) (vs : List Value) (x : Int32) (h0 : Heap) (n0 : Nat) (O : Old Z n0 h0) (At : Ary Z h0 t ca .byte vs) :
    Ctr l Z n0 (⟨"java/lang/StringUTF16", "coderFromArrayLen", "([BI)B"⟩ : MethodName) jdk_52_method_15_code 2 (some .byte) [] ({ frames := 0, cells := 0, slots := 0, locals := 0 } : Room) #[(.ref t), (.int x)] h0 [] (fun v h => v = some (.int ((XT.ushr (x - Int32.ofNat vs.length) 31).toInt8.toInt32)) ∧ h0 = h) := by
  refine enter (plainFor_of_name own_pn_java_lang_StringUTF16) (fun m => own_ef_own_d40 m t x) O (fun _ q => nomatch q) ?_
  intro p e s m below meth c T w
  refine i_iloadN w own_d40_0 rfl (pc' := 1) rfl ?_
  refine i_aloadN w own_d40_1 rfl rfl (pc' := 2) rfl ?_
  refine i_len w own_d40_2 At rfl (pc' := 3) rfl ?_
  refine i_isub w own_d40_3 (pc' := 4) rfl ?_
  refine i_bipush w own_d40_4 (z := (31 : Int32)) (by decide) (pc' := 6) rfl ?_
  refine i_iushr w own_d40_6 (pc' := 7) rfl ?_
  refine i_i2b w own_d40_7 (pc' := 8) rfl ?_
  exact i_retN w own_d40_8 rfl (by simp) ⟨by rw [byte_idem], rfl⟩ (by decide) (by decide)
theorem own_d37_0 : decode jdk_42_method_149_code 0 = .ok (.aload_n 0, 1) := by decide +kernel
theorem own_d37_1 : decode jdk_42_method_149_code 1 = .ok (.invokespecial 1, 3) := by decide +kernel
theorem own_d37_4 : decode jdk_42_method_149_code 4 = .ok (.iload_n 3, 1) := by decide +kernel
theorem own_d37_5 : decode jdk_42_method_149_code 5 = .ok (.ifCond .ne 22, 3) := by decide +kernel
theorem own_d37_8 : decode jdk_42_method_149_code 8 = .ok (.aload_n 0, 1) := by decide +kernel
theorem own_d37_9 : decode jdk_42_method_149_code 9 = .ok (.ldc 7, 2) := by decide +kernel
theorem own_d37_11 : decode jdk_42_method_149_code 11 = .ok (.getfield 9, 3) := by decide +kernel
theorem own_d37_14 : decode jdk_42_method_149_code 14 = .ok (.putfield 9, 3) := by decide +kernel
theorem own_d37_17 : decode jdk_42_method_149_code 17 = .ok (.aload_n 0, 1) := by decide +kernel
theorem own_d37_18 : decode jdk_42_method_149_code 18 = .ok (.ldc 7, 2) := by decide +kernel
theorem own_d37_20 : decode jdk_42_method_149_code 20 = .ok (.getfield 15, 3) := by decide +kernel
theorem own_d37_23 : decode jdk_42_method_149_code 23 = .ok (.putfield 15, 3) := by decide +kernel
theorem own_d37_26 : decode jdk_42_method_149_code 26 = .ok (.return_, 1) := by decide +kernel
theorem own_d37_27 : decode jdk_42_method_149_code 27 = .ok (.getstatic 38, 3) := by decide +kernel
theorem own_d37_30 : decode jdk_42_method_149_code 30 = .ok (.ifCond .eq 28, 3) := by decide +kernel
theorem own_d37_33 : decode jdk_42_method_149_code 33 = .ok (.aload_n 1, 1) := by decide +kernel
theorem own_d37_34 : decode jdk_42_method_149_code 34 = .ok (.iload_n 2, 1) := by decide +kernel
theorem own_d37_35 : decode jdk_42_method_149_code 35 = .ok (.iload_n 3, 1) := by decide +kernel
theorem own_d37_36 : decode jdk_42_method_149_code 36 = .ok (.invokestatic 177, 3) := by decide +kernel
theorem own_d37_39 : decode jdk_42_method_149_code 39 = .ok (.astore 5, 2) := by decide +kernel
theorem own_d37_41 : decode jdk_42_method_149_code 41 = .ok (.aload_n 0, 1) := by decide +kernel
theorem own_d37_42 : decode jdk_42_method_149_code 42 = .ok (.aload 5, 2) := by decide +kernel
theorem own_d37_44 : decode jdk_42_method_149_code 44 = .ok (.iload_n 3, 1) := by decide +kernel
theorem own_d37_45 : decode jdk_42_method_149_code 45 = .ok (.invokestatic 47, 3) := by decide +kernel
theorem own_d37_48 : decode jdk_42_method_149_code 48 = .ok (.putfield 15, 3) := by decide +kernel
theorem own_d37_51 : decode jdk_42_method_149_code 51 = .ok (.aload_n 0, 1) := by decide +kernel
theorem own_d37_52 : decode jdk_42_method_149_code 52 = .ok (.aload 5, 2) := by decide +kernel
theorem own_d37_54 : decode jdk_42_method_149_code 54 = .ok (.putfield 9, 3) := by decide +kernel
theorem own_d37_57 : decode jdk_42_method_149_code 57 = .ok (.return_, 1) := by decide +kernel
theorem own_d37_58 : decode jdk_42_method_149_code 58 = .ok (.aload_n 0, 1) := by decide +kernel
theorem own_d37_59 : decode jdk_42_method_149_code 59 = .ok (.iconst 1, 1) := by decide +kernel
theorem own_d37_60 : decode jdk_42_method_149_code 60 = .ok (.putfield 15, 3) := by decide +kernel
theorem own_d37_63 : decode jdk_42_method_149_code 63 = .ok (.aload_n 0, 1) := by decide +kernel
theorem own_d37_64 : decode jdk_42_method_149_code 64 = .ok (.aload_n 1, 1) := by decide +kernel
theorem own_d37_65 : decode jdk_42_method_149_code 65 = .ok (.iload_n 2, 1) := by decide +kernel
theorem own_d37_66 : decode jdk_42_method_149_code 66 = .ok (.iload_n 3, 1) := by decide +kernel
theorem own_d37_67 : decode jdk_42_method_149_code 67 = .ok (.invokestatic 180, 3) := by decide +kernel
theorem own_d37_70 : decode jdk_42_method_149_code 70 = .ok (.putfield 9, 3) := by decide +kernel
theorem own_d37_73 : decode jdk_42_method_149_code 73 = .ok (.return_, 1) := by decide +kernel
theorem own_pd_pACIILjava_lang_VoideqV : parseMethodDescriptor "([CIILjava/lang/Void;)V" = some ⟨[(.array .char), .int, .int, (.object "java/lang/Void")], none⟩ := by decide +kernel
theorem own_ef_own_d37n4 (m : MethodId) (x0 : Addr) (x1 : Addr) (x2 : Int32) (x3 : Int32) : entryFrame m #[(.ref x0), (.ref x1), (.int x2), (.int x3), .null] 6 = mkF m 0 #[.val (.ref x0), .val (.ref x1), .val (.int x2), .val (.int x3), .val .null, .unset] [] := by
  first | (simp [entryFrame, mkF, argsToLocals, Value.category]; done) | rfl
set_option maxRecDepth 65536 in
set_option maxHeartbeats 40000000 in
theorem own_new4 (l : Launch) (Z : State) (a0 : Array Value) (hw : ∀ d ∈ tables_1, d.before a0 Z = true) (a b : Addr) (cb : ClassId) (cs : List Nat) {v0 c0 : Value} (G1 : Int32) (hG : ¬ G1 = 0) (SG : Sta Z Z.heap "java/lang/String" "COMPACT_STRINGS" "Z" (.int G1)) (h0 : Heap) (n0 : Nat) (O : Old Z n0 h0) (ha : n0 ≤ a) (hL : ∀ c ∈ cs, c < 256) (h1 : 0 < cs.length) (hn : cs.length ≤ 16) (Ea : Exa Z h0 a ST) (Fv : Fld Z h0 a ST "value" "[B" v0) (Fc : Fld Z h0 a ST "coder" "B" c0) (Ab : Ary Z h0 b cb .char (chs cs)) :
    Ctr l Z n0 (⟨"java/lang/String", "<init>", "([CIILjava/lang/Void;)V"⟩ : MethodName) jdk_42_method_149_code 6 none [] ({ frames := 2, cells := 1, slots := 16, locals := 35 } : Room) #[(.ref a), (.ref b), (.int (0 : Int32)), (.int (Int32.ofNat cs.length)), .null] h0 [a] (fun v h => v = none ∧ ∃ t ca, h0.size ≤ t ∧ StrL Z h a t ca cs) := by
  refine enter (plainFor_of_name own_pn_java_lang_String) (fun m => own_ef_own_d37n4 m a b (0 : Int32) (Int32.ofNat cs.length)) O (allS ha all0) ?_
  intro p e s m below meth c T w
  refine i_aloadN w own_d37_0 rfl rfl (pc' := 1) rfl ?_
  refine i_initO w own_d37_1 (hw _ (List.mem_of_getElem? (i := 139) rfl)) (hw _ (List.mem_of_getElem? (i := 26) rfl)) (hw _ (List.mem_of_getElem? (i := 27) rfl)) rfl (by decide) (W := 0) (Nat.le_of_eq rfl) (by decide) (pc' := 4) rfl ?_
  intro T20 w20
  show Goes p e below _ T20 (mkF m 4 #[.val (.ref a), .val (.ref b), .val (.int (0 : Int32)), .val (.int (Int32.ofNat cs.length)), .val .null, .unset] [])
  refine i_iloadN w20 own_d37_4 rfl (pc' := 5) rfl ?_
  refine i_if_ne_Y w20 (ofNat_ne0 h1 (by omega)) own_d37_5 (pc' := 27) (by decide) ?_
  refine i_getS w20 own_d37_27 (hw _ (List.mem_of_getElem? (i := 98) rfl)) SG (pc' := 30) rfl ?_
  intro T21 w21
  refine i_if_eq_N w21 hG own_d37_30 (pc' := 33) rfl ?_
  refine i_aloadN w21 own_d37_33 rfl rfl (pc' := 34) rfl ?_
  refine i_iloadN w21 own_d37_34 rfl (pc' := 35) rfl ?_
  refine i_iloadN w21 own_d37_35 rfl (pc' := 36) rfl ?_
  refine c_static w21 (y := (⟨"java/lang/StringUTF16", "compress", "([CII)[B"⟩ : MethodName)) (argsL := [(.ref b), (.int (0 : Int32)), (.int (Int32.ofNat cs.length))]) (st := []) own_d37_36 (hw _ (List.mem_of_getElem? (i := 204) rfl)) (hw _ (List.mem_of_getElem? (i := 205) rfl)) (hw _ (List.mem_of_getElem? (i := 206) rfl)) (hw _ (List.mem_of_getElem? (i := 207) rfl)) (by decide) own_pd_pACIIqAB rfl (own_cmp3 l Z a0 hw b cb cs h0 n0 w21.old hL hn Ab) rfl (by decide) (W := 0) (Nat.le_of_eq rfl) (by decide) (by decide) (by decide) (fun _ q => nomatch q) (pc' := 39) rfl ?_
  intro v22 T22 h22 w22 K22 q22
  obtain ⟨t, ca, rfl, zt, At⟩ := q22
  show Goes p e below _ T22 (mkF m 39 #[.val (.ref a), .val (.ref b), .val (.int (0 : Int32)), .val (.int (Int32.ofNat cs.length)), .val .null, .unset] [(.ref t)])
  have Fv1 := Fv.keep K22 nin0
  have Fc1 := Fc.keep K22 nin0
  have Ea1 := Ea.keep K22
  have lat1 : a < t := Nat.lt_of_lt_of_le Ea.lt zt
  refine i_astore w22 own_d37_39 rfl (l' := #[.val (.ref a), .val (.ref b), .val (.int (0 : Int32)), .val (.int (Int32.ofNat cs.length)), .val .null, .val (.ref t)]) rfl (pc' := 41) rfl ?_
  refine i_aloadN w22 own_d37_41 rfl rfl (pc' := 42) rfl ?_
  refine i_aload w22 own_d37_42 rfl rfl (pc' := 44) rfl ?_
  refine i_iloadN w22 own_d37_44 rfl (pc' := 45) rfl ?_
  refine c_static w22 (y := (⟨"java/lang/StringUTF16", "coderFromArrayLen", "([BI)B"⟩ : MethodName)) (argsL := [(.ref t), (.int (Int32.ofNat cs.length))]) (st := [(.ref a)]) own_d37_45 (hw _ (List.mem_of_getElem? (i := 211) rfl)) (hw _ (List.mem_of_getElem? (i := 212) rfl)) (hw _ (List.mem_of_getElem? (i := 206) rfl)) (hw _ (List.mem_of_getElem? (i := 213) rfl)) (by decide) own_pd_pABIqB rfl (own_codLen l Z a0 hw t ca (lat cs) (Int32.ofNat cs.length) h22 n0 w22.old At) rfl (by decide) (W := 1) (Nat.le_of_eq rfl) (by decide) (by decide) (by decide) (fun _ q => nomatch q) (pc' := 48) rfl ?_
  intro v24 T24 h24 w24 K24 q24
  obtain ⟨rfl, rfl⟩ := q24
  show Goes p e below _ T24 (mkF m 48 #[.val (.ref a), .val (.ref b), .val (.int (0 : Int32)), .val (.int (Int32.ofNat cs.length)), .val .null, .val (.ref t)] [(.int (XT.ushr (Int32.ofNat cs.length - Int32.ofNat (lat cs).length) 31).toInt8.toInt32), (.ref a)])
  rw [lat_len, cod0]
  show Goes p e below _ T24 (mkF m 48 #[.val (.ref a), .val (.ref b), .val (.int (0 : Int32)), .val (.int (Int32.ofNat cs.length)), .val .null, .val (.ref t)] [(.int (0 : Int32)), (.ref a)])
  refine i_putF w24 own_d37_48 (hw _ (List.mem_of_getElem? (i := 99) rfl)) Fc1 Ea1 (Or.inr ⟨(hw _ (List.mem_of_getElem? (i := 6) rfl)), rfl, rfl⟩) (hw _ (List.mem_of_getElem? (i := 3) rfl)) (ty := .byte) (by decide) rfl rfl (Or.inl (List.mem_singleton.mpr rfl)) (pc' := 51) rfl ?_
  intro T25 h25 w25 W25
  show Goes p e below _ T25 (mkF m 51 #[.val (.ref a), .val (.ref b), .val (.int (0 : Int32)), .val (.int (Int32.ofNat cs.length)), .val .null, .val (.ref t)] [])
  have Fc2 := Fld.same W25 Fc1
  have Fv2 := Fv1.other W25 (Or.inr (slot_ne (Or.inr (hw _ (List.mem_of_getElem? (i := 5) rfl))) (Or.inr (hw _ (List.mem_of_getElem? (i := 6) rfl))) (by decide) (t := (.array .byte)) (t' := .byte) (by decide) (by decide)))
  have Ea2 := Ea1.wr W25
  have At2 := At.other W25 (Nat.ne_of_gt lat1)
  refine i_aloadN w25 own_d37_51 rfl rfl (pc' := 52) rfl ?_
  refine i_aload w25 own_d37_52 rfl rfl (pc' := 54) rfl ?_
  refine i_putF w25 own_d37_54 (hw _ (List.mem_of_getElem? (i := 92) rfl)) Fv2 Ea2 (Or.inr ⟨(hw _ (List.mem_of_getElem? (i := 5) rfl)), rfl, rfl⟩) (hw _ (List.mem_of_getElem? (i := 3) rfl)) (ty := (.array .byte)) (by decide) rfl rfl (Or.inl (List.mem_singleton.mpr rfl)) (pc' := 57) rfl ?_
  intro T26 h26 w26 W26
  show Goes p e below _ T26 (mkF m 57 #[.val (.ref a), .val (.ref b), .val (.int (0 : Int32)), .val (.int (Int32.ofNat cs.length)), .val .null, .val (.ref t)] [])
  have Fv3 := Fld.same W26 Fv2
  have Fc3 := Fc2.other W26 (Or.inr (slot_ne (Or.inr (hw _ (List.mem_of_getElem? (i := 6) rfl))) (Or.inr (hw _ (List.mem_of_getElem? (i := 5) rfl))) (by decide) (t := .byte) (t' := (.array .byte)) (by decide) (by decide)))
  have Ea3 := Ea2.wr W26
  have At3 := At2.other W26 (Nat.ne_of_gt lat1)
  exact i_ret0 w26 own_d37_57 rfl ⟨rfl, t, ca, zt, Ea3, Fv3, Fc3, At3, hL⟩ (by decide) (by decide)
theorem own_d36_0 : decode jdk_42_method_3_code 0 = .ok (.aload_n 0, 1) := by decide +kernel
theorem own_d36_1 : decode jdk_42_method_3_code 1 = .ok (.aload_n 1, 1) := by decide +kernel
theorem own_d36_2 : decode jdk_42_method_3_code 2 = .ok (.iconst 0, 1) := by decide +kernel
theorem own_d36_3 : decode jdk_42_method_3_code 3 = .ok (.aload_n 1, 1) := by decide +kernel
theorem own_d36_4 : decode jdk_42_method_3_code 4 = .ok (.arraylength, 1) := by decide +kernel
theorem own_d36_5 : decode jdk_42_method_3_code 5 = .ok (.aconst_null, 1) := by decide +kernel
theorem own_d36_6 : decode jdk_42_method_3_code 6 = .ok (.invokespecial 27, 3) := by decide +kernel
theorem own_d36_9 : decode jdk_42_method_3_code 9 = .ok (.return_, 1) := by decide +kernel
theorem own_pd_pACqV : parseMethodDescriptor "([C)V" = some ⟨[(.array .char)], none⟩ := by decide +kernel
theorem own_ef_own_d36 (m : MethodId) (x0 : Addr) (x1 : Addr) : entryFrame m #[(.ref x0), (.ref x1)] 2 = mkF m 0 #[.val (.ref x0), .val (.ref x1)] [] := by
  first | (simp [entryFrame, mkF, argsToLocals, Value.category]; done) | rfl
set_option maxRecDepth 65536 in
set_option maxHeartbeats 40000000 in
theorem own_new1 (l : Launch) (Z : State) (a0 : Array Value) (hw : ∀ d ∈ tables_1, d.before a0 Z = true) (a b : Addr) (cb : ClassId) (cs : List Nat) {v0 c0 : Value} (G1 : Int32) (hG : ¬ G1 = 0) (SG : Sta Z Z.heap "java/lang/String" "COMPACT_STRINGS" "Z" (.int G1)) (h0 : Heap) (n0 : Nat) (O : Old Z n0 h0) (ha : n0 ≤ a) (hL : ∀ c ∈ cs, c < 256) (h1 : 0 < cs.length) (hn : cs.length ≤ 16) (Ea : Exa Z h0 a ST) (Fv : Fld Z h0 a ST "value" "[B" v0) (Fc : Fld Z h0 a ST "coder" "B" c0) (Ab : Ary Z h0 b cb .char (chs cs)) :
    Ctr l Z n0 (⟨"java/lang/String", "<init>", "([C)V"⟩ : MethodName) jdk_42_method_3_code 2 none [] ({ frames := 3, cells := 1, slots := 16, locals := 52 } : Room) #[(.ref a), (.ref b)] h0 [a] (fun v h => v = none ∧ ∃ t ca, h0.size ≤ t ∧ StrL Z h a t ca cs) := by
  refine enter (plainFor_of_name own_pn_java_lang_String) (fun m => own_ef_own_d36 m a b) O (allS ha all0) ?_
  intro p e s m below meth c T w
  refine i_aloadN w own_d36_0 rfl rfl (pc' := 1) rfl ?_
  refine i_aloadN w own_d36_1 rfl rfl (pc' := 2) rfl ?_
  refine i_iconst w own_d36_2 (z := (0 : Int32)) (by decide) (pc' := 3) rfl ?_
  refine i_aloadN w own_d36_3 rfl rfl (pc' := 4) rfl ?_
  refine i_len w own_d36_4 Ab (z := Int32.ofNat cs.length) (by rw [chs_len]) (pc' := 5) rfl ?_
  refine i_aconstNull w own_d36_5 (pc' := 6) rfl ?_
  refine c_special w (y := (⟨"java/lang/String", "<init>", "([CIILjava/lang/Void;)V"⟩ : MethodName)) (a := a) (argsL := [(.ref b), (.int (0 : Int32)), (.int (Int32.ofNat cs.length)), .null]) (st := []) own_d36_6 rfl (hw _ (List.mem_of_getElem? (i := 201) rfl)) (hw _ (List.mem_of_getElem? (i := 202) rfl)) (hw _ (List.mem_of_getElem? (i := 2) rfl)) (hw _ (List.mem_of_getElem? (i := 203) rfl)) (by decide) own_pd_pACIILjava_lang_VoideqV rfl (own_new4 l Z a0 hw a b cb cs G1 hG SG h0 n0 w.old ha hL h1 hn Ea Fv Fc Ab) rfl (by decide) (W := 0) (Nat.le_of_eq rfl) (by decide) (by decide) (by decide) (allS (Or.inl (List.mem_singleton.mpr rfl)) all0) (pc' := 9) rfl ?_
  intro v27 T27 h27 w27 K27 q27
  obtain ⟨rfl, t, ca, zt, St⟩ := q27
  show Goes p e below _ T27 (mkF m 9 #[.val (.ref a), .val (.ref b)] [])
  exact i_ret0 w27 own_d36_9 rfl ⟨rfl, t, ca, zt, St⟩ (by decide) (by decide)
theorem own_d15_0 : decode jdk_42_method_152_code 0 = .ok (.getstatic 38, 3) := by decide +kernel
theorem own_d15_3 : decode jdk_42_method_152_code 3 = .ok (.ifCond .eq 10, 3) := by decide +kernel
theorem own_d15_6 : decode jdk_42_method_152_code 6 = .ok (.aload_n 0, 1) := by decide +kernel
theorem own_d15_7 : decode jdk_42_method_152_code 7 = .ok (.getfield 15, 3) := by decide +kernel
theorem own_d15_10 : decode jdk_42_method_152_code 10 = .ok (.goto 4, 3) := by decide +kernel
theorem own_d15_13 : decode jdk_42_method_152_code 13 = .ok (.iconst 1, 1) := by decide +kernel
theorem own_d15_14 : decode jdk_42_method_152_code 14 = .ok (.ireturn, 1) := by decide +kernel
theorem own_pd_pqB : parseMethodDescriptor "()B" = some ⟨[], some .byte⟩ := by decide +kernel
theorem own_ef_own_d15 (m : MethodId) (x0 : Addr) : entryFrame m #[(.ref x0)] 1 = mkF m 0 #[.val (.ref x0)] [] := by
  first | (simp [entryFrame, mkF, argsToLocals, Value.category]; done) | rfl
set_option maxRecDepth 65536 in
set_option maxHeartbeats 40000000 in
theorem own_coder (l : Launch) (Z : State) (a0 : Array Value) (hw : ∀ d ∈ tables_1, d.before a0 Z = true) (a : Addr) (cd : Int32) (G1 : Int32) (hG : ¬ G1 = 0) (SG : Sta Z Z.heap "java/lang/String" "COMPACT_STRINGS" "Z" (.int G1)) (h0 : Heap) (n0 : Nat) (O : Old Z n0 h0) (Fc : Fld Z h0 a ST "coder" "B" (.int cd)) (hcd : cd = 0 ∨ cd = 1) :
    Ctr l Z n0 (⟨"java/lang/String", "coder", "()B"⟩ : MethodName) jdk_42_method_152_code 1 (some .byte) [] ({ frames := 0, cells := 0, slots := 0, locals := 0 } : Room) #[(.ref a)] h0 [] (fun v h => v = some (.int cd) ∧ h0 = h) := by
  refine enter (plainFor_of_name own_pn_java_lang_String) (fun m => own_ef_own_d15 m a) O (fun _ q => nomatch q) ?_
  intro p e s m below meth c T w
  refine i_getS w own_d15_0 (hw _ (List.mem_of_getElem? (i := 98) rfl)) SG (pc' := 3) rfl ?_
  intro T29 w29
  refine i_if_eq_N w29 hG own_d15_3 (pc' := 6) rfl ?_
  refine i_aloadN w29 own_d15_6 rfl rfl (pc' := 7) rfl ?_
  refine i_getF w29 own_d15_7 (hw _ (List.mem_of_getElem? (i := 99) rfl)) Fc (pc' := 10) rfl ?_
  intro T30 w30
  refine i_goto w30 own_d15_10 (pc' := 14) (by decide) ?_
  exact i_retN w30 own_d15_14 rfl (by simp) ⟨by rcases hcd with rfl | rfl <;> rfl, rfl⟩ (by decide) (by decide)
theorem own_d14_0 : decode jdk_42_method_54_code 0 = .ok (.aload_n 0, 1) := by decide +kernel
theorem own_d14_1 : decode jdk_42_method_54_code 1 = .ok (.getfield 9, 3) := by decide +kernel
theorem own_d14_4 : decode jdk_42_method_54_code 4 = .ok (.arraylength, 1) := by decide +kernel
theorem own_d14_5 : decode jdk_42_method_54_code 5 = .ok (.aload_n 0, 1) := by decide +kernel
theorem own_d14_6 : decode jdk_42_method_54_code 6 = .ok (.invokevirtual 335, 3) := by decide +kernel
theorem own_d14_9 : decode jdk_42_method_54_code 9 = .ok (.ishr, 1) := by decide +kernel
theorem own_d14_10 : decode jdk_42_method_54_code 10 = .ok (.ireturn, 1) := by decide +kernel
theorem own_pd_pqI : parseMethodDescriptor "()I" = some ⟨[], some .int⟩ := by decide +kernel
theorem own_ef_own_d14 (m : MethodId) (x0 : Addr) : entryFrame m #[(.ref x0)] 1 = mkF m 0 #[.val (.ref x0)] [] := by
  first | (simp [entryFrame, mkF, argsToLocals, Value.category]; done) | rfl
set_option maxRecDepth 65536 in
set_option maxHeartbeats 40000000 in
theorem own_length (l : Launch) (Z : State) (a0 : Array Value) (hw : ∀ d ∈ tables_1, d.before a0 Z = true) (a t : Addr) (ca : ClassId) (cs : List Nat) (G1 : Int32) (hG : ¬ G1 = 0) (SG : Sta Z Z.heap "java/lang/String" "COMPACT_STRINGS" "Z" (.int G1)) (h0 : Heap) (n0 : Nat) (O : Old Z n0 h0) (S : Str Z h0 a t ca cs) :
    Ctr l Z n0 (⟨"java/lang/String", "length", "()I"⟩ : MethodName) jdk_42_method_54_code 1 (some .int) [] ({ frames := 1, cells := 0, slots := 0, locals := 13 } : Room) #[(.ref a)] h0 [] (fun v h => v = some (.int (Int32.ofNat cs.length)) ∧ h0 = h) := by
  refine enter (plainFor_of_name own_pn_java_lang_String) (fun m => own_ef_own_d14 m a) O (fun _ q => nomatch q) ?_
  intro p e s m below meth c T w
  refine i_aloadN w own_d14_0 rfl rfl (pc' := 1) rfl ?_
  obtain ⟨vs, cd, Fc, At, hcd, hln, -, -⟩ := S.raw
  refine i_getF w own_d14_1 (hw _ (List.mem_of_getElem? (i := 92) rfl)) S.val (pc' := 4) rfl ?_
  intro T31 w31
  refine i_len w31 own_d14_4 At rfl (pc' := 5) rfl ?_
  refine i_aloadN w31 own_d14_5 rfl rfl (pc' := 6) rfl ?_
  refine c_virtual w31 (y := (⟨"java/lang/String", "coder", "()B"⟩ : MethodName)) (C := "java/lang/String") (a := a) (argsL := []) (st := [(.int (Int32.ofNat vs.length))]) own_d14_6 (hw _ (List.mem_of_getElem? (i := 93) rfl)) (hw _ (List.mem_of_getElem? (i := 94) rfl)) (hw _ (List.mem_of_getElem? (i := 96) rfl)) (hw _ (List.mem_of_getElem? (i := 95) rfl)) (hw _ (List.mem_of_getElem? (i := 97) rfl)) (hw _ (List.mem_of_getElem? (i := 2) rfl)) (by decide) own_pd_pqB rfl S.exa (own_coder l Z a0 hw a cd G1 hG SG h0 n0 w31.old Fc hcd) rfl (by decide) (W := 1) (Nat.le_of_eq rfl) (by decide) (by decide) (by decide) (fun _ q => nomatch q) (pc' := 9) rfl ?_
  intro v32 T32 h32 w32 K32 q32
  obtain ⟨rfl, rfl⟩ := q32
  show Goes p e below _ T32 (mkF m 9 #[.val (.ref a)] [(.int cd), (.int (Int32.ofNat vs.length))])
  refine i_ishr w32 own_d14_9 (pc' := 10) rfl ?_
  exact i_retI w32 own_d14_10 rfl ⟨by rw [hln], rfl⟩ (by decide) (by decide)
theorem own_d32_0 : decode jdk_42_method_154_code 0 = .ok (.getstatic 38, 3) := by decide +kernel
theorem own_d32_3 : decode jdk_42_method_154_code 3 = .ok (.ifCond .eq 14, 3) := by decide +kernel
theorem own_d32_6 : decode jdk_42_method_154_code 6 = .ok (.aload_n 0, 1) := by decide +kernel
theorem own_d32_7 : decode jdk_42_method_154_code 7 = .ok (.getfield 15, 3) := by decide +kernel
theorem own_d32_10 : decode jdk_42_method_154_code 10 = .ok (.ifCond .ne 7, 3) := by decide +kernel
theorem own_d32_13 : decode jdk_42_method_154_code 13 = .ok (.iconst 1, 1) := by decide +kernel
theorem own_d32_14 : decode jdk_42_method_154_code 14 = .ok (.goto 4, 3) := by decide +kernel
theorem own_d32_17 : decode jdk_42_method_154_code 17 = .ok (.iconst 0, 1) := by decide +kernel
theorem own_d32_18 : decode jdk_42_method_154_code 18 = .ok (.ireturn, 1) := by decide +kernel
theorem own_pd_pqZ : parseMethodDescriptor "()Z" = some ⟨[], some .boolean⟩ := by decide +kernel
theorem own_ef_own_d32 (m : MethodId) (x0 : Addr) : entryFrame m #[(.ref x0)] 1 = mkF m 0 #[.val (.ref x0)] [] := by
  first | (simp [entryFrame, mkF, argsToLocals, Value.category]; done) | rfl
set_option maxRecDepth 65536 in
set_option maxHeartbeats 40000000 in
theorem own_isLatin1 (l : Launch) (Z : State) (a0 : Array Value) (hw : ∀ d ∈ tables_1, d.before a0 Z = true) (a : Addr) (cd : Int32) (G1 : Int32) (hG : ¬ G1 = 0) (SG : Sta Z Z.heap "java/lang/String" "COMPACT_STRINGS" "Z" (.int G1)) (h0 : Heap) (n0 : Nat) (O : Old Z n0 h0) (Fc : Fld Z h0 a ST "coder" "B" (.int cd)) :
    Ctr l Z n0 (⟨"java/lang/String", "isLatin1", "()Z"⟩ : MethodName) jdk_42_method_154_code 1 (some .boolean) [] ({ frames := 0, cells := 0, slots := 0, locals := 0 } : Room) #[(.ref a)] h0 [] (fun v h => v = some (.int (if cd = 0 then 1 else 0)) ∧ h0 = h) := by
  refine enter (plainFor_of_name own_pn_java_lang_String) (fun m => own_ef_own_d32 m a) O (fun _ q => nomatch q) ?_
  intro p e s m below meth c T w
  refine i_getS w own_d32_0 (hw _ (List.mem_of_getElem? (i := 98) rfl)) SG (pc' := 3) rfl ?_
  intro T33 w33
  refine i_if_eq_N w33 hG own_d32_3 (pc' := 6) rfl ?_
  refine i_aloadN w33 own_d32_6 rfl rfl (pc' := 7) rfl ?_
  refine i_getF w33 own_d32_7 (hw _ (List.mem_of_getElem? (i := 99) rfl)) Fc (pc' := 10) rfl ?_
  intro T34 w34
  refine i_if_ne w34 own_d32_10 (pcY := 17) (by decide) (pc' := 13) rfl (fun hc10 => ?_) (fun hc10 => ?_)
  ·
    refine i_iconst w34 own_d32_17 (z := (0 : Int32)) (by decide) (pc' := 18) rfl ?_
    exact i_retN w34 own_d32_18 rfl (by simp) ⟨by rw [if_neg hc10]; rfl, rfl⟩ (by decide) (by decide)
  ·
    refine i_iconst w34 own_d32_13 (z := (1 : Int32)) (by decide) (pc' := 14) rfl ?_
    refine i_goto w34 own_d32_14 (pc' := 18) (by decide) ?_
    exact i_retN w34 own_d32_18 rfl (by simp) ⟨by rw [if_pos hc10]; rfl, rfl⟩ (by decide) (by decide)
theorem own_d35_0 : decode jdk_41_method_11_code 0 = .ok (.iload_n 0, 1) := by decide +kernel
theorem own_d35_1 : decode jdk_41_method_11_code 1 = .ok (.ifCond .lt 8, 3) := by decide +kernel
theorem own_d35_4 : decode jdk_41_method_11_code 4 = .ok (.iload_n 0, 1) := by decide +kernel
theorem own_d35_5 : decode jdk_41_method_11_code 5 = .ok (.iload_n 1, 1) := by decide +kernel
theorem own_d35_6 : decode jdk_41_method_11_code 6 = .ok (.if_icmp .lt 10, 3) := by decide +kernel
theorem own_d35_9 : decode jdk_41_method_11_code 9 = .ok (.aload_n 2, 1) := by decide +kernel
theorem own_d35_10 : decode jdk_41_method_11_code 10 = .ok (.iload_n 0, 1) := by decide +kernel
theorem own_d35_11 : decode jdk_41_method_11_code 11 = .ok (.iload_n 1, 1) := by decide +kernel
theorem own_d35_12 : decode jdk_41_method_11_code 12 = .ok (.invokestatic 95, 3) := by decide +kernel
theorem own_d35_15 : decode jdk_41_method_11_code 15 = .ok (.athrow, 1) := by decide +kernel
theorem own_d35_16 : decode jdk_41_method_11_code 16 = .ok (.iload_n 0, 1) := by decide +kernel
theorem own_d35_17 : decode jdk_41_method_11_code 17 = .ok (.ireturn, 1) := by decide +kernel
theorem own_pn_jdk_internal_util_Preconditions : plainName "jdk/internal/util/Preconditions" = true := by first | (simp [plainName, overriddenIn]; done) | decide +kernel
theorem own_pd_pIILjava_util_function_BiFunctioneqI : parseMethodDescriptor "(IILjava/util/function/BiFunction;)I" = some ⟨[.int, .int, (.object "java/util/function/BiFunction")], some .int⟩ := by decide +kernel
theorem own_ef_own_d35v2 (m : MethodId) (x0 : Int32) (x1 : Int32) (x2 : Value) (hx2 : x2.isRef = true) : entryFrame m #[(.int x0), (.int x1), x2] 3 = mkF m 0 #[.val (.int x0), .val (.int x1), .val x2] [] := by
  rcases ref_cases hx2 with rfl | ⟨_, rfl⟩ <;> first | (simp [entryFrame, mkF, argsToLocals, Value.category]; done) | rfl
set_option maxRecDepth 65536 in
set_option maxHeartbeats 40000000 in
theorem own_pCheck (l : Launch) (Z : State) (a0 : Array Value) (hw : ∀ d ∈ tables_1, d.before a0 Z = true) (i n : Nat) (fm : Value) (h0 : Heap) (n0 : Nat) (O : Old Z n0 h0) (hi : i < n) (hn : n < 2147483648) (hfm : fm.isRef = true) :
    Ctr l Z n0 (⟨"jdk/internal/util/Preconditions", "checkIndex", "(IILjava/util/function/BiFunction;)I"⟩ : MethodName) jdk_41_method_11_code 3 (some .int) [] ({ frames := 0, cells := 0, slots := 0, locals := 0 } : Room) #[(.int (Int32.ofNat i)), (.int (Int32.ofNat n)), fm] h0 [] (fun v h => v = some (.int (Int32.ofNat i)) ∧ h0 = h) := by
  refine enter (plainFor_of_name own_pn_jdk_internal_util_Preconditions) (fun m => own_ef_own_d35v2 m (Int32.ofNat i) (Int32.ofNat n) fm hfm) O (fun _ q => nomatch q) ?_
  intro p e s m below meth c T w
  refine i_iloadN w own_d35_0 rfl (pc' := 1) rfl ?_
  refine i_if_lt_N w (nonneg_ofNat (by omega)) own_d35_1 (pc' := 4) rfl ?_
  refine i_iloadN w own_d35_4 rfl (pc' := 5) rfl ?_
  refine i_iloadN w own_d35_5 rfl (pc' := 6) rfl ?_
  refine i_icmp_lt_Y w ((lt_nat (by omega) (by omega)).mpr hi) own_d35_6 (pc' := 16) (by decide) ?_
  refine i_iloadN w own_d35_16 rfl (pc' := 17) rfl ?_
  exact i_retI w own_d35_17 rfl ⟨rfl, rfl⟩ (by decide) (by decide)
theorem own_d34_0 : decode jdk_42_method_155_code 0 = .ok (.iload_n 0, 1) := by decide +kernel
theorem own_d34_1 : decode jdk_42_method_155_code 1 = .ok (.iload_n 1, 1) := by decide +kernel
theorem own_d34_2 : decode jdk_42_method_155_code 2 = .ok (.getstatic 1053, 3) := by decide +kernel
theorem own_d34_5 : decode jdk_42_method_155_code 5 = .ok (.invokestatic 1059, 3) := by decide +kernel
theorem own_d34_8 : decode jdk_42_method_155_code 8 = .ok (.pop, 1) := by decide +kernel
theorem own_d34_9 : decode jdk_42_method_155_code 9 = .ok (.return_, 1) := by decide +kernel
theorem own_pd_pIIqV : parseMethodDescriptor "(II)V" = some ⟨[.int, .int], none⟩ := by decide +kernel
theorem own_ef_own_d34 (m : MethodId) (x0 : Int32) (x1 : Int32) : entryFrame m #[(.int x0), (.int x1)] 2 = mkF m 0 #[.val (.int x0), .val (.int x1)] [] := by
  first | (simp [entryFrame, mkF, argsToLocals, Value.category]; done) | rfl
set_option maxRecDepth 65536 in
set_option maxHeartbeats 40000000 in
theorem own_sCheck (l : Launch) (Z : State) (a0 : Array Value) (hw : ∀ d ∈ tables_1, d.before a0 Z = true) (i n : Nat) (G3 : Value) (hG3 : G3.isRef = true) (SF : Sta Z Z.heap "jdk/internal/util/Preconditions" "SIOOBE_FORMATTER" "Ljava/util/function/BiFunction;" G3) (h0 : Heap) (n0 : Nat) (O : Old Z n0 h0) (hi : i < n) (hn : n < 2147483648) :
    Ctr l Z n0 (⟨"java/lang/String", "checkIndex", "(II)V"⟩ : MethodName) jdk_42_method_155_code 2 none [] ({ frames := 1, cells := 0, slots := 0, locals := 14 } : Room) #[(.int (Int32.ofNat i)), (.int (Int32.ofNat n))] h0 [] (fun v h => v = none ∧ h0 = h) := by
  refine enter (plainFor_of_name own_pn_java_lang_String) (fun m => own_ef_own_d34 m (Int32.ofNat i) (Int32.ofNat n)) O (fun _ q => nomatch q) ?_
  intro p e s m below meth c T w
  refine i_iloadN w own_d34_0 rfl (pc' := 1) rfl ?_
  refine i_iloadN w own_d34_1 rfl (pc' := 2) rfl ?_
  refine i_getS w own_d34_2 (hw _ (List.mem_of_getElem? (i := 193) rfl)) SF (pc' := 5) rfl ?_
  intro T35 w35
  refine c_static w35 (y := (⟨"jdk/internal/util/Preconditions", "checkIndex", "(IILjava/util/function/BiFunction;)I"⟩ : MethodName)) (argsL := [(.int (Int32.ofNat i)), (.int (Int32.ofNat n)), G3]) (st := []) own_d34_5 (hw _ (List.mem_of_getElem? (i := 195) rfl)) (hw _ (List.mem_of_getElem? (i := 196) rfl)) (hw _ (List.mem_of_getElem? (i := 194) rfl)) (hw _ (List.mem_of_getElem? (i := 197) rfl)) (by decide) own_pd_pIILjava_util_function_BiFunctioneqI rfl (own_pCheck l Z a0 hw i n G3 h0 n0 w35.old hi hn hG3) rfl (by decide) (W := 0) (Nat.le_of_eq rfl) (by decide) (by decide) (by decide) (fun _ q => nomatch q) (pc' := 8) rfl ?_
  intro v36 T36 h36 w36 K36 q36
  obtain ⟨rfl, rfl⟩ := q36
  show Goes p e below _ T36 (mkF m 8 #[.val (.int (Int32.ofNat i)), .val (.int (Int32.ofNat n))] [(.int (Int32.ofNat i))])
  refine i_pop w36 own_d34_8 rfl (pc' := 9) rfl ?_
  exact i_ret0 w36 own_d34_9 rfl ⟨rfl, rfl⟩ (by decide) (by decide)
theorem own_d33_0 : decode jdk_43_method_2_code 0 = .ok (.iload_n 1, 1) := by decide +kernel
theorem own_d33_1 : decode jdk_43_method_2_code 1 = .ok (.aload_n 0, 1) := by decide +kernel
theorem own_d33_2 : decode jdk_43_method_2_code 2 = .ok (.arraylength, 1) := by decide +kernel
theorem own_d33_3 : decode jdk_43_method_2_code 3 = .ok (.invokestatic 9, 3) := by decide +kernel
theorem own_d33_6 : decode jdk_43_method_2_code 6 = .ok (.aload_n 0, 1) := by decide +kernel
theorem own_d33_7 : decode jdk_43_method_2_code 7 = .ok (.iload_n 1, 1) := by decide +kernel
theorem own_d33_8 : decode jdk_43_method_2_code 8 = .ok (.baload, 1) := by decide +kernel
theorem own_d33_9 : decode jdk_43_method_2_code 9 = .ok (.sipush 255, 3) := by decide +kernel
theorem own_d33_12 : decode jdk_43_method_2_code 12 = .ok (.iand, 1) := by decide +kernel
theorem own_d33_13 : decode jdk_43_method_2_code 13 = .ok (.i2c, 1) := by decide +kernel
theorem own_d33_14 : decode jdk_43_method_2_code 14 = .ok (.ireturn, 1) := by decide +kernel
theorem own_pd_pABIqC : parseMethodDescriptor "([BI)C" = some ⟨[(.array .byte), .int], some .char⟩ := by decide +kernel
theorem own_ef_own_d33 (m : MethodId) (x0 : Addr) (x1 : Int32) : entryFrame m #[(.ref x0), (.int x1)] 2 = mkF m 0 #[.val (.ref x0), .val (.int x1)] [] := by
  first | (simp [entryFrame, mkF, argsToLocals, Value.category]; done) | rfl
set_option maxRecDepth 65536 in
set_option maxHeartbeats 40000000 in
theorem own_lCharAt (l : Launch) (Z : State) (a0 : Array Value) (hw : ∀ d ∈ tables_1, d.before a0 Z = true) (t : Addr) (ca : ClassId) (cs : List Nat) (i k : Nat) (G3 : Value) (hG3 : G3.isRef = true) (SF : Sta Z Z.heap "jdk/internal/util/Preconditions" "SIOOBE_FORMATTER" "Ljava/util/function/BiFunction;" G3) (h0 : Heap) (n0 : Nat) (O : Old Z n0 h0) (At : Ary Z h0 t ca .byte (lat cs)) (hci : cs[i]? = some k) (hk : k < 256) :
    Ctr l Z n0 (⟨"java/lang/StringLatin1", "charAt", "([BI)C"⟩ : MethodName) jdk_43_method_2_code 2 (some .char) [] ({ frames := 2, cells := 0, slots := 0, locals := 27 } : Room) #[(.ref t), (.int (Int32.ofNat i))] h0 [] (fun v h => v = some (.int (Int32.ofNat k)) ∧ h0 = h) := by
  refine enter (plainFor_of_name own_pn_java_lang_StringLatin1) (fun m => own_ef_own_d33 m t (Int32.ofNat i)) O (fun _ q => nomatch q) ?_
  intro p e s m below meth c T w
  refine i_iloadN w own_d33_0 rfl (pc' := 1) rfl ?_
  refine i_aloadN w own_d33_1 rfl rfl (pc' := 2) rfl ?_
  refine i_len w own_d33_2 At (z := Int32.ofNat cs.length) (by rw [lat_len]) (pc' := 3) rfl ?_
  refine c_static w (y := (⟨"java/lang/String", "checkIndex", "(II)V"⟩ : MethodName)) (argsL := [(.int (Int32.ofNat i)), (.int (Int32.ofNat cs.length))]) (st := []) own_d33_3 (hw _ (List.mem_of_getElem? (i := 190) rfl)) (hw _ (List.mem_of_getElem? (i := 191) rfl)) (hw _ (List.mem_of_getElem? (i := 2) rfl)) (hw _ (List.mem_of_getElem? (i := 192) rfl)) (by decide) own_pd_pIIqV rfl (own_sCheck l Z a0 hw i cs.length G3 hG3 SF h0 n0 w.old (List.getElem?_eq_some_iff.mp hci).1 (by have := At.1; rw [lat_len] at this; exact this)) rfl (by decide) (W := 0) (Nat.le_of_eq rfl) (by decide) (by decide) (by decide) (fun _ q => nomatch q) (pc' := 6) rfl ?_
  intro v37 T37 h37 w37 K37 q37
  obtain ⟨rfl, rfl⟩ := q37
  show Goes p e below _ T37 (mkF m 6 #[.val (.ref t), .val (.int (Int32.ofNat i))] [])
  refine i_aloadN w37 own_d33_6 rfl rfl (pc' := 7) rfl ?_
  refine i_iloadN w37 own_d33_7 rfl (pc' := 8) rfl ?_
  refine i_baload w37 own_d33_8 At rfl (lat_at hci) (pc' := 9) rfl ?_
  refine i_sipush w37 own_d33_9 (z := (255 : Int32)) (by decide) (pc' := 12) rfl ?_
  refine i_iand w37 own_d33_12 (pc' := 13) rfl ?_
  refine i_i2c w37 own_d33_13 (pc' := 14) rfl ?_
  exact i_retN w37 own_d33_14 rfl (by simp) ⟨by rw [char_idem, bv_char hk], rfl⟩ (by decide) (by decide)
theorem own_d31_0 : decode jdk_42_method_56_code 0 = .ok (.aload_n 0, 1) := by decide +kernel
theorem own_d31_1 : decode jdk_42_method_56_code 1 = .ok (.invokevirtual 492, 3) := by decide +kernel
theorem own_d31_4 : decode jdk_42_method_56_code 4 = .ok (.ifCond .eq 12, 3) := by decide +kernel
theorem own_d31_7 : decode jdk_42_method_56_code 7 = .ok (.aload_n 0, 1) := by decide +kernel
theorem own_d31_8 : decode jdk_42_method_56_code 8 = .ok (.getfield 9, 3) := by decide +kernel
theorem own_d31_11 : decode jdk_42_method_56_code 11 = .ok (.iload_n 1, 1) := by decide +kernel
theorem own_d31_12 : decode jdk_42_method_56_code 12 = .ok (.invokestatic 495, 3) := by decide +kernel
theorem own_d31_15 : decode jdk_42_method_56_code 15 = .ok (.ireturn, 1) := by decide +kernel
theorem own_d31_16 : decode jdk_42_method_56_code 16 = .ok (.aload_n 0, 1) := by decide +kernel
theorem own_d31_17 : decode jdk_42_method_56_code 17 = .ok (.getfield 9, 3) := by decide +kernel
theorem own_d31_20 : decode jdk_42_method_56_code 20 = .ok (.iload_n 1, 1) := by decide +kernel
theorem own_d31_21 : decode jdk_42_method_56_code 21 = .ok (.invokestatic 498, 3) := by decide +kernel
theorem own_d31_24 : decode jdk_42_method_56_code 24 = .ok (.ireturn, 1) := by decide +kernel
theorem own_pd_pIqC : parseMethodDescriptor "(I)C" = some ⟨[.int], some .char⟩ := by decide +kernel
theorem own_ef_own_d31 (m : MethodId) (x0 : Addr) (x1 : Int32) : entryFrame m #[(.ref x0), (.int x1)] 2 = mkF m 0 #[.val (.ref x0), .val (.int x1)] [] := by
  first | (simp [entryFrame, mkF, argsToLocals, Value.category]; done) | rfl
set_option maxRecDepth 65536 in
set_option maxHeartbeats 40000000 in
theorem own_charAt (l : Launch) (Z : State) (a0 : Array Value) (hw : ∀ d ∈ tables_1, d.before a0 Z = true) (a t : Addr) (ca : ClassId) (cs : List Nat) (i k : Nat) (G1 : Int32) (hG : ¬ G1 = 0) (SG : Sta Z Z.heap "java/lang/String" "COMPACT_STRINGS" "Z" (.int G1)) (G3 : Value) (hG3 : G3.isRef = true) (SF : Sta Z Z.heap "jdk/internal/util/Preconditions" "SIOOBE_FORMATTER" "Ljava/util/function/BiFunction;" G3) (h0 : Heap) (n0 : Nat) (O : Old Z n0 h0) (S : StrL Z h0 a t ca cs) (hci : cs[i]? = some k) :
    Ctr l Z n0 (⟨"java/lang/String", "charAt", "(I)C"⟩ : MethodName) jdk_42_method_56_code 2 (some .char) [] ({ frames := 3, cells := 0, slots := 0, locals := 40 } : Room) #[(.ref a), (.int (Int32.ofNat i))] h0 [] (fun v h => v = some (.int (Int32.ofNat k)) ∧ h0 = h) := by
  refine enter (plainFor_of_name own_pn_java_lang_String) (fun m => own_ef_own_d31 m a (Int32.ofNat i)) O (fun _ q => nomatch q) ?_
  intro p e s m below meth c T w
  refine i_aloadN w own_d31_0 rfl rfl (pc' := 1) rfl ?_
  refine c_virtual w (y := (⟨"java/lang/String", "isLatin1", "()Z"⟩ : MethodName)) (C := "java/lang/String") (a := a) (argsL := []) (st := []) own_d31_1 (hw _ (List.mem_of_getElem? (i := 181) rfl)) (hw _ (List.mem_of_getElem? (i := 182) rfl)) (hw _ (List.mem_of_getElem? (i := 184) rfl)) (hw _ (List.mem_of_getElem? (i := 183) rfl)) (hw _ (List.mem_of_getElem? (i := 185) rfl)) (hw _ (List.mem_of_getElem? (i := 2) rfl)) (by decide) own_pd_pqZ rfl S.1 (own_isLatin1 l Z a0 hw a 0 G1 hG SG h0 n0 w.old S.2.2.1) rfl (by decide) (W := 0) (Nat.le_of_eq rfl) (by decide) (by decide) (by decide) (fun _ q => nomatch q) (pc' := 4) rfl ?_
  intro v38 T38 h38 w38 K38 q38
  obtain ⟨rfl, rfl⟩ := q38
  show Goes p e below _ T38 (mkF m 4 #[.val (.ref a), .val (.int (Int32.ofNat i))] [(.int (1 : Int32))])
  refine i_if_eq_N w38 (by decide) own_d31_4 (pc' := 7) rfl ?_
  refine i_aloadN w38 own_d31_7 rfl rfl (pc' := 8) rfl ?_
  refine i_getF w38 own_d31_8 (hw _ (List.mem_of_getElem? (i := 92) rfl)) S.2.1 (pc' := 11) rfl ?_
  intro T39 w39
  refine i_iloadN w39 own_d31_11 rfl (pc' := 12) rfl ?_
  refine c_static w39 (y := (⟨"java/lang/StringLatin1", "charAt", "([BI)C"⟩ : MethodName)) (argsL := [(.ref t), (.int (Int32.ofNat i))]) (st := []) own_d31_12 (hw _ (List.mem_of_getElem? (i := 186) rfl)) (hw _ (List.mem_of_getElem? (i := 187) rfl)) (hw _ (List.mem_of_getElem? (i := 188) rfl)) (hw _ (List.mem_of_getElem? (i := 189) rfl)) (by decide) own_pd_pABIqC rfl (own_lCharAt l Z a0 hw t ca cs i k G3 hG3 SF h0 n0 w39.old S.2.2.2.1 hci (S.2.2.2.2 k (List.mem_of_getElem? hci))) rfl (by decide) (W := 0) (Nat.le_of_eq rfl) (by decide) (by decide) (by decide) (fun _ q => nomatch q) (pc' := 15) rfl ?_
  intro v40 T40 h40 w40 K40 q40
  obtain ⟨rfl, rfl⟩ := q40
  show Goes p e below _ T40 (mkF m 15 #[.val (.ref a), .val (.int (Int32.ofNat i))] [(.int (Int32.ofNat k))])
  exact i_retN w40 own_d31_15 rfl (by simp) ⟨by rw [char_of_nat (Nat.lt_trans (S.2.2.2.2 k (List.mem_of_getElem? hci)) (by omega))], rfl⟩ (by decide) (by decide)
theorem own_d7_0 : decode jdk_42_method_66_code 0 = .ok (.aload_n 0, 1) := by decide +kernel
theorem own_d7_1 : decode jdk_42_method_66_code 1 = .ok (.aload_n 1, 1) := by decide +kernel
theorem own_d7_2 : decode jdk_42_method_66_code 2 = .ok (.if_acmp .ne 5, 3) := by decide +kernel
theorem own_d7_5 : decode jdk_42_method_66_code 5 = .ok (.iconst 1, 1) := by decide +kernel
theorem own_d7_6 : decode jdk_42_method_66_code 6 = .ok (.ireturn, 1) := by decide +kernel
theorem own_d7_7 : decode jdk_42_method_66_code 7 = .ok (.aload_n 1, 1) := by decide +kernel
theorem own_d7_8 : decode jdk_42_method_66_code 8 = .ok (.instanceof 10, 3) := by decide +kernel
theorem own_d7_11 : decode jdk_42_method_66_code 11 = .ok (.ifCond .eq 43, 3) := by decide +kernel
theorem own_d7_14 : decode jdk_42_method_66_code 14 = .ok (.aload_n 1, 1) := by decide +kernel
theorem own_d7_15 : decode jdk_42_method_66_code 15 = .ok (.checkcast 10, 3) := by decide +kernel
theorem own_d7_18 : decode jdk_42_method_66_code 18 = .ok (.astore_n 2, 1) := by decide +kernel
theorem own_d7_19 : decode jdk_42_method_66_code 19 = .ok (.getstatic 38, 3) := by decide +kernel
theorem own_d7_22 : decode jdk_42_method_66_code 22 = .ok (.ifCond .eq 14, 3) := by decide +kernel
theorem own_d7_25 : decode jdk_42_method_66_code 25 = .ok (.aload_n 0, 1) := by decide +kernel
theorem own_d7_26 : decode jdk_42_method_66_code 26 = .ok (.getfield 15, 3) := by decide +kernel
theorem own_d7_29 : decode jdk_42_method_66_code 29 = .ok (.aload_n 2, 1) := by decide +kernel
theorem own_d7_30 : decode jdk_42_method_66_code 30 = .ok (.getfield 15, 3) := by decide +kernel
theorem own_d7_33 : decode jdk_42_method_66_code 33 = .ok (.if_icmp .ne 21, 3) := by decide +kernel
theorem own_d7_36 : decode jdk_42_method_66_code 36 = .ok (.aload_n 0, 1) := by decide +kernel
theorem own_d7_37 : decode jdk_42_method_66_code 37 = .ok (.getfield 9, 3) := by decide +kernel
theorem own_d7_40 : decode jdk_42_method_66_code 40 = .ok (.aload_n 2, 1) := by decide +kernel
theorem own_d7_41 : decode jdk_42_method_66_code 41 = .ok (.getfield 9, 3) := by decide +kernel
theorem own_d7_44 : decode jdk_42_method_66_code 44 = .ok (.invokestatic 541, 3) := by decide +kernel
theorem own_d7_47 : decode jdk_42_method_66_code 47 = .ok (.ifCond .eq 7, 3) := by decide +kernel
theorem own_d7_50 : decode jdk_42_method_66_code 50 = .ok (.iconst 1, 1) := by decide +kernel
theorem own_d7_51 : decode jdk_42_method_66_code 51 = .ok (.goto 4, 3) := by decide +kernel
theorem own_d7_54 : decode jdk_42_method_66_code 54 = .ok (.iconst 0, 1) := by decide +kernel
theorem own_d7_55 : decode jdk_42_method_66_code 55 = .ok (.ireturn, 1) := by decide +kernel
theorem own_pd_pLjava_lang_ObjecteqZ : parseMethodDescriptor "(Ljava/lang/Object;)Z" = some ⟨[(.object "java/lang/Object")], some .boolean⟩ := by decide +kernel
theorem own_ef_own_d7 (m : MethodId) (x0 : Addr) (x1 : Addr) : entryFrame m #[(.ref x0), (.ref x1)] 3 = mkF m 0 #[.val (.ref x0), .val (.ref x1), .unset] [] := by
  first | (simp [entryFrame, mkF, argsToLocals, Value.category]; done) | rfl
set_option maxRecDepth 65536 in
set_option maxHeartbeats 40000000 in
theorem own_equalsSame (l : Launch) (Z : State) (a0 : Array Value) (hw : ∀ d ∈ tables_1, d.before a0 Z = true) (a : Addr) (h0 : Heap) (n0 : Nat) (O : Old Z n0 h0)  :
    Ctr l Z n0 (⟨"java/lang/String", "equals", "(Ljava/lang/Object;)Z"⟩ : MethodName) jdk_42_method_66_code 3 (some .boolean) [] ({ frames := 0, cells := 0, slots := 0, locals := 0 } : Room) #[(.ref a), (.ref a)] h0 [] (fun v h => v = some (.int 1) ∧ h0 = h) := by
  refine enter (plainFor_of_name own_pn_java_lang_String) (fun m => own_ef_own_d7 m a a) O (fun _ q => nomatch q) ?_
  intro p e s m below meth c T w
  refine i_aloadN w own_d7_0 rfl rfl (pc' := 1) rfl ?_
  refine i_aloadN w own_d7_1 rfl rfl (pc' := 2) rfl ?_
  refine i_acmp_ne_N w rfl rfl (by simp [XT.acmp]) own_d7_2 (pc' := 5) rfl ?_
  refine i_iconst w own_d7_5 (z := (1 : Int32)) (by decide) (pc' := 6) rfl ?_
  exact i_retN w own_d7_6 rfl (by simp) ⟨rfl, rfl⟩ (by decide) (by decide)
theorem own_d41_0 : decode jdk_43_method_13_code 0 = .ok (.aload_n 0, 1) := by decide +kernel
theorem own_d41_1 : decode jdk_43_method_13_code 1 = .ok (.arraylength, 1) := by decide +kernel
theorem own_d41_2 : decode jdk_43_method_13_code 2 = .ok (.aload_n 1, 1) := by decide +kernel
theorem own_d41_3 : decode jdk_43_method_13_code 3 = .ok (.arraylength, 1) := by decide +kernel
theorem own_d41_4 : decode jdk_43_method_13_code 4 = .ok (.if_icmp .ne 30, 3) := by decide +kernel
theorem own_d41_7 : decode jdk_43_method_13_code 7 = .ok (.iconst 0, 1) := by decide +kernel
theorem own_d41_8 : decode jdk_43_method_13_code 8 = .ok (.istore_n 2, 1) := by decide +kernel
theorem own_d41_9 : decode jdk_43_method_13_code 9 = .ok (.iload_n 2, 1) := by decide +kernel
theorem own_d41_10 : decode jdk_43_method_13_code 10 = .ok (.aload_n 0, 1) := by decide +kernel
theorem own_d41_11 : decode jdk_43_method_13_code 11 = .ok (.arraylength, 1) := by decide +kernel
theorem own_d41_12 : decode jdk_43_method_13_code 12 = .ok (.if_icmp .ge 20, 3) := by decide +kernel
theorem own_d41_15 : decode jdk_43_method_13_code 15 = .ok (.aload_n 0, 1) := by decide +kernel
theorem own_d41_16 : decode jdk_43_method_13_code 16 = .ok (.iload_n 2, 1) := by decide +kernel
theorem own_d41_17 : decode jdk_43_method_13_code 17 = .ok (.baload, 1) := by decide +kernel
theorem own_d41_18 : decode jdk_43_method_13_code 18 = .ok (.aload_n 1, 1) := by decide +kernel
theorem own_d41_19 : decode jdk_43_method_13_code 19 = .ok (.iload_n 2, 1) := by decide +kernel
theorem own_d41_20 : decode jdk_43_method_13_code 20 = .ok (.baload, 1) := by decide +kernel
theorem own_d41_21 : decode jdk_43_method_13_code 21 = .ok (.if_icmp .eq 5, 3) := by decide +kernel
theorem own_d41_24 : decode jdk_43_method_13_code 24 = .ok (.iconst 0, 1) := by decide +kernel
theorem own_d41_25 : decode jdk_43_method_13_code 25 = .ok (.ireturn, 1) := by decide +kernel
theorem own_d41_26 : decode jdk_43_method_13_code 26 = .ok (.iinc 2 1, 3) := by decide +kernel
theorem own_d41_29 : decode jdk_43_method_13_code 29 = .ok (.goto (-20), 3) := by decide +kernel
theorem own_d41_32 : decode jdk_43_method_13_code 32 = .ok (.iconst 1, 1) := by decide +kernel
theorem own_d41_33 : decode jdk_43_method_13_code 33 = .ok (.ireturn, 1) := by decide +kernel
theorem own_d41_34 : decode jdk_43_method_13_code 34 = .ok (.iconst 0, 1) := by decide +kernel
theorem own_d41_35 : decode jdk_43_method_13_code 35 = .ok (.ireturn, 1) := by decide +kernel
set_option maxRecDepth 65536 in
set_option maxHeartbeats 40000000 in
theorem own_eq_loop (l : Launch) (Z : State) (t u : Addr) (ca cu : ClassId) (cs : List Nat) (h0 : Heap) (n0 : Nat) (At : Ary Z h0 t ca .byte (lat cs)) (Au : Ary Z h0 u cu .byte (lat cs)) {p : Program} {e : Env} {s : State} {m : MethodId} {args : Array Value} {below : List Frame} {meth : Method} {c : Code} {T : State}
    (w : Wk p l e ({ frames := 0, cells := 0, slots := 0, locals := 0 } : Room) s m args below meth c Z "java/lang/StringLatin1" jdk_43_method_13_code 3 (some .boolean) "equals" n0 h0 [] T h0 0 0) (hn : cs.length ≤ 65536) :
    ∀ (j i : Nat), i + j = cs.length → Goes p e below (PN s n0 h0 [] (fun v h => v = some (.int 1) ∧ h0 = h) 0 0) T (mkF m 9 #[.val (.ref t), .val (.ref u), .val (.int (Int32.ofNat i))] []) := by
  intro j
  induction j with
  | zero =>
    intro i hij
    refine i_iloadN w own_d41_9 rfl (pc' := 10) rfl ?_
    refine i_aloadN w own_d41_10 rfl rfl (pc' := 11) rfl ?_
    refine i_len w own_d41_11 At (z := Int32.ofNat cs.length) (by rw [lat_len]) (pc' := 12) rfl ?_
    refine i_icmp_ge_Y w (by rw [show i = cs.length by omega]; exact Int32.lt_irrefl) own_d41_12 (pc' := 32) (by decide) ?_
    refine i_iconst w own_d41_32 (z := (1 : Int32)) (by decide) (pc' := 33) rfl ?_
    exact i_retN w own_d41_33 rfl (by simp) ⟨rfl, rfl⟩ (by decide) (by decide)
  | succ j ih =>
    intro i hij
    obtain ⟨ci, hci⟩ : ∃ ci, cs[i]? = some ci := ⟨_, List.getElem?_eq_getElem (by omega)⟩
    refine i_iloadN w own_d41_9 rfl (pc' := 10) rfl ?_
    refine i_aloadN w own_d41_10 rfl rfl (pc' := 11) rfl ?_
    refine i_len w own_d41_11 At (z := Int32.ofNat cs.length) (by rw [lat_len]) (pc' := 12) rfl ?_
    refine i_icmp_ge_N w ((lt_nat (by omega) (by omega)).mpr (by omega)) own_d41_12 (pc' := 15) rfl ?_
    refine i_aloadN w own_d41_15 rfl rfl (pc' := 16) rfl ?_
    refine i_iloadN w own_d41_16 rfl (pc' := 17) rfl ?_
    refine i_baload w own_d41_17 At rfl (lat_at hci) (pc' := 18) rfl ?_
    refine i_aloadN w own_d41_18 rfl rfl (pc' := 19) rfl ?_
    refine i_iloadN w own_d41_19 rfl (pc' := 20) rfl ?_
    refine i_baload w own_d41_20 Au rfl (lat_at hci) (pc' := 21) rfl ?_
    refine i_icmp_eq_Y w rfl own_d41_21 (pc' := 26) (by decide) ?_
    refine i_iinc w own_d41_26 rfl (z := (Int32.ofNat (i + 1))) (inc_nat i) (l' := #[.val (.ref t), .val (.ref u), .val (.int (Int32.ofNat (i + 1)))]) rfl (pc' := 29) rfl ?_
    refine i_goto w own_d41_29 (pc' := 9) (by decide) ?_
    exact ih (i + 1) (by omega)
theorem own_pd_pABABqZ : parseMethodDescriptor "([B[B)Z" = some ⟨[(.array .byte), (.array .byte)], some .boolean⟩ := by decide +kernel
theorem own_ef_own_d41 (m : MethodId) (x0 : Addr) (x1 : Addr) : entryFrame m #[(.ref x0), (.ref x1)] 3 = mkF m 0 #[.val (.ref x0), .val (.ref x1), .unset] [] := by
  first | (simp [entryFrame, mkF, argsToLocals, Value.category]; done) | rfl
set_option maxRecDepth 65536 in
set_option maxHeartbeats 40000000 in
theorem own_lEq (l : Launch) (Z : State) (a0 : Array Value) (hw : ∀ d ∈ tables_1, d.before a0 Z = true) (t u : Addr) (ca cu : ClassId) (cs : List Nat) (h0 : Heap) (n0 : Nat) (O : Old Z n0 h0) (At : Ary Z h0 t ca .byte (lat cs)) (Au : Ary Z h0 u cu .byte (lat cs)) (hn : cs.length ≤ 65536) :
    Ctr l Z n0 (⟨"java/lang/StringLatin1", "equals", "([B[B)Z"⟩ : MethodName) jdk_43_method_13_code 3 (some .boolean) [] ({ frames := 0, cells := 0, slots := 0, locals := 0 } : Room) #[(.ref t), (.ref u)] h0 [] (fun v h => v = some (.int 1) ∧ h0 = h) := by
  refine enter (plainFor_of_name own_pn_java_lang_StringLatin1) (fun m => own_ef_own_d41 m t u) O (fun _ q => nomatch q) ?_
  intro p e s m below meth c T w
  refine i_aloadN w own_d41_0 rfl rfl (pc' := 1) rfl ?_
  refine i_len w own_d41_1 At (z := Int32.ofNat cs.length) (by rw [lat_len]) (pc' := 2) rfl ?_
  refine i_aloadN w own_d41_2 rfl rfl (pc' := 3) rfl ?_
  refine i_len w own_d41_3 Au (z := Int32.ofNat cs.length) (by rw [lat_len]) (pc' := 4) rfl ?_
  refine i_icmp_ne_N w rfl own_d41_4 (pc' := 7) rfl ?_
  refine i_iconst w own_d41_7 (z := (0 : Int32)) (by decide) (pc' := 8) rfl ?_
  refine i_istoreN w own_d41_8 (l' := #[.val (.ref t), .val (.ref u), .val (.int (0 : Int32))]) rfl (pc' := 9) rfl ?_
  exact own_eq_loop l Z t u ca cu cs h0 n0 At Au w hn cs.length 0 (by omega)
set_option maxRecDepth 65536 in
set_option maxHeartbeats 40000000 in
theorem own_equalsL (l : Launch) (Z : State) (a0 : Array Value) (hw : ∀ d ∈ tables_1, d.before a0 Z = true) (a t b u : Addr) (ca cu : ClassId) (cs : List Nat) (G1 : Int32) (hG : ¬ G1 = 0) (SG : Sta Z Z.heap "java/lang/String" "COMPACT_STRINGS" "Z" (.int G1)) (h0 : Heap) (n0 : Nat) (O : Old Z n0 h0) (S : StrL Z h0 a t ca cs) (S2 : StrL Z h0 b u cu cs) (hn : cs.length ≤ 65536) :
    Ctr l Z n0 (⟨"java/lang/String", "equals", "(Ljava/lang/Object;)Z"⟩ : MethodName) jdk_42_method_66_code 3 (some .boolean) [] ({ frames := 1, cells := 0, slots := 0, locals := 14 } : Room) #[(.ref a), (.ref b)] h0 [] (fun v h => v = some (.int 1) ∧ h0 = h) := by
  refine enter (plainFor_of_name own_pn_java_lang_String) (fun m => own_ef_own_d7 m a b) O (fun _ q => nomatch q) ?_
  intro p e s m below meth c T w
  refine i_aloadN w own_d7_0 rfl rfl (pc' := 1) rfl ?_
  refine i_aloadN w own_d7_1 rfl rfl (pc' := 2) rfl ?_
  by_cases hab : a = b
  ·
    refine i_acmp_ne_N w rfl rfl (by simp [XT.acmp, hab]) own_d7_2 (pc' := 5) rfl ?_
    refine i_iconst w own_d7_5 (z := (1 : Int32)) (by decide) (pc' := 6) rfl ?_
    exact i_retN w own_d7_6 rfl (by simp) ⟨rfl, rfl⟩ (by decide) (by decide)
  ·
    refine i_acmp_ne_Y w rfl rfl (by simp [XT.acmp, hab]) own_d7_2 (pc' := 7) (by decide) ?_
    refine i_aloadN w own_d7_7 rfl rfl (pc' := 8) rfl ?_
    refine i_instY w own_d7_8 (hw _ (List.mem_of_getElem? (i := 215) rfl)) (Ins.self S2.1) (pc' := 11) rfl ?_
    intro T41 w41
    refine i_if_eq_N w41 (by decide) own_d7_11 (pc' := 14) rfl ?_
    refine i_aloadN w41 own_d7_14 rfl rfl (pc' := 15) rfl ?_
    refine i_cast w41 own_d7_15 (hw _ (List.mem_of_getElem? (i := 215) rfl)) (Ins.self S2.1) (pc' := 18) rfl ?_
    intro T42 w42
    refine i_astoreN w42 own_d7_18 rfl (l' := #[.val (.ref a), .val (.ref b), .val (.ref b)]) rfl (pc' := 19) rfl ?_
    refine i_getS w42 own_d7_19 (hw _ (List.mem_of_getElem? (i := 98) rfl)) SG (pc' := 22) rfl ?_
    intro T43 w43
    refine i_if_eq_N w43 hG own_d7_22 (pc' := 25) rfl ?_
    refine i_aloadN w43 own_d7_25 rfl rfl (pc' := 26) rfl ?_
    refine i_getF w43 own_d7_26 (hw _ (List.mem_of_getElem? (i := 99) rfl)) S.2.2.1 (pc' := 29) rfl ?_
    intro T44 w44
    refine i_aloadN w44 own_d7_29 rfl rfl (pc' := 30) rfl ?_
    refine i_getF w44 own_d7_30 (hw _ (List.mem_of_getElem? (i := 99) rfl)) S2.2.2.1 (pc' := 33) rfl ?_
    intro T45 w45
    refine i_icmp_ne_N w45 rfl own_d7_33 (pc' := 36) rfl ?_
    refine i_aloadN w45 own_d7_36 rfl rfl (pc' := 37) rfl ?_
    refine i_getF w45 own_d7_37 (hw _ (List.mem_of_getElem? (i := 92) rfl)) S.2.1 (pc' := 40) rfl ?_
    intro T46 w46
    refine i_aloadN w46 own_d7_40 rfl rfl (pc' := 41) rfl ?_
    refine i_getF w46 own_d7_41 (hw _ (List.mem_of_getElem? (i := 92) rfl)) S2.2.1 (pc' := 44) rfl ?_
    intro T47 w47
    refine c_static w47 (y := (⟨"java/lang/StringLatin1", "equals", "([B[B)Z"⟩ : MethodName)) (argsL := [(.ref t), (.ref u)]) (st := []) own_d7_44 (hw _ (List.mem_of_getElem? (i := 216) rfl)) (hw _ (List.mem_of_getElem? (i := 217) rfl)) (hw _ (List.mem_of_getElem? (i := 188) rfl)) (hw _ (List.mem_of_getElem? (i := 218) rfl)) (by decide) own_pd_pABABqZ rfl (own_lEq l Z a0 hw t u ca cu cs h0 n0 w47.old S.2.2.2.1 S2.2.2.2.1 hn) rfl (by decide) (W := 0) (Nat.le_of_eq rfl) (by decide) (by decide) (by decide) (fun _ q => nomatch q) (pc' := 47) rfl ?_
    intro v48 T48 h48 w48 K48 q48
    obtain ⟨rfl, rfl⟩ := q48
    show Goes p e below _ T48 (mkF m 47 #[.val (.ref a), .val (.ref b), .val (.ref b)] [(.int (1 : Int32))])
    refine i_if_eq_N w48 (by decide) own_d7_47 (pc' := 50) rfl ?_
    refine i_iconst w48 own_d7_50 (z := (1 : Int32)) (by decide) (pc' := 51) rfl ?_
    refine i_goto w48 own_d7_51 (pc' := 55) (by decide) ?_
    exact i_retN w48 own_d7_55 rfl (by simp) ⟨rfl, rfl⟩ (by decide) (by decide)
theorem own_d2_0 : decode jdk_31_method_11_code 0 = .ok (.aload_n 0, 1) := by decide +kernel
theorem own_d2_1 : decode jdk_31_method_11_code 1 = .ok (.ifnonnull 12, 3) := by decide +kernel
theorem own_d2_4 : decode jdk_31_method_11_code 4 = .ok (.new 84, 3) := by decide +kernel
theorem own_d2_7 : decode jdk_31_method_11_code 7 = .ok (.dup, 1) := by decide +kernel
theorem own_d2_8 : decode jdk_31_method_11_code 8 = .ok (.aload_n 1, 1) := by decide +kernel
theorem own_d2_9 : decode jdk_31_method_11_code 9 = .ok (.invokespecial 87, 3) := by decide +kernel
theorem own_d2_12 : decode jdk_31_method_11_code 12 = .ok (.athrow, 1) := by decide +kernel
theorem own_d2_13 : decode jdk_31_method_11_code 13 = .ok (.aload_n 0, 1) := by decide +kernel
theorem own_d2_14 : decode jdk_31_method_11_code 14 = .ok (.areturn, 1) := by decide +kernel
theorem own_pn_java_util_Objects : plainName "java/util/Objects" = true := by first | (simp [plainName, overriddenIn]; done) | decide +kernel
theorem own_pd_pLjava_lang_ObjecteLjava_lang_StringeqLjava_lang_Objecte : parseMethodDescriptor "(Ljava/lang/Object;Ljava/lang/String;)Ljava/lang/Object;" = some ⟨[(.object "java/lang/Object"), (.object "java/lang/String")], some (.object "java/lang/Object")⟩ := by decide +kernel
theorem own_ef_own_d2 (m : MethodId) (x0 : Addr) (x1 : Addr) : entryFrame m #[(.ref x0), (.ref x1)] 2 = mkF m 0 #[.val (.ref x0), .val (.ref x1)] [] := by
  first | (simp [entryFrame, mkF, argsToLocals, Value.category]; done) | rfl
set_option maxRecDepth 65536 in
set_option maxHeartbeats 40000000 in
theorem own_reqNN (l : Launch) (Z : State) (a0 : Array Value) (hw : ∀ d ∈ tables_1, d.before a0 Z = true) (a u : Addr) (h0 : Heap) (n0 : Nat) (O : Old Z n0 h0)  :
    Ctr l Z n0 (⟨"java/util/Objects", "requireNonNull", "(Ljava/lang/Object;Ljava/lang/String;)Ljava/lang/Object;"⟩ : MethodName) jdk_31_method_11_code 2 (some (.object "java/lang/Object")) [] ({ frames := 0, cells := 0, slots := 0, locals := 0 } : Room) #[(.ref a), (.ref u)] h0 [] (fun v h => v = some (.ref a) ∧ h0 = h) := by
  refine enter (plainFor_of_name own_pn_java_util_Objects) (fun m => own_ef_own_d2 m a u) O (fun _ q => nomatch q) ?_
  intro p e s m below meth c T w
  refine i_aloadN w own_d2_0 rfl rfl (pc' := 1) rfl ?_
  refine i_ifnonnull_Y w own_d2_1 (pc' := 13) (by decide) ?_
  refine i_aloadN w own_d2_13 rfl rfl (pc' := 14) rfl ?_
  exact i_retA w own_d2_14 rfl rfl rfl ⟨rfl, rfl⟩ (by decide) (by decide)
theorem own_d29_0 : decode jdk_65_method_131_code 0 = .ok (.iload_n 1, 1) := by decide +kernel
theorem own_d29_1 : decode jdk_65_method_131_code 1 = .ok (.iload_n 0, 1) := by decide +kernel
theorem own_d29_2 : decode jdk_65_method_131_code 2 = .ok (.if_icmp .ge 35, 3) := by decide +kernel
theorem own_d29_5 : decode jdk_65_method_131_code 5 = .ok (.new 43, 3) := by decide +kernel
theorem own_d29_8 : decode jdk_65_method_131_code 8 = .ok (.dup, 1) := by decide +kernel
theorem own_d29_9 : decode jdk_65_method_131_code 9 = .ok (.new 45, 3) := by decide +kernel
theorem own_d29_12 : decode jdk_65_method_131_code 12 = .ok (.dup, 1) := by decide +kernel
theorem own_d29_13 : decode jdk_65_method_131_code 13 = .ok (.invokespecial 47, 3) := by decide +kernel
theorem own_d29_16 : decode jdk_65_method_131_code 16 = .ok (.iload_n 0, 1) := by decide +kernel
theorem own_d29_17 : decode jdk_65_method_131_code 17 = .ok (.invokevirtual 54, 3) := by decide +kernel
theorem own_d29_20 : decode jdk_65_method_131_code 20 = .ok (.ldc_w 337, 3) := by decide +kernel
theorem own_d29_23 : decode jdk_65_method_131_code 23 = .ok (.invokevirtual 50, 3) := by decide +kernel
theorem own_d29_26 : decode jdk_65_method_131_code 26 = .ok (.iload_n 1, 1) := by decide +kernel
theorem own_d29_27 : decode jdk_65_method_131_code 27 = .ok (.invokevirtual 54, 3) := by decide +kernel
theorem own_d29_30 : decode jdk_65_method_131_code 30 = .ok (.invokevirtual 61, 3) := by decide +kernel
theorem own_d29_33 : decode jdk_65_method_131_code 33 = .ok (.invokespecial 65, 3) := by decide +kernel
theorem own_d29_36 : decode jdk_65_method_131_code 36 = .ok (.athrow, 1) := by decide +kernel
theorem own_d29_37 : decode jdk_65_method_131_code 37 = .ok (.return_, 1) := by decide +kernel
theorem own_pn_java_util_Arrays : plainName "java/util/Arrays" = true := by first | (simp [plainName, overriddenIn]; done) | decide +kernel
theorem own_ef_own_d29 (m : MethodId) (x0 : Int32) (x1 : Int32) : entryFrame m #[(.int x0), (.int x1)] 2 = mkF m 0 #[.val (.int x0), .val (.int x1)] [] := by
  first | (simp [entryFrame, mkF, argsToLocals, Value.category]; done) | rfl
set_option maxRecDepth 65536 in
set_option maxHeartbeats 40000000 in
theorem own_chkLen (l : Launch) (Z : State) (a0 : Array Value) (hw : ∀ d ∈ tables_1, d.before a0 Z = true) (i j : Nat) (h0 : Heap) (n0 : Nat) (O : Old Z n0 h0) (hi : i ≤ j) (hn : j < 2147483648) :
    Ctr l Z n0 (⟨"java/util/Arrays", "checkLength", "(II)V"⟩ : MethodName) jdk_65_method_131_code 2 none [] ({ frames := 0, cells := 0, slots := 0, locals := 0 } : Room) #[(.int (Int32.ofNat i)), (.int (Int32.ofNat j))] h0 [] (fun v h => v = none ∧ h0 = h) := by
  refine enter (plainFor_of_name own_pn_java_util_Arrays) (fun m => own_ef_own_d29 m (Int32.ofNat i) (Int32.ofNat j)) O (fun _ q => nomatch q) ?_
  intro p e s m below meth c T w
  refine i_iloadN w own_d29_0 rfl (pc' := 1) rfl ?_
  refine i_iloadN w own_d29_1 rfl (pc' := 2) rfl ?_
  refine i_icmp_ge_Y w (by rw [lt_nat (by omega) (by omega)]; omega) own_d29_2 (pc' := 37) (by decide) ?_
  exact i_ret0 w own_d29_37 rfl ⟨rfl, rfl⟩ (by decide) (by decide)
theorem own_d30_0 : decode jdk_29_method_69_code 0 = .ok (.iload_n 0, 1) := by decide +kernel
theorem own_d30_1 : decode jdk_29_method_69_code 1 = .ok (.iload_n 1, 1) := by decide +kernel
theorem own_d30_2 : decode jdk_29_method_69_code 2 = .ok (.if_icmp .gt 7, 3) := by decide +kernel
theorem own_d30_5 : decode jdk_29_method_69_code 5 = .ok (.iload_n 0, 1) := by decide +kernel
theorem own_d30_6 : decode jdk_29_method_69_code 6 = .ok (.goto 4, 3) := by decide +kernel
theorem own_d30_9 : decode jdk_29_method_69_code 9 = .ok (.iload_n 1, 1) := by decide +kernel
theorem own_d30_10 : decode jdk_29_method_69_code 10 = .ok (.ireturn, 1) := by decide +kernel
theorem own_pf_own_d30 : plainFor (⟨"java/lang/Math", "min", "(II)I"⟩ : MethodName) = true := by decide +kernel
theorem own_pd_pIIqI : parseMethodDescriptor "(II)I" = some ⟨[.int, .int], some .int⟩ := by decide +kernel
theorem own_ef_own_d30 (m : MethodId) (x0 : Int32) (x1 : Int32) : entryFrame m #[(.int x0), (.int x1)] 2 = mkF m 0 #[.val (.int x0), .val (.int x1)] [] := by
  first | (simp [entryFrame, mkF, argsToLocals, Value.category]; done) | rfl
set_option maxRecDepth 65536 in
set_option maxHeartbeats 40000000 in
theorem own_min (l : Launch) (Z : State) (a0 : Array Value) (hw : ∀ d ∈ tables_1, d.before a0 Z = true) (x y : Int32) (h0 : Heap) (n0 : Nat) (O : Old Z n0 h0)  :
    Ctr l Z n0 (⟨"java/lang/Math", "min", "(II)I"⟩ : MethodName) jdk_29_method_69_code 2 (some .int) [] ({ frames := 0, cells := 0, slots := 0, locals := 0 } : Room) #[(.int x), (.int y)] h0 [] (fun v h => v = some (.int (if y < x then y else x)) ∧ h0 = h) := by
  refine enter own_pf_own_d30 (fun m => own_ef_own_d30 m x y) O (fun _ q => nomatch q) ?_
  intro p e s m below meth c T w
  refine i_iloadN w own_d30_0 rfl (pc' := 1) rfl ?_
  refine i_iloadN w own_d30_1 rfl (pc' := 2) rfl ?_
  refine i_icmp_gt w own_d30_2 (pcY := 9) (by decide) (pc' := 5) rfl (fun hc2 => ?_) (fun hc2 => ?_)
  ·
    refine i_iloadN w own_d30_9 rfl (pc' := 10) rfl ?_
    exact i_retI w own_d30_10 rfl ⟨by rw [if_pos hc2], rfl⟩ (by decide) (by decide)
  ·
    refine i_iloadN w own_d30_5 rfl (pc' := 6) rfl ?_
    refine i_goto w own_d30_6 (pc' := 10) (by decide) ?_
    exact i_retI w own_d30_10 rfl ⟨by rw [if_neg hc2], rfl⟩ (by decide) (by decide)
theorem own_d28_0 : decode jdk_65_method_133_code 0 = .ok (.iload_n 1, 1) := by decide +kernel
theorem own_d28_1 : decode jdk_65_method_133_code 1 = .ok (.iload_n 2, 1) := by decide +kernel
theorem own_d28_2 : decode jdk_65_method_133_code 2 = .ok (.invokestatic 343, 3) := by decide +kernel
theorem own_d28_5 : decode jdk_65_method_133_code 5 = .ok (.iload_n 2, 1) := by decide +kernel
theorem own_d28_6 : decode jdk_65_method_133_code 6 = .ok (.iload_n 1, 1) := by decide +kernel
theorem own_d28_7 : decode jdk_65_method_133_code 7 = .ok (.isub, 1) := by decide +kernel
theorem own_d28_8 : decode jdk_65_method_133_code 8 = .ok (.istore_n 3, 1) := by decide +kernel
theorem own_d28_9 : decode jdk_65_method_133_code 9 = .ok (.iload_n 3, 1) := by decide +kernel
theorem own_d28_10 : decode jdk_65_method_133_code 10 = .ok (.newarray .byte, 2) := by decide +kernel
theorem own_d28_12 : decode jdk_65_method_133_code 12 = .ok (.astore 4, 2) := by decide +kernel
theorem own_d28_14 : decode jdk_65_method_133_code 14 = .ok (.aload_n 0, 1) := by decide +kernel
theorem own_d28_15 : decode jdk_65_method_133_code 15 = .ok (.iload_n 1, 1) := by decide +kernel
theorem own_d28_16 : decode jdk_65_method_133_code 16 = .ok (.aload 4, 2) := by decide +kernel
theorem own_d28_18 : decode jdk_65_method_133_code 18 = .ok (.iconst 0, 1) := by decide +kernel
theorem own_d28_19 : decode jdk_65_method_133_code 19 = .ok (.aload_n 0, 1) := by decide +kernel
theorem own_d28_20 : decode jdk_65_method_133_code 20 = .ok (.arraylength, 1) := by decide +kernel
theorem own_d28_21 : decode jdk_65_method_133_code 21 = .ok (.iload_n 1, 1) := by decide +kernel
theorem own_d28_22 : decode jdk_65_method_133_code 22 = .ok (.isub, 1) := by decide +kernel
theorem own_d28_23 : decode jdk_65_method_133_code 23 = .ok (.iload_n 3, 1) := by decide +kernel
theorem own_d28_24 : decode jdk_65_method_133_code 24 = .ok (.invokestatic 304, 3) := by decide +kernel
theorem own_d28_27 : decode jdk_65_method_133_code 27 = .ok (.invokestatic 150, 3) := by decide +kernel
theorem own_d28_30 : decode jdk_65_method_133_code 30 = .ok (.aload 4, 2) := by decide +kernel
theorem own_d28_32 : decode jdk_65_method_133_code 32 = .ok (.areturn, 1) := by decide +kernel
theorem own_pd_pABIIqAB : parseMethodDescriptor "([BII)[B" = some ⟨[(.array .byte), .int, .int], some (.array .byte)⟩ := by decide +kernel
theorem own_ef_own_d28 (m : MethodId) (x0 : Addr) (x1 : Int32) (x2 : Int32) : entryFrame m #[(.ref x0), (.int x1), (.int x2)] 5 = mkF m 0 #[.val (.ref x0), .val (.int x1), .val (.int x2), .unset, .unset] [] := by
  first | (simp [entryFrame, mkF, argsToLocals, Value.category]; done) | rfl
set_option maxRecDepth 65536 in
set_option maxHeartbeats 40000000 in
theorem own_corB (l : Launch) (Z : State) (a0 : Array Value) (hw : ∀ d ∈ tables_1, d.before a0 Z = true) (t : Addr) (ca : ClassId) (vs : List Value) (i j : Nat) (h0 : Heap) (n0 : Nat) (O : Old Z n0 h0) (At : Ary Z h0 t ca .byte vs) (hij : i ≤ j) (hj : j ≤ vs.length) (hc : j - i ≤ 32) :
    Ctr l Z n0 (⟨"java/util/Arrays", "copyOfRangeByte", "([BII)[B"⟩ : MethodName) jdk_65_method_133_code 5 (some (.array .byte)) [] ({ frames := 1, cells := 1, slots := 32, locals := 18 } : Room) #[(.ref t), (.int (Int32.ofNat i)), (.int (Int32.ofNat j))] h0 [] (fun v h => ∃ d cd, v = some (.ref d) ∧ h0.size ≤ d ∧ Ary Z h d cd .byte ((vs.drop i).take (j - i))) := by
  refine enter (plainFor_of_name own_pn_java_util_Arrays) (fun m => own_ef_own_d28 m t (Int32.ofNat i) (Int32.ofNat j)) O (fun _ q => nomatch q) ?_
  intro p e s m below meth c T w
  refine i_iloadN w own_d28_0 rfl (pc' := 1) rfl ?_
  refine i_iloadN w own_d28_1 rfl (pc' := 2) rfl ?_
  refine c_static w (y := (⟨"java/util/Arrays", "checkLength", "(II)V"⟩ : MethodName)) (argsL := [(.int (Int32.ofNat i)), (.int (Int32.ofNat j))]) (st := []) own_d28_2 (hw _ (List.mem_of_getElem? (i := 165) rfl)) (hw _ (List.mem_of_getElem? (i := 166) rfl)) (hw _ (List.mem_of_getElem? (i := 160) rfl)) (hw _ (List.mem_of_getElem? (i := 167) rfl)) (by decide) own_pd_pIIqV rfl (own_chkLen l Z a0 hw i j h0 n0 w.old hij (by have := At.1; omega)) rfl (by decide) (W := 0) (Nat.le_of_eq rfl) (by decide) (by decide) (by decide) (fun _ q => nomatch q) (pc' := 5) rfl ?_
  intro v49 T49 h49 w49 K49 q49
  obtain ⟨rfl, rfl⟩ := q49
  show Goes p e below _ T49 (mkF m 5 #[.val (.ref t), .val (.int (Int32.ofNat i)), .val (.int (Int32.ofNat j)), .unset, .unset] [])
  refine i_iloadN w49 own_d28_5 rfl (pc' := 6) rfl ?_
  refine i_iloadN w49 own_d28_6 rfl (pc' := 7) rfl ?_
  refine i_isub w49 own_d28_7 (pc' := 8) rfl ?_
  rw [sub_nat hij]
  show Goes p e below _ T49 (mkF m 8 #[.val (.ref t), .val (.int (Int32.ofNat i)), .val (.int (Int32.ofNat j)), .unset, .unset] [(.int (Int32.ofNat (j - i)))])
  refine i_istoreN w49 own_d28_8 (l' := #[.val (.ref t), .val (.int (Int32.ofNat i)), .val (.int (Int32.ofNat j)), .val (.int (Int32.ofNat (j - i))), .unset]) rfl (pc' := 9) rfl ?_
  refine i_iloadN w49 own_d28_9 rfl (pc' := 10) rfl ?_
  refine i_newP w49 own_d28_10 (hw _ (List.mem_of_getElem? (i := 4) rfl)) (N := (j - i)) rfl (by omega) (cap := 32) (by omega) (by decide) (by decide) (by decide) (pc' := 12) rfl ?_
  intro d T50 h50 ca_d g_d w50 z_d E50 A_d
  show Goes p e below _ T50 (mkF m 12 #[.val (.ref t), .val (.int (Int32.ofNat i)), .val (.int (Int32.ofNat j)), .val (.int (Int32.ofNat (j - i))), .unset] [(.ref d)])
  have At1 := At.ext E50
  refine i_astore w50 own_d28_12 rfl (l' := #[.val (.ref t), .val (.int (Int32.ofNat i)), .val (.int (Int32.ofNat j)), .val (.int (Int32.ofNat (j - i))), .val (.ref d)]) rfl (pc' := 14) rfl ?_
  refine i_aloadN w50 own_d28_14 rfl rfl (pc' := 15) rfl ?_
  refine i_iloadN w50 own_d28_15 rfl (pc' := 16) rfl ?_
  refine i_aload w50 own_d28_16 rfl rfl (pc' := 18) rfl ?_
  refine i_iconst w50 own_d28_18 (z := (0 : Int32)) (by decide) (pc' := 19) rfl ?_
  refine i_aloadN w50 own_d28_19 rfl rfl (pc' := 20) rfl ?_
  refine i_len w50 own_d28_20 At1 rfl (pc' := 21) rfl ?_
  refine i_iloadN w50 own_d28_21 rfl (pc' := 22) rfl ?_
  refine i_isub w50 own_d28_22 (pc' := 23) rfl ?_
  refine i_iloadN w50 own_d28_23 rfl (pc' := 24) rfl ?_
  rw [sub_nat (by omega)]
  show Goes p e below _ T50 (mkF m 24 #[.val (.ref t), .val (.int (Int32.ofNat i)), .val (.int (Int32.ofNat j)), .val (.int (Int32.ofNat (j - i))), .val (.ref d)] [(.int (Int32.ofNat (j - i))), (.int (Int32.ofNat (vs.length - i))), (.int (0 : Int32)), (.ref d), (.int (Int32.ofNat i)), (.ref t)])
  refine c_static w50 (y := (⟨"java/lang/Math", "min", "(II)I"⟩ : MethodName)) (argsL := [(.int (Int32.ofNat (vs.length - i))), (.int (Int32.ofNat (j - i)))]) (st := [(.int (0 : Int32)), (.ref d), (.int (Int32.ofNat i)), (.ref t)]) own_d28_24 (hw _ (List.mem_of_getElem? (i := 168) rfl)) (hw _ (List.mem_of_getElem? (i := 169) rfl)) (hw _ (List.mem_of_getElem? (i := 170) rfl)) (hw _ (List.mem_of_getElem? (i := 171) rfl)) (by decide) own_pd_pIIqI rfl (own_min l Z a0 hw (Int32.ofNat (vs.length - i)) (Int32.ofNat (j - i)) h50 n0 w50.old ) rfl (by decide) (W := 4) (Nat.le_of_eq rfl) (by decide) (by decide) (by decide) (fun _ q => nomatch q) (pc' := 27) rfl ?_
  intro v52 T52 h52 w52 K52 q52
  obtain ⟨rfl, rfl⟩ := q52
  show Goes p e below _ T52 (mkF m 27 #[.val (.ref t), .val (.int (Int32.ofNat i)), .val (.int (Int32.ofNat j)), .val (.int (Int32.ofNat (j - i))), .val (.ref d)] [(.int (if (Int32.ofNat (j - i)) < (Int32.ofNat (vs.length - i)) then (Int32.ofNat (j - i)) else (Int32.ofNat (vs.length - i)))), (.int (0 : Int32)), (.ref d), (.int (Int32.ofNat i)), (.ref t)])
  rw [show (if Int32.ofNat (j - i) < Int32.ofNat (vs.length - i) then Int32.ofNat (j - i) else Int32.ofNat (vs.length - i)) = Int32.ofNat (j - i) from by have := At.1; split; rfl; rename_i q; rw [lt_nat (by omega) (by omega)] at q; congr 1; omega]
  show Goes p e below _ T52 (mkF m 27 #[.val (.ref t), .val (.int (Int32.ofNat i)), .val (.int (Int32.ofNat j)), .val (.int (Int32.ofNat (j - i))), .val (.ref d)] [(.int (Int32.ofNat (j - i))), (.int (0 : Int32)), (.ref d), (.int (Int32.ofNat i)), (.ref t)])
  refine i_acopy w52 (sp := i) (dp := 0) (nn := j - i) own_d28_27 (hw _ (List.mem_of_getElem? (i := 172) rfl)) (hw _ (List.mem_of_getElem? (i := 126) rfl)) (hw _ (List.mem_of_getElem? (i := 124) rfl)) (hw _ (List.mem_of_getElem? (i := 125) rfl)) At1 A_d rfl (by omega) (by simp) (Or.inr z_d) rfl (by decide) (W := 0) (Nat.le_of_eq rfl) (by decide) (pc' := 30) rfl ?_
  intro T53 h53 w53 K53 Ad
  show Goes p e below _ T53 (mkF m 30 #[.val (.ref t), .val (.int (Int32.ofNat i)), .val (.int (Int32.ofNat j)), .val (.int (Int32.ofNat (j - i))), .val (.ref d)] [])
  rw [show List.take 0 (List.replicate (j - i) (defaultValue (newarray.typeOf .byte))) ++ List.take (j - i) (List.drop i vs) ++ List.drop (0 + (j - i)) (List.replicate (j - i) (defaultValue (newarray.typeOf .byte))) = (vs.drop i).take (j - i) from by simp] at Ad
  refine i_aload w53 own_d28_30 rfl rfl (pc' := 32) rfl ?_
  exact i_retA w53 own_d28_32 rfl rfl rfl ⟨d, ca_d, rfl, z_d, Ad⟩ (by decide) (by decide)
theorem own_d27_0 : decode jdk_65_method_132_code 0 = .ok (.iload_n 1, 1) := by decide +kernel
theorem own_d27_1 : decode jdk_65_method_132_code 1 = .ok (.ifCond .ne 9, 3) := by decide +kernel
theorem own_d27_4 : decode jdk_65_method_132_code 4 = .ok (.iload_n 2, 1) := by decide +kernel
theorem own_d27_5 : decode jdk_65_method_132_code 5 = .ok (.aload_n 0, 1) := by decide +kernel
theorem own_d27_6 : decode jdk_65_method_132_code 6 = .ok (.arraylength, 1) := by decide +kernel
theorem own_d27_7 : decode jdk_65_method_132_code 7 = .ok (.if_icmp .eq 10, 3) := by decide +kernel
theorem own_d27_10 : decode jdk_65_method_132_code 10 = .ok (.aload_n 0, 1) := by decide +kernel
theorem own_d27_11 : decode jdk_65_method_132_code 11 = .ok (.iload_n 1, 1) := by decide +kernel
theorem own_d27_12 : decode jdk_65_method_132_code 12 = .ok (.iload_n 2, 1) := by decide +kernel
theorem own_d27_13 : decode jdk_65_method_132_code 13 = .ok (.invokestatic 339, 3) := by decide +kernel
theorem own_d27_16 : decode jdk_65_method_132_code 16 = .ok (.areturn, 1) := by decide +kernel
theorem own_d27_17 : decode jdk_65_method_132_code 17 = .ok (.aload_n 0, 1) := by decide +kernel
theorem own_d27_18 : decode jdk_65_method_132_code 18 = .ok (.invokevirtual 310, 3) := by decide +kernel
theorem own_d27_21 : decode jdk_65_method_132_code 21 = .ok (.checkcast 311, 3) := by decide +kernel
theorem own_d27_24 : decode jdk_65_method_132_code 24 = .ok (.areturn, 1) := by decide +kernel
theorem own_ef_own_d27 (m : MethodId) (x0 : Addr) (x1 : Int32) (x2 : Int32) : entryFrame m #[(.ref x0), (.int x1), (.int x2)] 3 = mkF m 0 #[.val (.ref x0), .val (.int x1), .val (.int x2)] [] := by
  first | (simp [entryFrame, mkF, argsToLocals, Value.category]; done) | rfl
set_option maxRecDepth 65536 in
set_option maxHeartbeats 40000000 in
theorem own_cor (l : Launch) (Z : State) (a0 : Array Value) (hw : ∀ d ∈ tables_1, d.before a0 Z = true) (t : Addr) (ca : ClassId) (vs : List Value) (i j : Nat) (h0 : Heap) (n0 : Nat) (O : Old Z n0 h0) (At : Ary Z h0 t ca .byte vs) (hij : i ≤ j) (hj : j ≤ vs.length) (hc : j - i ≤ 32) (hne : i = 0 → ¬ j = vs.length) :
    Ctr l Z n0 (⟨"java/util/Arrays", "copyOfRange", "([BII)[B"⟩ : MethodName) jdk_65_method_132_code 3 (some (.array .byte)) [] ({ frames := 2, cells := 1, slots := 32, locals := 34 } : Room) #[(.ref t), (.int (Int32.ofNat i)), (.int (Int32.ofNat j))] h0 [] (fun v h => ∃ d cd, v = some (.ref d) ∧ h0.size ≤ d ∧ Ary Z h d cd .byte ((vs.drop i).take (j - i))) := by
  refine enter (plainFor_of_name own_pn_java_util_Arrays) (fun m => own_ef_own_d27 m t (Int32.ofNat i) (Int32.ofNat j)) O (fun _ q => nomatch q) ?_
  intro p e s m below meth c T w
  have hl31 := At.1
  refine i_iloadN w own_d27_0 rfl (pc' := 1) rfl ?_
  refine i_if_ne w own_d27_1 (pcY := 10) (by decide) (pc' := 4) rfl (fun hc1 => ?_) (fun hc1 => ?_)
  ·
    refine i_aloadN w own_d27_10 rfl rfl (pc' := 11) rfl ?_
    refine i_iloadN w own_d27_11 rfl (pc' := 12) rfl ?_
    refine i_iloadN w own_d27_12 rfl (pc' := 13) rfl ?_
    refine c_static w (y := (⟨"java/util/Arrays", "copyOfRangeByte", "([BII)[B"⟩ : MethodName)) (argsL := [(.ref t), (.int (Int32.ofNat i)), (.int (Int32.ofNat j))]) (st := []) own_d27_13 (hw _ (List.mem_of_getElem? (i := 162) rfl)) (hw _ (List.mem_of_getElem? (i := 163) rfl)) (hw _ (List.mem_of_getElem? (i := 160) rfl)) (hw _ (List.mem_of_getElem? (i := 164) rfl)) (by decide) own_pd_pABIIqAB rfl (own_corB l Z a0 hw t ca vs i j h0 n0 w.old At hij hj hc) rfl (by decide) (W := 0) (Nat.le_of_eq rfl) (by decide) (by decide) (by decide) (fun _ q => nomatch q) (pc' := 16) rfl ?_
    intro v54 T54 h54 w54 K54 q54
    obtain ⟨d, cd, rfl, zd, Ad⟩ := q54
    show Goes p e below _ T54 (mkF m 16 #[.val (.ref t), .val (.int (Int32.ofNat i)), .val (.int (Int32.ofNat j))] [(.ref d)])
    exact i_retA w54 own_d27_16 rfl rfl rfl ⟨d, cd, rfl, zd, Ad⟩ (by decide) (by decide)
  ·
    refine i_iloadN w own_d27_4 rfl (pc' := 5) rfl ?_
    refine i_aloadN w own_d27_5 rfl rfl (pc' := 6) rfl ?_
    refine i_len w own_d27_6 At rfl (pc' := 7) rfl ?_
    refine i_icmp_eq_N w (fun q => hne ((eq_nat (by omega) (by omega)).mp (hc1.trans (show (0 : Int32) = Int32.ofNat 0 from rfl))) ((eq_nat (by omega) At.1).mp q)) own_d27_7 (pc' := 10) rfl ?_
    refine i_aloadN w own_d27_10 rfl rfl (pc' := 11) rfl ?_
    refine i_iloadN w own_d27_11 rfl (pc' := 12) rfl ?_
    refine i_iloadN w own_d27_12 rfl (pc' := 13) rfl ?_
    refine c_static w (y := (⟨"java/util/Arrays", "copyOfRangeByte", "([BII)[B"⟩ : MethodName)) (argsL := [(.ref t), (.int (Int32.ofNat i)), (.int (Int32.ofNat j))]) (st := []) own_d27_13 (hw _ (List.mem_of_getElem? (i := 162) rfl)) (hw _ (List.mem_of_getElem? (i := 163) rfl)) (hw _ (List.mem_of_getElem? (i := 160) rfl)) (hw _ (List.mem_of_getElem? (i := 164) rfl)) (by decide) own_pd_pABIIqAB rfl (own_corB l Z a0 hw t ca vs i j h0 n0 w.old At hij hj hc) rfl (by decide) (W := 0) (Nat.le_of_eq rfl) (by decide) (by decide) (by decide) (fun _ q => nomatch q) (pc' := 16) rfl ?_
    intro v56 T56 h56 w56 K56 q56
    obtain ⟨d, cd, rfl, zd, Ad⟩ := q56
    show Goes p e below _ T56 (mkF m 16 #[.val (.ref t), .val (.int (Int32.ofNat i)), .val (.int (Int32.ofNat j))] [(.ref d)])
    exact i_retA w56 own_d27_16 rfl rfl rfl ⟨d, cd, rfl, zd, Ad⟩ (by decide) (by decide)
/-- the StringBuilder at sb says cs (Latin-1), its array of 16 at t -/
def SBd (Z : State) (h : Heap) (sb t : Addr) (ct : ClassId) (cs : List Nat) : Prop := Exa Z h sb "java/lang/StringBuilder" ∧ Fld Z h sb "java/lang/AbstractStringBuilder" "value" "[B" (.ref t) ∧ Fld Z h sb "java/lang/AbstractStringBuilder" "coder" "B" (.int 0) ∧ Fld Z h sb "java/lang/AbstractStringBuilder" "count" "I" (.int (Int32.ofNat cs.length)) ∧ Ary Z h t ct .byte (lat cs ++ List.replicate (16 - cs.length) (.int 0)) ∧ (∀ c ∈ cs, c < 256) ∧ cs.length ≤ 16
section
variable {Z : State} {h h' : Heap} {sb t : Addr} {ct : ClassId} {cs : List Nat} {ws : List Addr}
theorem SBd.ext (E : Ext h h') (S : SBd Z h sb t ct cs) : SBd Z h' sb t ct cs := ⟨S.1.ext E, S.2.1.ext E, S.2.2.1.ext E, S.2.2.2.1.ext E, S.2.2.2.2.1.ext E, S.2.2.2.2.2⟩
theorem SBd.keep (S : SBd Z h sb t ct cs) (K : Keep h h' ws) (q : sb ∉ ws) (r : t ∉ ws) : SBd Z h' sb t ct cs := ⟨S.1.keep K, S.2.1.keep K q, S.2.2.1.keep K q, S.2.2.2.1.keep K q, S.2.2.2.2.1.keep K r, S.2.2.2.2.2⟩
theorem SBd.lt (S : SBd Z h sb t ct cs) : sb < h.size := S.1.lt
theorem SBd.ltT (S : SBd Z h sb t ct cs) : t < h.size := S.2.2.2.2.1.lt
end
theorem own_len16 {cs : List Nat} (h : cs.length ≤ 16) : (lat cs ++ List.replicate (16 - cs.length) (Value.int 0)).length = 16 := by simp [lat_len]; omega
theorem own_put {cs ds : List Nat} (h : cs.length + ds.length ≤ 16) : (lat cs ++ List.replicate (16 - cs.length) (Value.int 0)).take cs.length ++ ((lat ds).drop 0).take ds.length ++ (lat cs ++ List.replicate (16 - cs.length) (Value.int 0)).drop (cs.length + ds.length) = lat (cs ++ ds) ++ List.replicate (16 - (cs ++ ds).length) (.int 0) := by
  have e1 : (lat cs ++ List.replicate (16 - cs.length) (Value.int 0)).take cs.length = lat cs := by
    rw [← lat_len cs, List.take_left']; rfl
  have e2 : ((lat ds).drop 0).take ds.length = lat ds := by rw [List.drop_zero, ← lat_len ds, List.take_length]
  have e3 : (lat cs ++ List.replicate (16 - cs.length) (Value.int 0)).drop (cs.length + ds.length) = List.replicate (16 - (cs ++ ds).length) (.int 0) := by
    rw [← List.drop_drop, show (lat cs ++ List.replicate (16 - cs.length) (Value.int 0)).drop cs.length = List.replicate (16 - cs.length) (.int 0) from by rw [← lat_len cs, List.drop_left'] <;> rfl, List.drop_replicate, List.length_append]
    congr 1; omega
  rw [e1, e2, e3]; simp [lat]
theorem own_pre {cs : List Nat} : ((lat cs ++ List.replicate (16 - cs.length) (Value.int 0)).drop 0).take (cs.length - 0) = lat cs := by
  rw [List.drop_zero, Nat.sub_zero]
  conv => lhs; rw [← lat_len cs]
  rw [List.take_left']; rfl
theorem own_cap {n : Nat} (h : n ≤ 16) : ¬ (0 : Int32) < Int32.ofNat n - (Int32.ofNat 16 >>> ((0 : Int32) &&& 31)) := by
  rw [shr_zero, Int32.lt_iff_toInt_lt, Int32.toInt_sub, toInt_small (by omega), toInt_small (by omega)]
  show ¬ (0 : Int) < Int.bmod _ _
  rw [Int.bmod_eq_of_le (by omega) (by omega)]; omega
theorem own_shl0 (x : Int32) : x <<< ((0 : Int32) &&& 31) = x := by
  have e : ((0 : Int32) &&& 31) = 0 := by decide
  rw [e]; simp
theorem own_d11_0 : decode jdk_68_method_2_code 0 = .ok (.aload_n 0, 1) := by decide +kernel
theorem own_d11_1 : decode jdk_68_method_2_code 1 = .ok (.invokespecial 3, 3) := by decide +kernel
theorem own_d11_4 : decode jdk_68_method_2_code 4 = .ok (.getstatic 18, 3) := by decide +kernel
theorem own_d11_7 : decode jdk_68_method_2_code 7 = .ok (.ifCond .eq 18, 3) := by decide +kernel
theorem own_d11_10 : decode jdk_68_method_2_code 10 = .ok (.aload_n 0, 1) := by decide +kernel
theorem own_d11_11 : decode jdk_68_method_2_code 11 = .ok (.iload_n 1, 1) := by decide +kernel
theorem own_d11_12 : decode jdk_68_method_2_code 12 = .ok (.newarray .byte, 2) := by decide +kernel
theorem own_d11_14 : decode jdk_68_method_2_code 14 = .ok (.putfield 15, 3) := by decide +kernel
theorem own_d11_17 : decode jdk_68_method_2_code 17 = .ok (.aload_n 0, 1) := by decide +kernel
theorem own_d11_18 : decode jdk_68_method_2_code 18 = .ok (.iconst 0, 1) := by decide +kernel
theorem own_d11_19 : decode jdk_68_method_2_code 19 = .ok (.putfield 22, 3) := by decide +kernel
theorem own_d11_22 : decode jdk_68_method_2_code 22 = .ok (.goto 16, 3) := by decide +kernel
theorem own_d11_25 : decode jdk_68_method_2_code 25 = .ok (.aload_n 0, 1) := by decide +kernel
theorem own_d11_26 : decode jdk_68_method_2_code 26 = .ok (.iload_n 1, 1) := by decide +kernel
theorem own_d11_27 : decode jdk_68_method_2_code 27 = .ok (.invokestatic 26, 3) := by decide +kernel
theorem own_d11_30 : decode jdk_68_method_2_code 30 = .ok (.putfield 15, 3) := by decide +kernel
theorem own_d11_33 : decode jdk_68_method_2_code 33 = .ok (.aload_n 0, 1) := by decide +kernel
theorem own_d11_34 : decode jdk_68_method_2_code 34 = .ok (.iconst 1, 1) := by decide +kernel
theorem own_d11_35 : decode jdk_68_method_2_code 35 = .ok (.putfield 22, 3) := by decide +kernel
theorem own_d11_38 : decode jdk_68_method_2_code 38 = .ok (.return_, 1) := by decide +kernel
theorem own_pn_java_lang_AbstractStringBuilder : plainName "java/lang/AbstractStringBuilder" = true := by first | (simp [plainName, overriddenIn]; done) | decide +kernel
theorem own_pd_pIqV : parseMethodDescriptor "(I)V" = some ⟨[.int], none⟩ := by decide +kernel
theorem own_ef_own_d11 (m : MethodId) (x0 : Addr) (x1 : Int32) : entryFrame m #[(.ref x0), (.int x1)] 2 = mkF m 0 #[.val (.ref x0), .val (.int x1)] [] := by
  first | (simp [entryFrame, mkF, argsToLocals, Value.category]; done) | rfl
set_option maxRecDepth 65536 in
set_option maxHeartbeats 40000000 in
theorem own_abInit (l : Launch) (Z : State) (a0 : Array Value) (hw : ∀ d ∈ tables_1, d.before a0 Z = true) (sb : Addr) {v0 c0 : Value} (G1 : Int32) (hG : ¬ G1 = 0) (SG : Sta Z Z.heap "java/lang/String" "COMPACT_STRINGS" "Z" (.int G1)) (h0 : Heap) (n0 : Nat) (O : Old Z n0 h0) (ha : n0 ≤ sb) (Ea : Exa Z h0 sb "java/lang/StringBuilder") (Fv : Fld Z h0 sb "java/lang/AbstractStringBuilder" "value" "[B" v0) (Fc : Fld Z h0 sb "java/lang/AbstractStringBuilder" "coder" "B" c0) (Fn : Fld Z h0 sb "java/lang/AbstractStringBuilder" "count" "I" (.int 0)) :
    Ctr l Z n0 (⟨"java/lang/AbstractStringBuilder", "<init>", "(I)V"⟩ : MethodName) jdk_68_method_2_code 2 none [] ({ frames := 1, cells := 1, slots := 16, locals := 12 } : Room) #[(.ref sb), (.int (16 : Int32))] h0 [sb] (fun v h => v = none ∧ ∃ t ct, h0.size ≤ t ∧ SBd Z h sb t ct []) := by
  refine enter (plainFor_of_name own_pn_java_lang_AbstractStringBuilder) (fun m => own_ef_own_d11 m sb (16 : Int32)) O (allS ha all0) ?_
  intro p e s m below meth c T w
  refine i_aloadN w own_d11_0 rfl rfl (pc' := 1) rfl ?_
  refine i_initO w own_d11_1 (hw _ (List.mem_of_getElem? (i := 70) rfl)) (hw _ (List.mem_of_getElem? (i := 26) rfl)) (hw _ (List.mem_of_getElem? (i := 27) rfl)) rfl (by decide) (W := 0) (Nat.le_of_eq rfl) (by decide) (pc' := 4) rfl ?_
  intro T58 w58
  show Goes p e below _ T58 (mkF m 4 #[.val (.ref sb), .val (.int (16 : Int32))] [])
  refine i_getS w58 own_d11_4 (hw _ (List.mem_of_getElem? (i := 71) rfl)) SG (pc' := 7) rfl ?_
  intro T59 w59
  refine i_if_eq_N w59 hG own_d11_7 (pc' := 10) rfl ?_
  refine i_aloadN w59 own_d11_10 rfl rfl (pc' := 11) rfl ?_
  refine i_iloadN w59 own_d11_11 rfl (pc' := 12) rfl ?_
  refine i_newP w59 own_d11_12 (hw _ (List.mem_of_getElem? (i := 4) rfl)) (N := 16) rfl (by decide) (cap := 16) (by decide) (by decide) (by decide) (by decide) (pc' := 14) rfl ?_
  intro t T60 h60 ca_t g_t w60 z_t E60 A_t
  show Goes p e below _ T60 (mkF m 14 #[.val (.ref sb), .val (.int (16 : Int32))] [(.ref t), (.ref sb)])
  have Ea1 := Ea.ext E60
  have Fv1 := Fv.ext E60
  have Fc1 := Fc.ext E60
  have Fn1 := Fn.ext E60
  have lt1 : sb < t := g_t ▸ Ea.lt
  refine i_putF w60 own_d11_14 (hw _ (List.mem_of_getElem? (i := 72) rfl)) Fv1 Ea1 (Or.inl (hw _ (List.mem_of_getElem? (i := 73) rfl))) (hw _ (List.mem_of_getElem? (i := 59) rfl)) (ty := (.array .byte)) (by decide) rfl rfl (Or.inl (List.mem_singleton.mpr rfl)) (pc' := 17) rfl ?_
  intro T62 h62 w62 W62
  show Goes p e below _ T62 (mkF m 17 #[.val (.ref sb), .val (.int (16 : Int32))] [])
  have Fv2 := Fld.same W62 Fv1
  have Fc2 := Fc1.other W62 (Or.inr (slot_ne (Or.inl (hw _ (List.mem_of_getElem? (i := 75) rfl))) (Or.inl (hw _ (List.mem_of_getElem? (i := 73) rfl))) (by decide) (t := .byte) (t' := (.array .byte)) (by decide) (by decide)))
  have Fn2 := Fn1.other W62 (Or.inr (slot_ne (Or.inl (hw _ (List.mem_of_getElem? (i := 101) rfl))) (Or.inl (hw _ (List.mem_of_getElem? (i := 73) rfl))) (by decide) (t := .int) (t' := (.array .byte)) (by decide) (by decide)))
  have Ea2 := Ea1.wr W62
  have At2 := A_t.other W62 (Nat.ne_of_gt lt1)
  refine i_aloadN w62 own_d11_17 rfl rfl (pc' := 18) rfl ?_
  refine i_iconst w62 own_d11_18 (z := (0 : Int32)) (by decide) (pc' := 19) rfl ?_
  refine i_putF w62 own_d11_19 (hw _ (List.mem_of_getElem? (i := 74) rfl)) Fc2 Ea2 (Or.inl (hw _ (List.mem_of_getElem? (i := 75) rfl))) (hw _ (List.mem_of_getElem? (i := 59) rfl)) (ty := .byte) (by decide) rfl rfl (Or.inl (List.mem_singleton.mpr rfl)) (pc' := 22) rfl ?_
  intro T63 h63 w63 W63
  show Goes p e below _ T63 (mkF m 22 #[.val (.ref sb), .val (.int (16 : Int32))] [])
  have Fc3 := Fld.same W63 Fc2
  have Fv3 := Fv2.other W63 (Or.inr (slot_ne (Or.inl (hw _ (List.mem_of_getElem? (i := 73) rfl))) (Or.inl (hw _ (List.mem_of_getElem? (i := 75) rfl))) (by decide) (t := (.array .byte)) (t' := .byte) (by decide) (by decide)))
  have Fn3 := Fn2.other W63 (Or.inr (slot_ne (Or.inl (hw _ (List.mem_of_getElem? (i := 101) rfl))) (Or.inl (hw _ (List.mem_of_getElem? (i := 75) rfl))) (by decide) (t := .int) (t' := .byte) (by decide) (by decide)))
  have Ea3 := Ea2.wr W63
  have At3 := At2.other W63 (Nat.ne_of_gt lt1)
  refine i_goto w63 own_d11_22 (pc' := 38) (by decide) ?_
  exact i_ret0 w63 own_d11_38 rfl ⟨rfl, t, ca_t, z_t, Ea3, Fv3, Fc3, Fn3, At3, (fun c hc => nomatch hc), Nat.zero_le _⟩ (by decide) (by decide)
theorem own_d10_0 : decode jdk_67_method_1_code 0 = .ok (.aload_n 0, 1) := by decide +kernel
theorem own_d10_1 : decode jdk_67_method_1_code 1 = .ok (.bipush 16, 2) := by decide +kernel
theorem own_d10_3 : decode jdk_67_method_1_code 3 = .ok (.invokespecial 1, 3) := by decide +kernel
theorem own_d10_6 : decode jdk_67_method_1_code 6 = .ok (.return_, 1) := by decide +kernel
theorem own_pn_java_lang_StringBuilder : plainName "java/lang/StringBuilder" = true := by first | (simp [plainName, overriddenIn]; done) | decide +kernel
theorem own_pd_pqV : parseMethodDescriptor "()V" = some ⟨[], none⟩ := by decide +kernel
theorem own_ef_own_d10 (m : MethodId) (x0 : Addr) : entryFrame m #[(.ref x0)] 1 = mkF m 0 #[.val (.ref x0)] [] := by
  first | (simp [entryFrame, mkF, argsToLocals, Value.category]; done) | rfl
set_option maxRecDepth 65536 in
set_option maxHeartbeats 40000000 in
theorem own_sbInit (l : Launch) (Z : State) (a0 : Array Value) (hw : ∀ d ∈ tables_1, d.before a0 Z = true) (sb : Addr) {v0 c0 : Value} (G1 : Int32) (hG : ¬ G1 = 0) (SG : Sta Z Z.heap "java/lang/String" "COMPACT_STRINGS" "Z" (.int G1)) (h0 : Heap) (n0 : Nat) (O : Old Z n0 h0) (ha : n0 ≤ sb) (Ea : Exa Z h0 sb "java/lang/StringBuilder") (Fv : Fld Z h0 sb "java/lang/AbstractStringBuilder" "value" "[B" v0) (Fc : Fld Z h0 sb "java/lang/AbstractStringBuilder" "coder" "B" c0) (Fn : Fld Z h0 sb "java/lang/AbstractStringBuilder" "count" "I" (.int 0)) :
    Ctr l Z n0 (⟨"java/lang/StringBuilder", "<init>", "()V"⟩ : MethodName) jdk_67_method_1_code 1 none [] ({ frames := 2, cells := 1, slots := 16, locals := 25 } : Room) #[(.ref sb)] h0 [sb] (fun v h => v = none ∧ ∃ t ct, h0.size ≤ t ∧ SBd Z h sb t ct []) := by
  refine enter (plainFor_of_name own_pn_java_lang_StringBuilder) (fun m => own_ef_own_d10 m sb) O (allS ha all0) ?_
  intro p e s m below meth c T w
  refine i_aloadN w own_d10_0 rfl rfl (pc' := 1) rfl ?_
  refine i_bipush w own_d10_1 (z := (16 : Int32)) (by decide) (pc' := 3) rfl ?_
  refine c_special w (y := (⟨"java/lang/AbstractStringBuilder", "<init>", "(I)V"⟩ : MethodName)) (a := sb) (argsL := [(.int (16 : Int32))]) (st := []) own_d10_3 rfl (hw _ (List.mem_of_getElem? (i := 64) rfl)) (hw _ (List.mem_of_getElem? (i := 65) rfl)) (hw _ (List.mem_of_getElem? (i := 68) rfl)) (hw _ (List.mem_of_getElem? (i := 69) rfl)) (by decide) own_pd_pIqV rfl (own_abInit l Z a0 hw sb G1 hG SG h0 n0 w.old ha Ea Fv Fc Fn) rfl (by decide) (W := 0) (Nat.le_of_eq rfl) (by decide) (by decide) (by decide) (allS (Or.inl (List.mem_singleton.mpr rfl)) all0) (pc' := 6) rfl ?_
  intro v64 T64 h64 w64 K64 q64
  obtain ⟨rfl, t, ct, zt, Sd⟩ := q64
  show Goes p e below _ T64 (mkF m 6 #[.val (.ref sb)] [])
  exact i_ret0 w64 own_d10_6 rfl ⟨rfl, t, ct, zt, Sd⟩ (by decide) (by decide)
theorem own_d16_0 : decode jdk_68_method_9_code 0 = .ok (.aload_n 0, 1) := by decide +kernel
theorem own_d16_1 : decode jdk_68_method_9_code 1 = .ok (.getfield 15, 3) := by decide +kernel
theorem own_d16_4 : decode jdk_68_method_9_code 4 = .ok (.arraylength, 1) := by decide +kernel
theorem own_d16_5 : decode jdk_68_method_9_code 5 = .ok (.aload_n 0, 1) := by decide +kernel
theorem own_d16_6 : decode jdk_68_method_9_code 6 = .ok (.getfield 22, 3) := by decide +kernel
theorem own_d16_9 : decode jdk_68_method_9_code 9 = .ok (.ishr, 1) := by decide +kernel
theorem own_d16_10 : decode jdk_68_method_9_code 10 = .ok (.istore_n 2, 1) := by decide +kernel
theorem own_d16_11 : decode jdk_68_method_9_code 11 = .ok (.iload_n 1, 1) := by decide +kernel
theorem own_d16_12 : decode jdk_68_method_9_code 12 = .ok (.iload_n 2, 1) := by decide +kernel
theorem own_d16_13 : decode jdk_68_method_9_code 13 = .ok (.isub, 1) := by decide +kernel
theorem own_d16_14 : decode jdk_68_method_9_code 14 = .ok (.ifCond .le 24, 3) := by decide +kernel
theorem own_d16_17 : decode jdk_68_method_9_code 17 = .ok (.aload_n 0, 1) := by decide +kernel
theorem own_d16_18 : decode jdk_68_method_9_code 18 = .ok (.aload_n 0, 1) := by decide +kernel
theorem own_d16_19 : decode jdk_68_method_9_code 19 = .ok (.getfield 15, 3) := by decide +kernel
theorem own_d16_22 : decode jdk_68_method_9_code 22 = .ok (.aload_n 0, 1) := by decide +kernel
theorem own_d16_23 : decode jdk_68_method_9_code 23 = .ok (.iload_n 1, 1) := by decide +kernel
theorem own_d16_24 : decode jdk_68_method_9_code 24 = .ok (.invokevirtual 104, 3) := by decide +kernel
theorem own_d16_27 : decode jdk_68_method_9_code 27 = .ok (.aload_n 0, 1) := by decide +kernel
theorem own_d16_28 : decode jdk_68_method_9_code 28 = .ok (.getfield 22, 3) := by decide +kernel
theorem own_d16_31 : decode jdk_68_method_9_code 31 = .ok (.ishl, 1) := by decide +kernel
theorem own_d16_32 : decode jdk_68_method_9_code 32 = .ok (.invokestatic 108, 3) := by decide +kernel
theorem own_d16_35 : decode jdk_68_method_9_code 35 = .ok (.putfield 15, 3) := by decide +kernel
theorem own_d16_38 : decode jdk_68_method_9_code 38 = .ok (.return_, 1) := by decide +kernel
theorem own_ef_own_d16 (m : MethodId) (x0 : Addr) (x1 : Int32) : entryFrame m #[(.ref x0), (.int x1)] 3 = mkF m 0 #[.val (.ref x0), .val (.int x1), .unset] [] := by
  first | (simp [entryFrame, mkF, argsToLocals, Value.category]; done) | rfl
set_option maxRecDepth 65536 in
set_option maxHeartbeats 40000000 in
theorem own_ensure (l : Launch) (Z : State) (a0 : Array Value) (hw : ∀ d ∈ tables_1, d.before a0 Z = true) (sb t : Addr) (ct : ClassId) (cs : List Nat) (n : Nat) (h0 : Heap) (n0 : Nat) (O : Old Z n0 h0) (S : SBd Z h0 sb t ct cs) (hn : n ≤ 16) :
    Ctr l Z n0 (⟨"java/lang/AbstractStringBuilder", "ensureCapacityInternal", "(I)V"⟩ : MethodName) jdk_68_method_9_code 3 none [] ({ frames := 0, cells := 0, slots := 0, locals := 0 } : Room) #[(.ref sb), (.int (Int32.ofNat n))] h0 [] (fun v h => v = none ∧ h0 = h) := by
  refine enter (plainFor_of_name own_pn_java_lang_AbstractStringBuilder) (fun m => own_ef_own_d16 m sb (Int32.ofNat n)) O (fun _ q => nomatch q) ?_
  intro p e s m below meth c T w
  refine i_aloadN w own_d16_0 rfl rfl (pc' := 1) rfl ?_
  refine i_getF w own_d16_1 (hw _ (List.mem_of_getElem? (i := 72) rfl)) S.2.1 (pc' := 4) rfl ?_
  intro T66 w66
  refine i_len w66 own_d16_4 S.2.2.2.2.1 (z := Int32.ofNat 16) (by rw [own_len16 S.2.2.2.2.2.2]) (pc' := 5) rfl ?_
  refine i_aloadN w66 own_d16_5 rfl rfl (pc' := 6) rfl ?_
  refine i_getF w66 own_d16_6 (hw _ (List.mem_of_getElem? (i := 74) rfl)) S.2.2.1 (pc' := 9) rfl ?_
  intro T67 w67
  refine i_ishr w67 own_d16_9 (pc' := 10) rfl ?_
  refine i_istoreN w67 own_d16_10 (l' := #[.val (.ref sb), .val (.int (Int32.ofNat n)), .val (.int ((Int32.ofNat 16) >>> ((0 : Int32) &&& 31)))]) rfl (pc' := 11) rfl ?_
  refine i_iloadN w67 own_d16_11 rfl (pc' := 12) rfl ?_
  refine i_iloadN w67 own_d16_12 rfl (pc' := 13) rfl ?_
  refine i_isub w67 own_d16_13 (pc' := 14) rfl ?_
  refine i_if_le_Y w67 (own_cap hn) own_d16_14 (pc' := 38) (by decide) ?_
  exact i_ret0 w67 own_d16_38 rfl ⟨rfl, rfl⟩ (by decide) (by decide)
theorem own_d18_0 : decode jdk_68_method_71_code 0 = .ok (.getstatic 18, 3) := by decide +kernel
theorem own_d18_3 : decode jdk_68_method_71_code 3 = .ok (.ifCond .eq 18, 3) := by decide +kernel
theorem own_d18_6 : decode jdk_68_method_71_code 6 = .ok (.aload_n 0, 1) := by decide +kernel
theorem own_d18_7 : decode jdk_68_method_71_code 7 = .ok (.getfield 22, 3) := by decide +kernel
theorem own_d18_10 : decode jdk_68_method_71_code 10 = .ok (.aload_n 1, 1) := by decide +kernel
theorem own_d18_11 : decode jdk_68_method_71_code 11 = .ok (.invokevirtual 40, 3) := by decide +kernel
theorem own_d18_14 : decode jdk_68_method_71_code 14 = .ok (.if_icmp .eq 7, 3) := by decide +kernel
theorem own_d18_17 : decode jdk_68_method_71_code 17 = .ok (.aload_n 0, 1) := by decide +kernel
theorem own_d18_18 : decode jdk_68_method_71_code 18 = .ok (.invokevirtual 195, 3) := by decide +kernel
theorem own_d18_21 : decode jdk_68_method_71_code 21 = .ok (.return_, 1) := by decide +kernel
theorem own_pd_pLjava_lang_StringeqV : parseMethodDescriptor "(Ljava/lang/String;)V" = some ⟨[(.object "java/lang/String")], none⟩ := by decide +kernel
theorem own_ef_own_d18 (m : MethodId) (x0 : Addr) (x1 : Addr) : entryFrame m #[(.ref x0), (.ref x1)] 2 = mkF m 0 #[.val (.ref x0), .val (.ref x1)] [] := by
  first | (simp [entryFrame, mkF, argsToLocals, Value.category]; done) | rfl
set_option maxRecDepth 65536 in
set_option maxHeartbeats 40000000 in
theorem own_inflIf (l : Launch) (Z : State) (a0 : Array Value) (hw : ∀ d ∈ tables_1, d.before a0 Z = true) (sb t : Addr) (ct : ClassId) (cs : List Nat) (r tr : Addr) (cr : ClassId) (ds : List Nat) (G1 : Int32) (hG : ¬ G1 = 0) (SG : Sta Z Z.heap "java/lang/String" "COMPACT_STRINGS" "Z" (.int G1)) (h0 : Heap) (n0 : Nat) (O : Old Z n0 h0) (S : SBd Z h0 sb t ct cs) (R : StrL Z h0 r tr cr ds) :
    Ctr l Z n0 (⟨"java/lang/AbstractStringBuilder", "inflateIfNeededFor", "(Ljava/lang/String;)V"⟩ : MethodName) jdk_68_method_71_code 2 none [] ({ frames := 1, cells := 0, slots := 0, locals := 13 } : Room) #[(.ref sb), (.ref r)] h0 [] (fun v h => v = none ∧ h0 = h) := by
  refine enter (plainFor_of_name own_pn_java_lang_AbstractStringBuilder) (fun m => own_ef_own_d18 m sb r) O (fun _ q => nomatch q) ?_
  intro p e s m below meth c T w
  refine i_getS w own_d18_0 (hw _ (List.mem_of_getElem? (i := 71) rfl)) SG (pc' := 3) rfl ?_
  intro T68 w68
  refine i_if_eq_N w68 hG own_d18_3 (pc' := 6) rfl ?_
  refine i_aloadN w68 own_d18_6 rfl rfl (pc' := 7) rfl ?_
  refine i_getF w68 own_d18_7 (hw _ (List.mem_of_getElem? (i := 74) rfl)) S.2.2.1 (pc' := 10) rfl ?_
  intro T69 w69
  refine i_aloadN w69 own_d18_10 rfl rfl (pc' := 11) rfl ?_
  refine c_virtual w69 (y := (⟨"java/lang/String", "coder", "()B"⟩ : MethodName)) (C := "java/lang/String") (a := r) (argsL := []) (st := [(.int (0 : Int32))]) own_d18_11 (hw _ (List.mem_of_getElem? (i := 117) rfl)) (hw _ (List.mem_of_getElem? (i := 94) rfl)) (hw _ (List.mem_of_getElem? (i := 96) rfl)) (hw _ (List.mem_of_getElem? (i := 95) rfl)) (hw _ (List.mem_of_getElem? (i := 97) rfl)) (hw _ (List.mem_of_getElem? (i := 2) rfl)) (by decide) own_pd_pqB rfl R.1 (own_coder l Z a0 hw r 0 G1 hG SG h0 n0 w69.old R.2.2.1 (Or.inl rfl)) rfl (by decide) (W := 1) (Nat.le_of_eq rfl) (by decide) (by decide) (by decide) (fun _ q => nomatch q) (pc' := 14) rfl ?_
  intro v70 T70 h70 w70 K70 q70
  obtain ⟨rfl, rfl⟩ := q70
  show Goes p e below _ T70 (mkF m 14 #[.val (.ref sb), .val (.ref r)] [(.int (0 : Int32)), (.int (0 : Int32))])
  refine i_icmp_eq_Y w70 rfl own_d18_14 (pc' := 21) (by decide) ?_
  exact i_ret0 w70 own_d18_21 rfl ⟨rfl, rfl⟩ (by decide) (by decide)
theorem own_d19_0 : decode jdk_42_method_147_code 0 = .ok (.aload_n 0, 1) := by decide +kernel
theorem own_d19_1 : decode jdk_42_method_147_code 1 = .ok (.invokevirtual 335, 3) := by decide +kernel
theorem own_d19_4 : decode jdk_42_method_147_code 4 = .ok (.iload_n 3, 1) := by decide +kernel
theorem own_d19_5 : decode jdk_42_method_147_code 5 = .ok (.if_icmp .ne 23, 3) := by decide +kernel
theorem own_d19_8 : decode jdk_42_method_147_code 8 = .ok (.aload_n 0, 1) := by decide +kernel
theorem own_d19_9 : decode jdk_42_method_147_code 9 = .ok (.getfield 9, 3) := by decide +kernel
theorem own_d19_12 : decode jdk_42_method_147_code 12 = .ok (.iconst 0, 1) := by decide +kernel
theorem own_d19_13 : decode jdk_42_method_147_code 13 = .ok (.aload_n 1, 1) := by decide +kernel
theorem own_d19_14 : decode jdk_42_method_147_code 14 = .ok (.iload_n 2, 1) := by decide +kernel
theorem own_d19_15 : decode jdk_42_method_147_code 15 = .ok (.iload_n 3, 1) := by decide +kernel
theorem own_d19_16 : decode jdk_42_method_147_code 16 = .ok (.ishl, 1) := by decide +kernel
theorem own_d19_17 : decode jdk_42_method_147_code 17 = .ok (.aload_n 0, 1) := by decide +kernel
theorem own_d19_18 : decode jdk_42_method_147_code 18 = .ok (.getfield 9, 3) := by decide +kernel
theorem own_d19_21 : decode jdk_42_method_147_code 21 = .ok (.arraylength, 1) := by decide +kernel
theorem own_d19_22 : decode jdk_42_method_147_code 22 = .ok (.invokestatic 212, 3) := by decide +kernel
theorem own_d19_25 : decode jdk_42_method_147_code 25 = .ok (.goto 18, 3) := by decide +kernel
theorem own_d19_28 : decode jdk_42_method_147_code 28 = .ok (.aload_n 0, 1) := by decide +kernel
theorem own_d19_29 : decode jdk_42_method_147_code 29 = .ok (.getfield 9, 3) := by decide +kernel
theorem own_d19_32 : decode jdk_42_method_147_code 32 = .ok (.iconst 0, 1) := by decide +kernel
theorem own_d19_33 : decode jdk_42_method_147_code 33 = .ok (.aload_n 1, 1) := by decide +kernel
theorem own_d19_34 : decode jdk_42_method_147_code 34 = .ok (.iload_n 2, 1) := by decide +kernel
theorem own_d19_35 : decode jdk_42_method_147_code 35 = .ok (.aload_n 0, 1) := by decide +kernel
theorem own_d19_36 : decode jdk_42_method_147_code 36 = .ok (.getfield 9, 3) := by decide +kernel
theorem own_d19_39 : decode jdk_42_method_147_code 39 = .ok (.arraylength, 1) := by decide +kernel
theorem own_d19_40 : decode jdk_42_method_147_code 40 = .ok (.invokestatic 106, 3) := by decide +kernel
theorem own_d19_43 : decode jdk_42_method_147_code 43 = .ok (.return_, 1) := by decide +kernel
theorem own_pd_pABIBqV : parseMethodDescriptor "([BIB)V" = some ⟨[(.array .byte), .int, .byte], none⟩ := by decide +kernel
theorem own_ef_own_d19 (m : MethodId) (x0 : Addr) (x1 : Addr) (x2 : Int32) (x3 : Int32) : entryFrame m #[(.ref x0), (.ref x1), (.int x2), (.int x3)] 4 = mkF m 0 #[.val (.ref x0), .val (.ref x1), .val (.int x2), .val (.int x3)] [] := by
  first | (simp [entryFrame, mkF, argsToLocals, Value.category]; done) | rfl
set_option maxRecDepth 65536 in
set_option maxHeartbeats 40000000 in
theorem own_getBytes (l : Launch) (Z : State) (a0 : Array Value) (hw : ∀ d ∈ tables_1, d.before a0 Z = true) (r tr : Addr) (cr : ClassId) (ds : List Nat) (t : Addr) (ct : ClassId) (cs : List Nat) (G1 : Int32) (hG : ¬ G1 = 0) (SG : Sta Z Z.heap "java/lang/String" "COMPACT_STRINGS" "Z" (.int G1)) (h0 : Heap) (n0 : Nat) (O : Old Z n0 h0) (ht : n0 ≤ t) (R : StrL Z h0 r tr cr ds) (At : Ary Z h0 t ct .byte (lat cs ++ List.replicate (16 - cs.length) (.int 0))) (hn : cs.length + ds.length ≤ 16) :
    Ctr l Z n0 (⟨"java/lang/String", "getBytes", "([BIB)V"⟩ : MethodName) jdk_42_method_147_code 4 none [] ({ frames := 1, cells := 0, slots := 0, locals := 18 } : Room) #[(.ref r), (.ref t), (.int (Int32.ofNat cs.length)), (.int (0 : Int32))] h0 [t] (fun v h => v = none ∧ Ary Z h t ct .byte (lat (cs ++ ds) ++ List.replicate (16 - (cs ++ ds).length) (.int 0))) := by
  refine enter (plainFor_of_name own_pn_java_lang_String) (fun m => own_ef_own_d19 m r t (Int32.ofNat cs.length) (0 : Int32)) O (allS ht all0) ?_
  intro p e s m below meth c T w
  refine i_aloadN w own_d19_0 rfl rfl (pc' := 1) rfl ?_
  refine c_virtual w (y := (⟨"java/lang/String", "coder", "()B"⟩ : MethodName)) (C := "java/lang/String") (a := r) (argsL := []) (st := []) own_d19_1 (hw _ (List.mem_of_getElem? (i := 93) rfl)) (hw _ (List.mem_of_getElem? (i := 94) rfl)) (hw _ (List.mem_of_getElem? (i := 96) rfl)) (hw _ (List.mem_of_getElem? (i := 95) rfl)) (hw _ (List.mem_of_getElem? (i := 97) rfl)) (hw _ (List.mem_of_getElem? (i := 2) rfl)) (by decide) own_pd_pqB rfl R.1 (own_coder l Z a0 hw r 0 G1 hG SG h0 n0 w.old R.2.2.1 (Or.inl rfl)) rfl (by decide) (W := 0) (Nat.le_of_eq rfl) (by decide) (by decide) (by decide) (fun _ q => nomatch q) (pc' := 4) rfl ?_
  intro v71 T71 h71 w71 K71 q71
  obtain ⟨rfl, rfl⟩ := q71
  show Goes p e below _ T71 (mkF m 4 #[.val (.ref r), .val (.ref t), .val (.int (Int32.ofNat cs.length)), .val (.int (0 : Int32))] [(.int (0 : Int32))])
  refine i_iloadN w71 own_d19_4 rfl (pc' := 5) rfl ?_
  refine i_icmp_ne_N w71 rfl own_d19_5 (pc' := 8) rfl ?_
  refine i_aloadN w71 own_d19_8 rfl rfl (pc' := 9) rfl ?_
  refine i_getF w71 own_d19_9 (hw _ (List.mem_of_getElem? (i := 92) rfl)) R.2.1 (pc' := 12) rfl ?_
  intro T72 w72
  refine i_iconst w72 own_d19_12 (z := (0 : Int32)) (by decide) (pc' := 13) rfl ?_
  refine i_aloadN w72 own_d19_13 rfl rfl (pc' := 14) rfl ?_
  refine i_iloadN w72 own_d19_14 rfl (pc' := 15) rfl ?_
  refine i_iloadN w72 own_d19_15 rfl (pc' := 16) rfl ?_
  refine i_ishl w72 own_d19_16 (pc' := 17) rfl ?_
  rw [own_shl0]
  show Goes p e below _ T72 (mkF m 17 #[.val (.ref r), .val (.ref t), .val (.int (Int32.ofNat cs.length)), .val (.int (0 : Int32))] [(.int (Int32.ofNat cs.length)), (.ref t), (.int (0 : Int32)), (.ref tr)])
  refine i_aloadN w72 own_d19_17 rfl rfl (pc' := 18) rfl ?_
  refine i_getF w72 own_d19_18 (hw _ (List.mem_of_getElem? (i := 92) rfl)) R.2.1 (pc' := 21) rfl ?_
  intro T73 w73
  refine i_len w73 own_d19_21 R.2.2.2.1 (z := Int32.ofNat ds.length) (by rw [lat_len]) (pc' := 22) rfl ?_
  refine i_acopy w73 (sp := 0) (dp := cs.length) (nn := ds.length) own_d19_22 (hw _ (List.mem_of_getElem? (i := 123) rfl)) (hw _ (List.mem_of_getElem? (i := 126) rfl)) (hw _ (List.mem_of_getElem? (i := 124) rfl)) (hw _ (List.mem_of_getElem? (i := 125) rfl)) R.2.2.2.1 At rfl (by rw [lat_len]; omega) (by rw [own_len16 (by omega)]; exact hn) (Or.inl (List.mem_singleton.mpr rfl)) rfl (by decide) (W := 0) (Nat.le_of_eq rfl) (by decide) (pc' := 25) rfl ?_
  intro T74 h74 w74 K74 Ad
  show Goes p e below _ T74 (mkF m 25 #[.val (.ref r), .val (.ref t), .val (.int (Int32.ofNat cs.length)), .val (.int (0 : Int32))] [])
  rw [own_put hn] at Ad
  refine i_goto w74 own_d19_25 (pc' := 43) (by decide) ?_
  exact i_ret0 w74 own_d19_43 rfl ⟨rfl, Ad⟩ (by decide) (by decide)
theorem own_d17_0 : decode jdk_68_method_73_code 0 = .ok (.aload_n 0, 1) := by decide +kernel
theorem own_d17_1 : decode jdk_68_method_73_code 1 = .ok (.aload_n 2, 1) := by decide +kernel
theorem own_d17_2 : decode jdk_68_method_73_code 2 = .ok (.invokevirtual 397, 3) := by decide +kernel
theorem own_d17_5 : decode jdk_68_method_73_code 5 = .ok (.aload_n 2, 1) := by decide +kernel
theorem own_d17_6 : decode jdk_68_method_73_code 6 = .ok (.aload_n 0, 1) := by decide +kernel
theorem own_d17_7 : decode jdk_68_method_73_code 7 = .ok (.getfield 15, 3) := by decide +kernel
theorem own_d17_10 : decode jdk_68_method_73_code 10 = .ok (.iload_n 1, 1) := by decide +kernel
theorem own_d17_11 : decode jdk_68_method_73_code 11 = .ok (.aload_n 0, 1) := by decide +kernel
theorem own_d17_12 : decode jdk_68_method_73_code 12 = .ok (.getfield 22, 3) := by decide +kernel
theorem own_d17_15 : decode jdk_68_method_73_code 15 = .ok (.invokevirtual 399, 3) := by decide +kernel
theorem own_d17_18 : decode jdk_68_method_73_code 18 = .ok (.return_, 1) := by decide +kernel
theorem own_pd_pILjava_lang_StringeqV : parseMethodDescriptor "(ILjava/lang/String;)V" = some ⟨[.int, (.object "java/lang/String")], none⟩ := by decide +kernel
theorem own_ef_own_d17 (m : MethodId) (x0 : Addr) (x1 : Int32) (x2 : Addr) : entryFrame m #[(.ref x0), (.int x1), (.ref x2)] 3 = mkF m 0 #[.val (.ref x0), .val (.int x1), .val (.ref x2)] [] := by
  first | (simp [entryFrame, mkF, argsToLocals, Value.category]; done) | rfl
set_option maxRecDepth 65536 in
set_option maxHeartbeats 40000000 in
theorem own_putAt (l : Launch) (Z : State) (a0 : Array Value) (hw : ∀ d ∈ tables_1, d.before a0 Z = true) (sb t : Addr) (ct : ClassId) (cs : List Nat) (r tr : Addr) (cr : ClassId) (ds : List Nat) (G1 : Int32) (hG : ¬ G1 = 0) (SG : Sta Z Z.heap "java/lang/String" "COMPACT_STRINGS" "Z" (.int G1)) (h0 : Heap) (n0 : Nat) (O : Old Z n0 h0) (ht : n0 ≤ t) (S : SBd Z h0 sb t ct cs) (R : StrL Z h0 r tr cr ds) (hn : cs.length + ds.length ≤ 16) :
    Ctr l Z n0 (⟨"java/lang/AbstractStringBuilder", "putStringAt", "(ILjava/lang/String;)V"⟩ : MethodName) jdk_68_method_73_code 3 none [] ({ frames := 2, cells := 0, slots := 0, locals := 33 } : Room) #[(.ref sb), (.int (Int32.ofNat cs.length)), (.ref r)] h0 [t] (fun v h => v = none ∧ Ary Z h t ct .byte (lat (cs ++ ds) ++ List.replicate (16 - (cs ++ ds).length) (.int 0))) := by
  refine enter (plainFor_of_name own_pn_java_lang_AbstractStringBuilder) (fun m => own_ef_own_d17 m sb (Int32.ofNat cs.length) r) O (allS ht all0) ?_
  intro p e s m below meth c T w
  refine i_aloadN w own_d17_0 rfl rfl (pc' := 1) rfl ?_
  refine i_aloadN w own_d17_1 rfl rfl (pc' := 2) rfl ?_
  refine c_virtual w (y := (⟨"java/lang/AbstractStringBuilder", "inflateIfNeededFor", "(Ljava/lang/String;)V"⟩ : MethodName)) (C := "java/lang/StringBuilder") (a := sb) (argsL := [(.ref r)]) (st := []) own_d17_2 (hw _ (List.mem_of_getElem? (i := 112) rfl)) (decl_of (hw _ (List.mem_of_getElem? (i := 113) rfl)) (hw _ (List.mem_of_getElem? (i := 116) rfl))) (hw _ (List.mem_of_getElem? (i := 115) rfl)) (hw _ (List.mem_of_getElem? (i := 113) rfl)) (hw _ (List.mem_of_getElem? (i := 116) rfl)) (hw _ (List.mem_of_getElem? (i := 68) rfl)) (by decide) own_pd_pLjava_lang_StringeqV rfl S.1 (own_inflIf l Z a0 hw sb t ct cs r tr cr ds G1 hG SG h0 n0 w.old S R) rfl (by decide) (W := 0) (Nat.le_of_eq rfl) (by decide) (by decide) (by decide) (fun _ q => nomatch q) (pc' := 5) rfl ?_
  intro v75 T75 h75 w75 K75 q75
  obtain ⟨rfl, rfl⟩ := q75
  show Goes p e below _ T75 (mkF m 5 #[.val (.ref sb), .val (.int (Int32.ofNat cs.length)), .val (.ref r)] [])
  refine i_aloadN w75 own_d17_5 rfl rfl (pc' := 6) rfl ?_
  refine i_aloadN w75 own_d17_6 rfl rfl (pc' := 7) rfl ?_
  refine i_getF w75 own_d17_7 (hw _ (List.mem_of_getElem? (i := 72) rfl)) S.2.1 (pc' := 10) rfl ?_
  intro T76 w76
  refine i_iloadN w76 own_d17_10 rfl (pc' := 11) rfl ?_
  refine i_aloadN w76 own_d17_11 rfl rfl (pc' := 12) rfl ?_
  refine i_getF w76 own_d17_12 (hw _ (List.mem_of_getElem? (i := 74) rfl)) S.2.2.1 (pc' := 15) rfl ?_
  intro T77 w77
  refine c_virtual w77 (y := (⟨"java/lang/String", "getBytes", "([BIB)V"⟩ : MethodName)) (C := "java/lang/String") (a := r) (argsL := [(.ref t), (.int (Int32.ofNat cs.length)), (.int (0 : Int32))]) (st := []) own_d17_15 (hw _ (List.mem_of_getElem? (i := 118) rfl)) (hw _ (List.mem_of_getElem? (i := 119) rfl)) (hw _ (List.mem_of_getElem? (i := 121) rfl)) (hw _ (List.mem_of_getElem? (i := 120) rfl)) (hw _ (List.mem_of_getElem? (i := 122) rfl)) (hw _ (List.mem_of_getElem? (i := 2) rfl)) (by decide) own_pd_pABIBqV rfl R.1 (own_getBytes l Z a0 hw r tr cr ds t ct cs G1 hG SG h0 n0 w77.old ht R S.2.2.2.2.1 hn) rfl (by decide) (W := 0) (Nat.le_of_eq rfl) (by decide) (by decide) (by decide) (allS (Or.inl (List.mem_singleton.mpr rfl)) all0) (pc' := 18) rfl ?_
  intro v78 T78 h78 w78 K78 q78
  obtain ⟨rfl, At⟩ := q78
  show Goes p e below _ T78 (mkF m 18 #[.val (.ref sb), .val (.int (Int32.ofNat cs.length)), .val (.ref r)] [])
  exact i_ret0 w78 own_d17_18 rfl ⟨rfl, At⟩ (by decide) (by decide)
theorem own_d13_0 : decode jdk_68_method_22_code 0 = .ok (.aload_n 1, 1) := by decide +kernel
theorem own_d13_1 : decode jdk_68_method_22_code 1 = .ok (.ifnonnull 8, 3) := by decide +kernel
theorem own_d13_4 : decode jdk_68_method_22_code 4 = .ok (.aload_n 0, 1) := by decide +kernel
theorem own_d13_5 : decode jdk_68_method_22_code 5 = .ok (.invokevirtual 204, 3) := by decide +kernel
theorem own_d13_8 : decode jdk_68_method_22_code 8 = .ok (.areturn, 1) := by decide +kernel
theorem own_d13_9 : decode jdk_68_method_22_code 9 = .ok (.aload_n 1, 1) := by decide +kernel
theorem own_d13_10 : decode jdk_68_method_22_code 10 = .ok (.invokevirtual 32, 3) := by decide +kernel
theorem own_d13_13 : decode jdk_68_method_22_code 13 = .ok (.istore_n 2, 1) := by decide +kernel
theorem own_d13_14 : decode jdk_68_method_22_code 14 = .ok (.aload_n 0, 1) := by decide +kernel
theorem own_d13_15 : decode jdk_68_method_22_code 15 = .ok (.aload_n 0, 1) := by decide +kernel
theorem own_d13_16 : decode jdk_68_method_22_code 16 = .ok (.getfield 79, 3) := by decide +kernel
theorem own_d13_19 : decode jdk_68_method_22_code 19 = .ok (.iload_n 2, 1) := by decide +kernel
theorem own_d13_20 : decode jdk_68_method_22_code 20 = .ok (.iadd, 1) := by decide +kernel
theorem own_d13_21 : decode jdk_68_method_22_code 21 = .ok (.invokevirtual 100, 3) := by decide +kernel
theorem own_d13_24 : decode jdk_68_method_22_code 24 = .ok (.aload_n 0, 1) := by decide +kernel
theorem own_d13_25 : decode jdk_68_method_22_code 25 = .ok (.aload_n 0, 1) := by decide +kernel
theorem own_d13_26 : decode jdk_68_method_22_code 26 = .ok (.getfield 79, 3) := by decide +kernel
theorem own_d13_29 : decode jdk_68_method_22_code 29 = .ok (.aload_n 1, 1) := by decide +kernel
theorem own_d13_30 : decode jdk_68_method_22_code 30 = .ok (.invokevirtual 208, 3) := by decide +kernel
theorem own_d13_33 : decode jdk_68_method_22_code 33 = .ok (.aload_n 0, 1) := by decide +kernel
theorem own_d13_34 : decode jdk_68_method_22_code 34 = .ok (.dup, 1) := by decide +kernel
theorem own_d13_35 : decode jdk_68_method_22_code 35 = .ok (.getfield 79, 3) := by decide +kernel
theorem own_d13_38 : decode jdk_68_method_22_code 38 = .ok (.iload_n 2, 1) := by decide +kernel
theorem own_d13_39 : decode jdk_68_method_22_code 39 = .ok (.iadd, 1) := by decide +kernel
theorem own_d13_40 : decode jdk_68_method_22_code 40 = .ok (.putfield 79, 3) := by decide +kernel
theorem own_d13_43 : decode jdk_68_method_22_code 43 = .ok (.aload_n 0, 1) := by decide +kernel
theorem own_d13_44 : decode jdk_68_method_22_code 44 = .ok (.areturn, 1) := by decide +kernel
theorem own_pd_pLjava_lang_StringeqLjava_lang_AbstractStringBuildere : parseMethodDescriptor "(Ljava/lang/String;)Ljava/lang/AbstractStringBuilder;" = some ⟨[(.object "java/lang/String")], some (.object "java/lang/AbstractStringBuilder")⟩ := by decide +kernel
theorem own_ef_own_d13 (m : MethodId) (x0 : Addr) (x1 : Addr) : entryFrame m #[(.ref x0), (.ref x1)] 3 = mkF m 0 #[.val (.ref x0), .val (.ref x1), .unset] [] := by
  first | (simp [entryFrame, mkF, argsToLocals, Value.category]; done) | rfl
set_option maxRecDepth 65536 in
set_option maxHeartbeats 40000000 in
theorem own_abApp (l : Launch) (Z : State) (a0 : Array Value) (hw : ∀ d ∈ tables_1, d.before a0 Z = true) (sb t : Addr) (ct : ClassId) (cs : List Nat) (r tr : Addr) (cr : ClassId) (ds : List Nat) (G1 : Int32) (hG : ¬ G1 = 0) (SG : Sta Z Z.heap "java/lang/String" "COMPACT_STRINGS" "Z" (.int G1)) (h0 : Heap) (n0 : Nat) (O : Old Z n0 h0) (ha : n0 ≤ sb) (ht : n0 ≤ t) (hbt : sb ≠ t) (S : SBd Z h0 sb t ct cs) (R : StrL Z h0 r tr cr ds) (hn : cs.length + ds.length ≤ 16) :
    Ctr l Z n0 (⟨"java/lang/AbstractStringBuilder", "append", "(Ljava/lang/String;)Ljava/lang/AbstractStringBuilder;"⟩ : MethodName) jdk_68_method_22_code 3 (some (.object "java/lang/AbstractStringBuilder")) [] ({ frames := 3, cells := 0, slots := 0, locals := 47 } : Room) #[(.ref sb), (.ref r)] h0 [sb, t] (fun v h => v = some (.ref sb) ∧ SBd Z h sb t ct (cs ++ ds)) := by
  refine enter (plainFor_of_name own_pn_java_lang_AbstractStringBuilder) (fun m => own_ef_own_d13 m sb r) O (allS ha (allS ht all0)) ?_
  intro p e s m below meth c T w
  refine i_aloadN w own_d13_0 rfl rfl (pc' := 1) rfl ?_
  refine i_ifnonnull_Y w own_d13_1 (pc' := 9) (by decide) ?_
  refine i_aloadN w own_d13_9 rfl rfl (pc' := 10) rfl ?_
  refine c_virtual w (y := (⟨"java/lang/String", "length", "()I"⟩ : MethodName)) (C := "java/lang/String") (a := r) (argsL := []) (st := []) own_d13_10 (hw _ (List.mem_of_getElem? (i := 87) rfl)) (hw _ (List.mem_of_getElem? (i := 88) rfl)) (hw _ (List.mem_of_getElem? (i := 90) rfl)) (hw _ (List.mem_of_getElem? (i := 89) rfl)) (hw _ (List.mem_of_getElem? (i := 91) rfl)) (hw _ (List.mem_of_getElem? (i := 2) rfl)) (by decide) own_pd_pqI rfl R.1 (own_length l Z a0 hw r tr cr ds G1 hG SG h0 n0 w.old (Or.inl R)) rfl (by decide) (W := 0) (Nat.le_of_eq rfl) (by decide) (by decide) (by decide) (fun _ q => nomatch q) (pc' := 13) rfl ?_
  intro v80 T80 h80 w80 K80 q80
  obtain ⟨rfl, rfl⟩ := q80
  show Goes p e below _ T80 (mkF m 13 #[.val (.ref sb), .val (.ref r), .unset] [(.int (Int32.ofNat ds.length))])
  refine i_istoreN w80 own_d13_13 (l' := #[.val (.ref sb), .val (.ref r), .val (.int (Int32.ofNat ds.length))]) rfl (pc' := 14) rfl ?_
  refine i_aloadN w80 own_d13_14 rfl rfl (pc' := 15) rfl ?_
  refine i_aloadN w80 own_d13_15 rfl rfl (pc' := 16) rfl ?_
  refine i_getF w80 own_d13_16 (hw _ (List.mem_of_getElem? (i := 100) rfl)) S.2.2.2.1 (pc' := 19) rfl ?_
  intro T81 w81
  refine i_iloadN w81 own_d13_19 rfl (pc' := 20) rfl ?_
  refine i_iadd w81 own_d13_20 (pc' := 21) rfl ?_
  rw [add_nat]
  show Goes p e below _ T81 (mkF m 21 #[.val (.ref sb), .val (.ref r), .val (.int (Int32.ofNat ds.length))] [(.int (Int32.ofNat (cs.length + ds.length))), (.ref sb)])
  refine c_virtual w81 (y := (⟨"java/lang/AbstractStringBuilder", "ensureCapacityInternal", "(I)V"⟩ : MethodName)) (C := "java/lang/StringBuilder") (a := sb) (argsL := [(.int (Int32.ofNat (cs.length + ds.length)))]) (st := []) own_d13_21 (hw _ (List.mem_of_getElem? (i := 102) rfl)) (decl_of (hw _ (List.mem_of_getElem? (i := 103) rfl)) (hw _ (List.mem_of_getElem? (i := 106) rfl))) (hw _ (List.mem_of_getElem? (i := 105) rfl)) (hw _ (List.mem_of_getElem? (i := 103) rfl)) (hw _ (List.mem_of_getElem? (i := 106) rfl)) (hw _ (List.mem_of_getElem? (i := 68) rfl)) (by decide) own_pd_pIqV rfl S.1 (own_ensure l Z a0 hw sb t ct cs (cs.length + ds.length) h0 n0 w81.old S hn) rfl (by decide) (W := 0) (Nat.le_of_eq rfl) (by decide) (by decide) (by decide) (fun _ q => nomatch q) (pc' := 24) rfl ?_
  intro v82 T82 h82 w82 K82 q82
  obtain ⟨rfl, rfl⟩ := q82
  show Goes p e below _ T82 (mkF m 24 #[.val (.ref sb), .val (.ref r), .val (.int (Int32.ofNat ds.length))] [])
  refine i_aloadN w82 own_d13_24 rfl rfl (pc' := 25) rfl ?_
  refine i_aloadN w82 own_d13_25 rfl rfl (pc' := 26) rfl ?_
  refine i_getF w82 own_d13_26 (hw _ (List.mem_of_getElem? (i := 100) rfl)) S.2.2.2.1 (pc' := 29) rfl ?_
  intro T83 w83
  refine i_aloadN w83 own_d13_29 rfl rfl (pc' := 30) rfl ?_
  refine c_virtual w83 (y := (⟨"java/lang/AbstractStringBuilder", "putStringAt", "(ILjava/lang/String;)V"⟩ : MethodName)) (C := "java/lang/StringBuilder") (a := sb) (argsL := [(.int (Int32.ofNat cs.length)), (.ref r)]) (st := []) own_d13_30 (hw _ (List.mem_of_getElem? (i := 107) rfl)) (decl_of (hw _ (List.mem_of_getElem? (i := 108) rfl)) (hw _ (List.mem_of_getElem? (i := 111) rfl))) (hw _ (List.mem_of_getElem? (i := 110) rfl)) (hw _ (List.mem_of_getElem? (i := 108) rfl)) (hw _ (List.mem_of_getElem? (i := 111) rfl)) (hw _ (List.mem_of_getElem? (i := 68) rfl)) (by decide) own_pd_pILjava_lang_StringeqV rfl S.1 (own_putAt l Z a0 hw sb t ct cs r tr cr ds G1 hG SG h0 n0 w83.old ht S R hn) rfl (by decide) (W := 0) (Nat.le_of_eq rfl) (by decide) (by decide) (by decide) (allS (Or.inl (List.mem_cons_of_mem _ (List.mem_singleton.mpr rfl))) all0) (pc' := 33) rfl ?_
  intro v84 T84 h84 w84 K84 q84
  obtain ⟨rfl, At⟩ := q84
  show Goes p e below _ T84 (mkF m 33 #[.val (.ref sb), .val (.ref r), .val (.int (Int32.ofNat ds.length))] [])
  have Ea1 := S.1.keep K84
  have Fv1 := S.2.1.keep K84 (ninS hbt nin0)
  have Fc1 := S.2.2.1.keep K84 (ninS hbt nin0)
  have Fn1 := S.2.2.2.1.keep K84 (ninS hbt nin0)
  refine i_aloadN w84 own_d13_33 rfl rfl (pc' := 34) rfl ?_
  refine i_dup w84 own_d13_34 rfl (pc' := 35) rfl ?_
  refine i_getF w84 own_d13_35 (hw _ (List.mem_of_getElem? (i := 100) rfl)) Fn1 (pc' := 38) rfl ?_
  intro T86 w86
  refine i_iloadN w86 own_d13_38 rfl (pc' := 39) rfl ?_
  refine i_iadd w86 own_d13_39 (pc' := 40) rfl ?_
  rw [add_nat]
  show Goes p e below _ T86 (mkF m 40 #[.val (.ref sb), .val (.ref r), .val (.int (Int32.ofNat ds.length))] [(.int (Int32.ofNat (cs.length + ds.length))), (.ref sb)])
  refine i_putF w86 own_d13_40 (hw _ (List.mem_of_getElem? (i := 100) rfl)) Fn1 Ea1 (Or.inl (hw _ (List.mem_of_getElem? (i := 101) rfl))) (hw _ (List.mem_of_getElem? (i := 59) rfl)) (ty := .int) (by decide) rfl rfl (Or.inl List.mem_cons_self) (pc' := 43) rfl ?_
  intro T87 h87 w87 W87
  show Goes p e below _ T87 (mkF m 43 #[.val (.ref sb), .val (.ref r), .val (.int (Int32.ofNat ds.length))] [])
  have Fn2 := Fld.same W87 Fn1
  have Fv2 := Fv1.other W87 (Or.inr (slot_ne (Or.inl (hw _ (List.mem_of_getElem? (i := 73) rfl))) (Or.inl (hw _ (List.mem_of_getElem? (i := 101) rfl))) (by decide) (t := (.array .byte)) (t' := .int) (by decide) (by decide)))
  have Fc2 := Fc1.other W87 (Or.inr (slot_ne (Or.inl (hw _ (List.mem_of_getElem? (i := 75) rfl))) (Or.inl (hw _ (List.mem_of_getElem? (i := 101) rfl))) (by decide) (t := .byte) (t' := .int) (by decide) (by decide)))
  have Ea2 := Ea1.wr W87
  have At2 := At.other W87 (Ne.symm hbt)
  rw [← List.length_append] at Fn2
  refine i_aloadN w87 own_d13_43 rfl rfl (pc' := 44) rfl ?_
  exact i_retA w87 own_d13_44 rfl rfl rfl ⟨rfl, Ea2, Fv2, Fc2, Fn2, At2, fun c hc => (List.mem_append.mp hc).elim (S.2.2.2.2.2.1 c) (R.2.2.2.2 c), by rw [List.length_append]; exact hn⟩ (by decide) (by decide)
theorem own_d12_0 : decode jdk_67_method_7_code 0 = .ok (.aload_n 0, 1) := by decide +kernel
theorem own_d12_1 : decode jdk_67_method_7_code 1 = .ok (.aload_n 1, 1) := by decide +kernel
theorem own_d12_2 : decode jdk_67_method_7_code 2 = .ok (.invokespecial 29, 3) := by decide +kernel
theorem own_d12_5 : decode jdk_67_method_7_code 5 = .ok (.pop, 1) := by decide +kernel
theorem own_d12_6 : decode jdk_67_method_7_code 6 = .ok (.aload_n 0, 1) := by decide +kernel
theorem own_d12_7 : decode jdk_67_method_7_code 7 = .ok (.areturn, 1) := by decide +kernel
theorem own_pd_pLjava_lang_StringeqLjava_lang_StringBuildere : parseMethodDescriptor "(Ljava/lang/String;)Ljava/lang/StringBuilder;" = some ⟨[(.object "java/lang/String")], some (.object "java/lang/StringBuilder")⟩ := by decide +kernel
theorem own_ef_own_d12 (m : MethodId) (x0 : Addr) (x1 : Addr) : entryFrame m #[(.ref x0), (.ref x1)] 2 = mkF m 0 #[.val (.ref x0), .val (.ref x1)] [] := by
  first | (simp [entryFrame, mkF, argsToLocals, Value.category]; done) | rfl
set_option maxRecDepth 65536 in
set_option maxHeartbeats 40000000 in
theorem own_sbApp (l : Launch) (Z : State) (a0 : Array Value) (hw : ∀ d ∈ tables_1, d.before a0 Z = true) (sb t : Addr) (ct : ClassId) (cs : List Nat) (r tr : Addr) (cr : ClassId) (ds : List Nat) (G1 : Int32) (hG : ¬ G1 = 0) (SG : Sta Z Z.heap "java/lang/String" "COMPACT_STRINGS" "Z" (.int G1)) (h0 : Heap) (n0 : Nat) (O : Old Z n0 h0) (ha : n0 ≤ sb) (ht : n0 ≤ t) (hbt : sb ≠ t) (S : SBd Z h0 sb t ct cs) (R : StrL Z h0 r tr cr ds) (hn : cs.length + ds.length ≤ 16) :
    Ctr l Z n0 (⟨"java/lang/StringBuilder", "append", "(Ljava/lang/String;)Ljava/lang/StringBuilder;"⟩ : MethodName) jdk_67_method_7_code 2 (some (.object "java/lang/StringBuilder")) [] ({ frames := 4, cells := 0, slots := 0, locals := 61 } : Room) #[(.ref sb), (.ref r)] h0 [sb, t] (fun v h => v = some (.ref sb) ∧ SBd Z h sb t ct (cs ++ ds)) := by
  refine enter (plainFor_of_name own_pn_java_lang_StringBuilder) (fun m => own_ef_own_d12 m sb r) O (allS ha (allS ht all0)) ?_
  intro p e s m below meth c T w
  refine i_aloadN w own_d12_0 rfl rfl (pc' := 1) rfl ?_
  refine i_aloadN w own_d12_1 rfl rfl (pc' := 2) rfl ?_
  refine c_super w (y := (⟨"java/lang/AbstractStringBuilder", "append", "(Ljava/lang/String;)Ljava/lang/AbstractStringBuilder;"⟩ : MethodName)) (C := "java/lang/StringBuilder") (a := sb) (argsL := [(.ref r)]) (st := []) own_d12_2 (by decide) (hw _ (List.mem_of_getElem? (i := 82) rfl)) (hw _ (List.mem_of_getElem? (i := 83) rfl)) (hw _ (List.mem_of_getElem? (i := 68) rfl)) (hw _ (List.mem_of_getElem? (i := 86) rfl)) (hw _ (List.mem_of_getElem? (i := 84) rfl)) (face_of (hw _ (List.mem_of_getElem? (i := 105) rfl)) rfl) (by decide) own_pd_pLjava_lang_StringeqLjava_lang_AbstractStringBuildere rfl S.1 (own_abApp l Z a0 hw sb t ct cs r tr cr ds G1 hG SG h0 n0 w.old ha ht hbt S R hn) rfl (by decide) (W := 0) (Nat.le_of_eq rfl) (by decide) (by decide) (by decide) (fun x q => Or.inl q) (pc' := 5) rfl ?_
  intro v88 T88 h88 w88 K88 q88
  obtain ⟨rfl, Sd⟩ := q88
  show Goes p e below _ T88 (mkF m 5 #[.val (.ref sb), .val (.ref r)] [(.ref sb)])
  refine i_pop w88 own_d12_5 rfl (pc' := 6) rfl ?_
  refine i_aloadN w88 own_d12_6 rfl rfl (pc' := 7) rfl ?_
  exact i_retA w88 own_d12_7 rfl rfl rfl ⟨rfl, Sd⟩ (by decide) (by decide)
theorem own_d23_0 : decode jdk_68_method_64_code 0 = .ok (.aload_n 0, 1) := by decide +kernel
theorem own_d23_1 : decode jdk_68_method_64_code 1 = .ok (.getfield 15, 3) := by decide +kernel
theorem own_d23_4 : decode jdk_68_method_64_code 4 = .ok (.areturn, 1) := by decide +kernel
theorem own_pd_pqAB : parseMethodDescriptor "()[B" = some ⟨[], some (.array .byte)⟩ := by decide +kernel
theorem own_ef_own_d23 (m : MethodId) (x0 : Addr) : entryFrame m #[(.ref x0)] 1 = mkF m 0 #[.val (.ref x0)] [] := by
  first | (simp [entryFrame, mkF, argsToLocals, Value.category]; done) | rfl
set_option maxRecDepth 65536 in
set_option maxHeartbeats 40000000 in
theorem own_getValue (l : Launch) (Z : State) (a0 : Array Value) (hw : ∀ d ∈ tables_1, d.before a0 Z = true) (sb t : Addr) (ct : ClassId) (cs : List Nat)  (h0 : Heap) (n0 : Nat) (O : Old Z n0 h0) (S : SBd Z h0 sb t ct cs) :
    Ctr l Z n0 (⟨"java/lang/AbstractStringBuilder", "getValue", "()[B"⟩ : MethodName) jdk_68_method_64_code 1 (some (.array .byte)) [] ({ frames := 0, cells := 0, slots := 0, locals := 0 } : Room) #[(.ref sb)] h0 [] (fun v h => v = some (.ref t) ∧ h0 = h) := by
  refine enter (plainFor_of_name own_pn_java_lang_AbstractStringBuilder) (fun m => own_ef_own_d23 m sb) O (fun _ q => nomatch q) ?_
  intro p e s m below meth c T w
  refine i_aloadN w own_d23_0 rfl rfl (pc' := 1) rfl ?_
  refine i_getF w own_d23_1 (hw _ (List.mem_of_getElem? (i := 72) rfl)) S.2.1 (pc' := 4) rfl ?_
  intro T90 w90
  exact i_retA w90 own_d23_4 rfl rfl rfl ⟨rfl, rfl⟩ (by decide) (by decide)
theorem own_d25_0 : decode jdk_68_method_6_code 0 = .ok (.aload_n 0, 1) := by decide +kernel
theorem own_d25_1 : decode jdk_68_method_6_code 1 = .ok (.getfield 79, 3) := by decide +kernel
theorem own_d25_4 : decode jdk_68_method_6_code 4 = .ok (.ireturn, 1) := by decide +kernel
theorem own_ef_own_d25 (m : MethodId) (x0 : Addr) : entryFrame m #[(.ref x0)] 1 = mkF m 0 #[.val (.ref x0)] [] := by
  first | (simp [entryFrame, mkF, argsToLocals, Value.category]; done) | rfl
set_option maxRecDepth 65536 in
set_option maxHeartbeats 40000000 in
theorem own_abLen (l : Launch) (Z : State) (a0 : Array Value) (hw : ∀ d ∈ tables_1, d.before a0 Z = true) (sb t : Addr) (ct : ClassId) (cs : List Nat)  (h0 : Heap) (n0 : Nat) (O : Old Z n0 h0) (S : SBd Z h0 sb t ct cs) :
    Ctr l Z n0 (⟨"java/lang/AbstractStringBuilder", "length", "()I"⟩ : MethodName) jdk_68_method_6_code 1 (some .int) [] ({ frames := 0, cells := 0, slots := 0, locals := 0 } : Room) #[(.ref sb)] h0 [] (fun v h => v = some (.int (Int32.ofNat cs.length)) ∧ h0 = h) := by
  refine enter (plainFor_of_name own_pn_java_lang_AbstractStringBuilder) (fun m => own_ef_own_d25 m sb) O (fun _ q => nomatch q) ?_
  intro p e s m below meth c T w
  refine i_aloadN w own_d25_0 rfl rfl (pc' := 1) rfl ?_
  refine i_getF w own_d25_1 (hw _ (List.mem_of_getElem? (i := 100) rfl)) S.2.2.2.1 (pc' := 4) rfl ?_
  intro T91 w91
  exact i_retI w91 own_d25_4 rfl ⟨rfl, rfl⟩ (by decide) (by decide)
theorem own_d24_0 : decode jdk_67_method_93_code 0 = .ok (.aload_n 0, 1) := by decide +kernel
theorem own_d24_1 : decode jdk_67_method_93_code 1 = .ok (.invokespecial 343, 3) := by decide +kernel
theorem own_d24_4 : decode jdk_67_method_93_code 4 = .ok (.ireturn, 1) := by decide +kernel
theorem own_ef_own_d24 (m : MethodId) (x0 : Addr) : entryFrame m #[(.ref x0)] 1 = mkF m 0 #[.val (.ref x0)] [] := by
  first | (simp [entryFrame, mkF, argsToLocals, Value.category]; done) | rfl
set_option maxRecDepth 65536 in
set_option maxHeartbeats 40000000 in
theorem own_sbLen (l : Launch) (Z : State) (a0 : Array Value) (hw : ∀ d ∈ tables_1, d.before a0 Z = true) (sb t : Addr) (ct : ClassId) (cs : List Nat)  (h0 : Heap) (n0 : Nat) (O : Old Z n0 h0) (S : SBd Z h0 sb t ct cs) :
    Ctr l Z n0 (⟨"java/lang/StringBuilder", "length", "()I"⟩ : MethodName) jdk_67_method_93_code 1 (some .int) [] ({ frames := 1, cells := 0, slots := 0, locals := 12 } : Room) #[(.ref sb)] h0 [] (fun v h => v = some (.int (Int32.ofNat cs.length)) ∧ h0 = h) := by
  refine enter (plainFor_of_name own_pn_java_lang_StringBuilder) (fun m => own_ef_own_d24 m sb) O (fun _ q => nomatch q) ?_
  intro p e s m below meth c T w
  refine i_aloadN w own_d24_0 rfl rfl (pc' := 1) rfl ?_
  refine c_super w (y := (⟨"java/lang/AbstractStringBuilder", "length", "()I"⟩ : MethodName)) (C := "java/lang/StringBuilder") (a := sb) (argsL := []) (st := []) own_d24_1 (by decide) (hw _ (List.mem_of_getElem? (i := 151) rfl)) (hw _ (List.mem_of_getElem? (i := 147) rfl)) (hw _ (List.mem_of_getElem? (i := 68) rfl)) (hw _ (List.mem_of_getElem? (i := 152) rfl)) (hw _ (List.mem_of_getElem? (i := 84) rfl)) (face_of (hw _ (List.mem_of_getElem? (i := 105) rfl)) rfl) (by decide) own_pd_pqI rfl S.1 (own_abLen l Z a0 hw sb t ct cs h0 n0 w.old S) rfl (by decide) (W := 0) (Nat.le_of_eq rfl) (by decide) (by decide) (by decide) (fun _ q => nomatch q) (pc' := 4) rfl ?_
  intro v92 T92 h92 w92 K92 q92
  obtain ⟨rfl, rfl⟩ := q92
  show Goes p e below _ T92 (mkF m 4 #[.val (.ref sb)] [(.int (Int32.ofNat cs.length))])
  exact i_retI w92 own_d24_4 rfl ⟨rfl, rfl⟩ (by decide) (by decide)
theorem own_d26_0 : decode jdk_68_method_68_code 0 = .ok (.getstatic 18, 3) := by decide +kernel
theorem own_d26_3 : decode jdk_68_method_68_code 3 = .ok (.ifCond .eq 14, 3) := by decide +kernel
theorem own_d26_6 : decode jdk_68_method_68_code 6 = .ok (.aload_n 0, 1) := by decide +kernel
theorem own_d26_7 : decode jdk_68_method_68_code 7 = .ok (.getfield 22, 3) := by decide +kernel
theorem own_d26_10 : decode jdk_68_method_68_code 10 = .ok (.ifCond .ne 7, 3) := by decide +kernel
theorem own_d26_13 : decode jdk_68_method_68_code 13 = .ok (.iconst 1, 1) := by decide +kernel
theorem own_d26_14 : decode jdk_68_method_68_code 14 = .ok (.goto 4, 3) := by decide +kernel
theorem own_d26_17 : decode jdk_68_method_68_code 17 = .ok (.iconst 0, 1) := by decide +kernel
theorem own_d26_18 : decode jdk_68_method_68_code 18 = .ok (.ireturn, 1) := by decide +kernel
theorem own_ef_own_d26 (m : MethodId) (x0 : Addr) : entryFrame m #[(.ref x0)] 1 = mkF m 0 #[.val (.ref x0)] [] := by
  first | (simp [entryFrame, mkF, argsToLocals, Value.category]; done) | rfl
set_option maxRecDepth 65536 in
set_option maxHeartbeats 40000000 in
theorem own_abLat (l : Launch) (Z : State) (a0 : Array Value) (hw : ∀ d ∈ tables_1, d.before a0 Z = true) (sb t : Addr) (ct : ClassId) (cs : List Nat) (G1 : Int32) (hG : ¬ G1 = 0) (SG : Sta Z Z.heap "java/lang/String" "COMPACT_STRINGS" "Z" (.int G1)) (h0 : Heap) (n0 : Nat) (O : Old Z n0 h0) (S : SBd Z h0 sb t ct cs) :
    Ctr l Z n0 (⟨"java/lang/AbstractStringBuilder", "isLatin1", "()Z"⟩ : MethodName) jdk_68_method_68_code 1 (some .boolean) [] ({ frames := 0, cells := 0, slots := 0, locals := 0 } : Room) #[(.ref sb)] h0 [] (fun v h => v = some (.int 1) ∧ h0 = h) := by
  refine enter (plainFor_of_name own_pn_java_lang_AbstractStringBuilder) (fun m => own_ef_own_d26 m sb) O (fun _ q => nomatch q) ?_
  intro p e s m below meth c T w
  refine i_getS w own_d26_0 (hw _ (List.mem_of_getElem? (i := 71) rfl)) SG (pc' := 3) rfl ?_
  intro T93 w93
  refine i_if_eq_N w93 hG own_d26_3 (pc' := 6) rfl ?_
  refine i_aloadN w93 own_d26_6 rfl rfl (pc' := 7) rfl ?_
  refine i_getF w93 own_d26_7 (hw _ (List.mem_of_getElem? (i := 74) rfl)) S.2.2.1 (pc' := 10) rfl ?_
  intro T94 w94
  refine i_if_ne_N w94 rfl own_d26_10 (pc' := 13) rfl ?_
  refine i_iconst w94 own_d26_13 (z := (1 : Int32)) (by decide) (pc' := 14) rfl ?_
  refine i_goto w94 own_d26_14 (pc' := 18) (by decide) ?_
  exact i_retN w94 own_d26_18 rfl (by simp) ⟨rfl, rfl⟩ (by decide) (by decide)
theorem own_d22_0 : decode jdk_42_method_150_code 0 = .ok (.aload_n 0, 1) := by decide +kernel
theorem own_d22_1 : decode jdk_42_method_150_code 1 = .ok (.invokespecial 1, 3) := by decide +kernel
theorem own_d22_4 : decode jdk_42_method_150_code 4 = .ok (.aload_n 1, 1) := by decide +kernel
theorem own_d22_5 : decode jdk_42_method_150_code 5 = .ok (.invokevirtual 552, 3) := by decide +kernel
theorem own_d22_8 : decode jdk_42_method_150_code 8 = .ok (.astore_n 3, 1) := by decide +kernel
theorem own_d22_9 : decode jdk_42_method_150_code 9 = .ok (.aload_n 1, 1) := by decide +kernel
theorem own_d22_10 : decode jdk_42_method_150_code 10 = .ok (.invokevirtual 549, 3) := by decide +kernel
theorem own_d22_13 : decode jdk_42_method_150_code 13 = .ok (.istore 4, 2) := by decide +kernel
theorem own_d22_15 : decode jdk_42_method_150_code 15 = .ok (.aload_n 1, 1) := by decide +kernel
theorem own_d22_16 : decode jdk_42_method_150_code 16 = .ok (.invokevirtual 1047, 3) := by decide +kernel
theorem own_d22_19 : decode jdk_42_method_150_code 19 = .ok (.ifCond .eq 22, 3) := by decide +kernel
theorem own_d22_22 : decode jdk_42_method_150_code 22 = .ok (.aload_n 0, 1) := by decide +kernel
theorem own_d22_23 : decode jdk_42_method_150_code 23 = .ok (.iconst 0, 1) := by decide +kernel
theorem own_d22_24 : decode jdk_42_method_150_code 24 = .ok (.putfield 15, 3) := by decide +kernel
theorem own_d22_27 : decode jdk_42_method_150_code 27 = .ok (.aload_n 0, 1) := by decide +kernel
theorem own_d22_28 : decode jdk_42_method_150_code 28 = .ok (.aload_n 3, 1) := by decide +kernel
theorem own_d22_29 : decode jdk_42_method_150_code 29 = .ok (.iconst 0, 1) := by decide +kernel
theorem own_d22_30 : decode jdk_42_method_150_code 30 = .ok (.iload 4, 2) := by decide +kernel
theorem own_d22_32 : decode jdk_42_method_150_code 32 = .ok (.invokestatic 54, 3) := by decide +kernel
theorem own_d22_35 : decode jdk_42_method_150_code 35 = .ok (.putfield 9, 3) := by decide +kernel
theorem own_d22_38 : decode jdk_42_method_150_code 38 = .ok (.goto 59, 3) := by decide +kernel
theorem own_d22_41 : decode jdk_42_method_150_code 41 = .ok (.getstatic 38, 3) := by decide +kernel
theorem own_d22_44 : decode jdk_42_method_150_code 44 = .ok (.ifCond .eq 35, 3) := by decide +kernel
theorem own_d22_47 : decode jdk_42_method_150_code 47 = .ok (.aload_n 1, 1) := by decide +kernel
theorem own_d22_48 : decode jdk_42_method_150_code 48 = .ok (.getfield 1048, 3) := by decide +kernel
theorem own_d22_51 : decode jdk_42_method_150_code 51 = .ok (.ifCond .eq 28, 3) := by decide +kernel
theorem own_d22_54 : decode jdk_42_method_150_code 54 = .ok (.aload_n 0, 1) := by decide +kernel
theorem own_d22_55 : decode jdk_42_method_150_code 55 = .ok (.aload_n 3, 1) := by decide +kernel
theorem own_d22_56 : decode jdk_42_method_150_code 56 = .ok (.iconst 0, 1) := by decide +kernel
theorem own_d22_57 : decode jdk_42_method_150_code 57 = .ok (.iload 4, 2) := by decide +kernel
theorem own_d22_59 : decode jdk_42_method_150_code 59 = .ok (.invokestatic 1051, 3) := by decide +kernel
theorem own_d22_62 : decode jdk_42_method_150_code 62 = .ok (.putfield 9, 3) := by decide +kernel
theorem own_d22_65 : decode jdk_42_method_150_code 65 = .ok (.aload_n 0, 1) := by decide +kernel
theorem own_d22_66 : decode jdk_42_method_150_code 66 = .ok (.aload_n 0, 1) := by decide +kernel
theorem own_d22_67 : decode jdk_42_method_150_code 67 = .ok (.getfield 9, 3) := by decide +kernel
theorem own_d22_70 : decode jdk_42_method_150_code 70 = .ok (.iload 4, 2) := by decide +kernel
theorem own_d22_72 : decode jdk_42_method_150_code 72 = .ok (.invokestatic 47, 3) := by decide +kernel
theorem own_d22_75 : decode jdk_42_method_150_code 75 = .ok (.putfield 15, 3) := by decide +kernel
theorem own_d22_78 : decode jdk_42_method_150_code 78 = .ok (.return_, 1) := by decide +kernel
theorem own_d22_79 : decode jdk_42_method_150_code 79 = .ok (.aload_n 0, 1) := by decide +kernel
theorem own_d22_80 : decode jdk_42_method_150_code 80 = .ok (.iconst 1, 1) := by decide +kernel
theorem own_d22_81 : decode jdk_42_method_150_code 81 = .ok (.putfield 15, 3) := by decide +kernel
theorem own_d22_84 : decode jdk_42_method_150_code 84 = .ok (.aload_n 0, 1) := by decide +kernel
theorem own_d22_85 : decode jdk_42_method_150_code 85 = .ok (.aload_n 3, 1) := by decide +kernel
theorem own_d22_86 : decode jdk_42_method_150_code 86 = .ok (.iconst 0, 1) := by decide +kernel
theorem own_d22_87 : decode jdk_42_method_150_code 87 = .ok (.iload 4, 2) := by decide +kernel
theorem own_d22_89 : decode jdk_42_method_150_code 89 = .ok (.iconst 1, 1) := by decide +kernel
theorem own_d22_90 : decode jdk_42_method_150_code 90 = .ok (.ishl, 1) := by decide +kernel
theorem own_d22_91 : decode jdk_42_method_150_code 91 = .ok (.invokestatic 54, 3) := by decide +kernel
theorem own_d22_94 : decode jdk_42_method_150_code 94 = .ok (.putfield 9, 3) := by decide +kernel
theorem own_d22_97 : decode jdk_42_method_150_code 97 = .ok (.return_, 1) := by decide +kernel
theorem own_pd_pLjava_lang_AbstractStringBuildereLjava_lang_VoideqV : parseMethodDescriptor "(Ljava/lang/AbstractStringBuilder;Ljava/lang/Void;)V" = some ⟨[(.object "java/lang/AbstractStringBuilder"), (.object "java/lang/Void")], none⟩ := by decide +kernel
theorem own_ef_own_d22n2 (m : MethodId) (x0 : Addr) (x1 : Addr) : entryFrame m #[(.ref x0), (.ref x1), .null] 5 = mkF m 0 #[.val (.ref x0), .val (.ref x1), .val .null, .unset, .unset] [] := by
  first | (simp [entryFrame, mkF, argsToLocals, Value.category]; done) | rfl
set_option maxRecDepth 65536 in
set_option maxHeartbeats 40000000 in
theorem own_strAB (l : Launch) (Z : State) (a0 : Array Value) (hw : ∀ d ∈ tables_1, d.before a0 Z = true) (a : Addr) (sb t : Addr) (ct : ClassId) (cs : List Nat) {v0 c0 : Value} (G1 : Int32) (hG : ¬ G1 = 0) (SG : Sta Z Z.heap "java/lang/String" "COMPACT_STRINGS" "Z" (.int G1)) (h0 : Heap) (n0 : Nat) (O : Old Z n0 h0) (ha : n0 ≤ a) (hsa : sb ≠ a) (hta : t ≠ a) (Ea : Exa Z h0 a ST) (Fv : Fld Z h0 a ST "value" "[B" v0) (Fc : Fld Z h0 a ST "coder" "B" c0) (S : SBd Z h0 sb t ct cs) (hn : cs.length < 16) :
    Ctr l Z n0 (⟨"java/lang/String", "<init>", "(Ljava/lang/AbstractStringBuilder;Ljava/lang/Void;)V"⟩ : MethodName) jdk_42_method_150_code 5 none [] ({ frames := 3, cells := 1, slots := 32, locals := 49 } : Room) #[(.ref a), (.ref sb), .null] h0 [a] (fun v h => v = none ∧ ∃ d cd, StrL Z h a d cd cs) := by
  refine enter (plainFor_of_name own_pn_java_lang_String) (fun m => own_ef_own_d22n2 m a sb) O (allS ha all0) ?_
  intro p e s m below meth c T w
  refine i_aloadN w own_d22_0 rfl rfl (pc' := 1) rfl ?_
  refine i_initO w own_d22_1 (hw _ (List.mem_of_getElem? (i := 139) rfl)) (hw _ (List.mem_of_getElem? (i := 26) rfl)) (hw _ (List.mem_of_getElem? (i := 27) rfl)) rfl (by decide) (W := 0) (Nat.le_of_eq rfl) (by decide) (pc' := 4) rfl ?_
  intro T95 w95
  show Goes p e below _ T95 (mkF m 4 #[.val (.ref a), .val (.ref sb), .val .null, .unset, .unset] [])
  refine i_aloadN w95 own_d22_4 rfl rfl (pc' := 5) rfl ?_
  refine c_virtual w95 (y := (⟨"java/lang/AbstractStringBuilder", "getValue", "()[B"⟩ : MethodName)) (C := "java/lang/StringBuilder") (a := sb) (argsL := []) (st := []) own_d22_5 (hw _ (List.mem_of_getElem? (i := 140) rfl)) (hw _ (List.mem_of_getElem? (i := 141) rfl)) (hw _ (List.mem_of_getElem? (i := 143) rfl)) (hw _ (List.mem_of_getElem? (i := 142) rfl)) (hw _ (List.mem_of_getElem? (i := 144) rfl)) (hw _ (List.mem_of_getElem? (i := 68) rfl)) (by decide) own_pd_pqAB rfl S.1 (own_getValue l Z a0 hw sb t ct cs h0 n0 w95.old S) rfl (by decide) (W := 0) (Nat.le_of_eq rfl) (by decide) (by decide) (by decide) (fun _ q => nomatch q) (pc' := 8) rfl ?_
  intro v96 T96 h96 w96 K96 q96
  obtain ⟨rfl, rfl⟩ := q96
  show Goes p e below _ T96 (mkF m 8 #[.val (.ref a), .val (.ref sb), .val .null, .unset, .unset] [(.ref t)])
  refine i_astoreN w96 own_d22_8 rfl (l' := #[.val (.ref a), .val (.ref sb), .val .null, .val (.ref t), .unset]) rfl (pc' := 9) rfl ?_
  refine i_aloadN w96 own_d22_9 rfl rfl (pc' := 10) rfl ?_
  refine c_virtualZ w96 (y := (⟨"java/lang/StringBuilder", "length", "()I"⟩ : MethodName)) (C := "java/lang/StringBuilder") (a := sb) (argsL := []) (st := []) own_d22_10 (hw _ (List.mem_of_getElem? (i := 145) rfl)) (hw _ (List.mem_of_getElem? (i := 146) rfl)) (face_of (hw _ (List.mem_of_getElem? (i := 105) rfl)) rfl) rfl (by decide) (hw _ (List.mem_of_getElem? (i := 148) rfl)) (hw _ (List.mem_of_getElem? (i := 149) rfl)) (hw _ (List.mem_of_getElem? (i := 150) rfl)) (hw _ (List.mem_of_getElem? (i := 60) rfl)) (by decide) own_pd_pqI rfl S.1 (own_sbLen l Z a0 hw sb t ct cs h0 n0 w96.old S) rfl (by decide) (W := 0) (Nat.le_of_eq rfl) (by decide) (by decide) (by decide) (fun _ q => nomatch q) (pc' := 13) rfl ?_
  intro v97 T97 h97 w97 K97 q97
  obtain ⟨rfl, rfl⟩ := q97
  show Goes p e below _ T97 (mkF m 13 #[.val (.ref a), .val (.ref sb), .val .null, .val (.ref t), .unset] [(.int (Int32.ofNat cs.length))])
  refine i_istore w97 own_d22_13 (l' := #[.val (.ref a), .val (.ref sb), .val .null, .val (.ref t), .val (.int (Int32.ofNat cs.length))]) rfl (pc' := 15) rfl ?_
  refine i_aloadN w97 own_d22_15 rfl rfl (pc' := 16) rfl ?_
  refine c_virtual w97 (y := (⟨"java/lang/AbstractStringBuilder", "isLatin1", "()Z"⟩ : MethodName)) (C := "java/lang/StringBuilder") (a := sb) (argsL := []) (st := []) own_d22_16 (hw _ (List.mem_of_getElem? (i := 153) rfl)) (hw _ (List.mem_of_getElem? (i := 154) rfl)) (hw _ (List.mem_of_getElem? (i := 156) rfl)) (hw _ (List.mem_of_getElem? (i := 155) rfl)) (hw _ (List.mem_of_getElem? (i := 157) rfl)) (hw _ (List.mem_of_getElem? (i := 68) rfl)) (by decide) own_pd_pqZ rfl S.1 (own_abLat l Z a0 hw sb t ct cs G1 hG SG h0 n0 w97.old S) rfl (by decide) (W := 0) (Nat.le_of_eq rfl) (by decide) (by decide) (by decide) (fun _ q => nomatch q) (pc' := 19) rfl ?_
  intro v98 T98 h98 w98 K98 q98
  obtain ⟨rfl, rfl⟩ := q98
  show Goes p e below _ T98 (mkF m 19 #[.val (.ref a), .val (.ref sb), .val .null, .val (.ref t), .val (.int (Int32.ofNat cs.length))] [(.int (1 : Int32))])
  refine i_if_eq_N w98 (by decide) own_d22_19 (pc' := 22) rfl ?_
  refine i_aloadN w98 own_d22_22 rfl rfl (pc' := 23) rfl ?_
  refine i_iconst w98 own_d22_23 (z := (0 : Int32)) (by decide) (pc' := 24) rfl ?_
  refine i_putF w98 own_d22_24 (hw _ (List.mem_of_getElem? (i := 99) rfl)) Fc Ea (Or.inr ⟨(hw _ (List.mem_of_getElem? (i := 6) rfl)), rfl, rfl⟩) (hw _ (List.mem_of_getElem? (i := 3) rfl)) (ty := .byte) (by decide) rfl rfl (Or.inl (List.mem_singleton.mpr rfl)) (pc' := 27) rfl ?_
  intro T99 h99 w99 W99
  show Goes p e below _ T99 (mkF m 27 #[.val (.ref a), .val (.ref sb), .val .null, .val (.ref t), .val (.int (Int32.ofNat cs.length))] [])
  have Fc1 := Fld.same W99 Fc
  have Fv1 := Fv.other W99 (Or.inr (slot_ne (Or.inr (hw _ (List.mem_of_getElem? (i := 5) rfl))) (Or.inr (hw _ (List.mem_of_getElem? (i := 6) rfl))) (by decide) (t := (.array .byte)) (t' := .byte) (by decide) (by decide)))
  have Ea1 := Ea.wr W99
  have At1 := S.2.2.2.2.1.other W99 hta
  refine i_aloadN w99 own_d22_27 rfl rfl (pc' := 28) rfl ?_
  refine i_aloadN w99 own_d22_28 rfl rfl (pc' := 29) rfl ?_
  refine i_iconst w99 own_d22_29 (z := (0 : Int32)) (by decide) (pc' := 30) rfl ?_
  refine i_iload w99 own_d22_30 rfl (pc' := 32) rfl ?_
  refine c_static w99 (y := (⟨"java/util/Arrays", "copyOfRange", "([BII)[B"⟩ : MethodName)) (argsL := [(.ref t), (.int (0 : Int32)), (.int (Int32.ofNat cs.length))]) (st := [(.ref a)]) own_d22_32 (hw _ (List.mem_of_getElem? (i := 158) rfl)) (hw _ (List.mem_of_getElem? (i := 159) rfl)) (hw _ (List.mem_of_getElem? (i := 160) rfl)) (hw _ (List.mem_of_getElem? (i := 161) rfl)) (by decide) own_pd_pABIIqAB rfl (own_cor l Z a0 hw t ct _ 0 cs.length h99 n0 w99.old At1 (Nat.zero_le _) (by rw [own_len16 (by omega)]; omega) (by omega) (fun _ => by rw [own_len16 (by omega)]; omega)) rfl (by decide) (W := 1) (Nat.le_of_eq rfl) (by decide) (by decide) (by decide) (fun _ q => nomatch q) (pc' := 35) rfl ?_
  intro v100 T100 h100 w100 K100 q100
  obtain ⟨d, cd, rfl, zd, Ad⟩ := q100
  show Goes p e below _ T100 (mkF m 35 #[.val (.ref a), .val (.ref sb), .val .null, .val (.ref t), .val (.int (Int32.ofNat cs.length))] [(.ref d), (.ref a)])
  rw [own_pre] at Ad
  have Fc2 := Fc1.keep K100 nin0
  have Fv2 := Fv1.keep K100 nin0
  have Ea2 := Ea1.keep K100
  have lad : a < d := Nat.lt_of_lt_of_le Ea1.lt zd
  refine i_putF w100 own_d22_35 (hw _ (List.mem_of_getElem? (i := 92) rfl)) Fv2 Ea2 (Or.inr ⟨(hw _ (List.mem_of_getElem? (i := 5) rfl)), rfl, rfl⟩) (hw _ (List.mem_of_getElem? (i := 3) rfl)) (ty := (.array .byte)) (by decide) rfl rfl (Or.inl (List.mem_singleton.mpr rfl)) (pc' := 38) rfl ?_
  intro T102 h102 w102 W102
  show Goes p e below _ T102 (mkF m 38 #[.val (.ref a), .val (.ref sb), .val .null, .val (.ref t), .val (.int (Int32.ofNat cs.length))] [])
  have Fv3 := Fld.same W102 Fv2
  have Fc3 := Fc2.other W102 (Or.inr (slot_ne (Or.inr (hw _ (List.mem_of_getElem? (i := 6) rfl))) (Or.inr (hw _ (List.mem_of_getElem? (i := 5) rfl))) (by decide) (t := .byte) (t' := (.array .byte)) (by decide) (by decide)))
  have Ea3 := Ea2.wr W102
  have Ad3 := Ad.other W102 (Nat.ne_of_gt lad)
  refine i_goto w102 own_d22_38 (pc' := 97) (by decide) ?_
  exact i_ret0 w102 own_d22_97 rfl ⟨rfl, d, cd, Ea3, Fv3, Fc3, Ad3, S.2.2.2.2.2.1⟩ (by decide) (by decide)
theorem own_d21_0 : decode jdk_42_method_53_code 0 = .ok (.aload_n 0, 1) := by decide +kernel
theorem own_d21_1 : decode jdk_42_method_53_code 1 = .ok (.aload_n 1, 1) := by decide +kernel
theorem own_d21_2 : decode jdk_42_method_53_code 2 = .ok (.aconst_null, 1) := by decide +kernel
theorem own_d21_3 : decode jdk_42_method_53_code 3 = .ok (.invokespecial 489, 3) := by decide +kernel
theorem own_d21_6 : decode jdk_42_method_53_code 6 = .ok (.return_, 1) := by decide +kernel
theorem own_pd_pLjava_lang_StringBuildereqV : parseMethodDescriptor "(Ljava/lang/StringBuilder;)V" = some ⟨[(.object "java/lang/StringBuilder")], none⟩ := by decide +kernel
theorem own_ef_own_d21 (m : MethodId) (x0 : Addr) (x1 : Addr) : entryFrame m #[(.ref x0), (.ref x1)] 2 = mkF m 0 #[.val (.ref x0), .val (.ref x1)] [] := by
  first | (simp [entryFrame, mkF, argsToLocals, Value.category]; done) | rfl
set_option maxRecDepth 65536 in
set_option maxHeartbeats 40000000 in
theorem own_strSB (l : Launch) (Z : State) (a0 : Array Value) (hw : ∀ d ∈ tables_1, d.before a0 Z = true) (a : Addr) (sb t : Addr) (ct : ClassId) (cs : List Nat) {v0 c0 : Value} (G1 : Int32) (hG : ¬ G1 = 0) (SG : Sta Z Z.heap "java/lang/String" "COMPACT_STRINGS" "Z" (.int G1)) (h0 : Heap) (n0 : Nat) (O : Old Z n0 h0) (ha : n0 ≤ a) (hsa : sb ≠ a) (hta : t ≠ a) (Ea : Exa Z h0 a ST) (Fv : Fld Z h0 a ST "value" "[B" v0) (Fc : Fld Z h0 a ST "coder" "B" c0) (S : SBd Z h0 sb t ct cs) (hn : cs.length < 16) :
    Ctr l Z n0 (⟨"java/lang/String", "<init>", "(Ljava/lang/StringBuilder;)V"⟩ : MethodName) jdk_42_method_53_code 2 none [] ({ frames := 4, cells := 1, slots := 32, locals := 65 } : Room) #[(.ref a), (.ref sb)] h0 [a] (fun v h => v = none ∧ ∃ d cd, StrL Z h a d cd cs) := by
  refine enter (plainFor_of_name own_pn_java_lang_String) (fun m => own_ef_own_d21 m a sb) O (allS ha all0) ?_
  intro p e s m below meth c T w
  refine i_aloadN w own_d21_0 rfl rfl (pc' := 1) rfl ?_
  refine i_aloadN w own_d21_1 rfl rfl (pc' := 2) rfl ?_
  refine i_aconstNull w own_d21_2 (pc' := 3) rfl ?_
  refine c_special w (y := (⟨"java/lang/String", "<init>", "(Ljava/lang/AbstractStringBuilder;Ljava/lang/Void;)V"⟩ : MethodName)) (a := a) (argsL := [(.ref sb), .null]) (st := []) own_d21_3 rfl (hw _ (List.mem_of_getElem? (i := 136) rfl)) (hw _ (List.mem_of_getElem? (i := 137) rfl)) (hw _ (List.mem_of_getElem? (i := 2) rfl)) (hw _ (List.mem_of_getElem? (i := 138) rfl)) (by decide) own_pd_pLjava_lang_AbstractStringBuildereLjava_lang_VoideqV rfl (own_strAB l Z a0 hw a sb t ct cs G1 hG SG h0 n0 w.old ha hsa hta Ea Fv Fc S hn) rfl (by decide) (W := 0) (Nat.le_of_eq rfl) (by decide) (by decide) (by decide) (allS (Or.inl (List.mem_singleton.mpr rfl)) all0) (pc' := 6) rfl ?_
  intro v103 T103 h103 w103 K103 q103
  obtain ⟨rfl, d, cd, Sa⟩ := q103
  show Goes p e below _ T103 (mkF m 6 #[.val (.ref a), .val (.ref sb)] [])
  exact i_ret0 w103 own_d21_6 rfl ⟨rfl, d, cd, Sa⟩ (by decide) (by decide)
theorem own_d20_0 : decode jdk_67_method_42_code 0 = .ok (.new 18, 3) := by decide +kernel
theorem own_d20_3 : decode jdk_67_method_42_code 3 = .ok (.dup, 1) := by decide +kernel
theorem own_d20_4 : decode jdk_67_method_42_code 4 = .ok (.aload_n 0, 1) := by decide +kernel
theorem own_d20_5 : decode jdk_67_method_42_code 5 = .ok (.invokespecial 137, 3) := by decide +kernel
theorem own_d20_8 : decode jdk_67_method_42_code 8 = .ok (.areturn, 1) := by decide +kernel
theorem own_pd_pqLjava_lang_Stringe : parseMethodDescriptor "()Ljava/lang/String;" = some ⟨[], some (.object "java/lang/String")⟩ := by decide +kernel
theorem own_ef_own_d20 (m : MethodId) (x0 : Addr) : entryFrame m #[(.ref x0)] 1 = mkF m 0 #[.val (.ref x0)] [] := by
  first | (simp [entryFrame, mkF, argsToLocals, Value.category]; done) | rfl
set_option maxRecDepth 65536 in
set_option maxHeartbeats 40000000 in
theorem own_sbToS (l : Launch) (Z : State) (a0 : Array Value) (hw : ∀ d ∈ tables_1, d.before a0 Z = true) (sb t : Addr) (ct : ClassId) (cs : List Nat) (G1 : Int32) (hG : ¬ G1 = 0) (SG : Sta Z Z.heap "java/lang/String" "COMPACT_STRINGS" "Z" (.int G1)) (h0 : Heap) (n0 : Nat) (O : Old Z n0 h0) (S : SBd Z h0 sb t ct cs) (hn : cs.length < 16) :
    Ctr l Z n0 (⟨"java/lang/StringBuilder", "toString", "()Ljava/lang/String;"⟩ : MethodName) jdk_67_method_42_code 1 (some (.object "java/lang/String")) [] ({ frames := 5, cells := 2, slots := 36, locals := 79 } : Room) #[(.ref sb)] h0 [] (fun v h => ∃ a d cd, v = some (.ref a) ∧ h0.size ≤ a ∧ StrL Z h a d cd cs) := by
  refine enter (plainFor_of_name own_pn_java_lang_StringBuilder) (fun m => own_ef_own_d20 m sb) O (fun _ q => nomatch q) ?_
  intro p e s m below meth c T w
  refine i_new w own_d20_0 (hw _ (List.mem_of_getElem? (i := 132) rfl)) (hw _ (List.mem_of_getElem? (i := 3) rfl)) (hw _ (List.mem_of_getElem? (i := 2) rfl)) (by decide) (by decide) (pc' := 3) rfl ?_
  intro a T105 h105 g_a w105 z_a E105 A_a D_a
  show Goes p e below _ T105 (mkF m 3 #[.val (.ref sb)] [(.ref a)])
  have Fv : Fld Z h105 a ST "value" "[B" .null := D_a (Or.inr (hw _ (List.mem_of_getElem? (i := 5) rfl))) (ty := .array .byte) (by decide)
  have Fc : Fld Z h105 a ST "coder" "B" (.int 0) := D_a (Or.inr (hw _ (List.mem_of_getElem? (i := 6) rfl))) (ty := .byte) (by decide)
  have S1 := S.ext E105
  refine i_dup w105 own_d20_3 rfl (pc' := 4) rfl ?_
  refine i_aloadN w105 own_d20_4 rfl rfl (pc' := 5) rfl ?_
  refine c_special w105 (y := (⟨"java/lang/String", "<init>", "(Ljava/lang/StringBuilder;)V"⟩ : MethodName)) (a := a) (argsL := [(.ref sb)]) (st := [(.ref a)]) own_d20_5 rfl (hw _ (List.mem_of_getElem? (i := 133) rfl)) (hw _ (List.mem_of_getElem? (i := 134) rfl)) (hw _ (List.mem_of_getElem? (i := 2) rfl)) (hw _ (List.mem_of_getElem? (i := 135) rfl)) (by decide) own_pd_pLjava_lang_StringBuildereqV rfl (own_strSB l Z a0 hw a sb t ct cs G1 hG SG h105 n0 w105.old (Nat.le_trans w105.n0h0 z_a) (Nat.ne_of_lt (g_a ▸ S.lt)) (Nat.ne_of_lt (g_a ▸ S.ltT)) A_a Fv Fc S1 hn) rfl (by decide) (W := 1) (Nat.le_of_eq rfl) (by decide) (by decide) (by decide) (allS (Or.inr z_a) all0) (pc' := 8) rfl ?_
  intro v107 T107 h107 w107 K107 q107
  obtain ⟨rfl, d, cd, Sa⟩ := q107
  show Goes p e below _ T107 (mkF m 8 #[.val (.ref sb)] [(.ref a)])
  exact i_retA w107 own_d20_8 rfl rfl rfl ⟨a, d, cd, rfl, z_a, Sa⟩ (by decide) (by decide)
theorem own_d3_0 : decode prog_12_method_1_code 0 = .ok (.aload_n 0, 1) := by decide +kernel
theorem own_d3_1 : decode prog_12_method_1_code 1 = .ok (.invokespecial 1, 3) := by decide +kernel
theorem own_d3_4 : decode prog_12_method_1_code 4 = .ok (.aload_n 0, 1) := by decide +kernel
theorem own_d3_5 : decode prog_12_method_1_code 5 = .ok (.aload_n 1, 1) := by decide +kernel
theorem own_d3_6 : decode prog_12_method_1_code 6 = .ok (.putfield 7, 3) := by decide +kernel
theorem own_d3_9 : decode prog_12_method_1_code 9 = .ok (.aload_n 0, 1) := by decide +kernel
theorem own_d3_10 : decode prog_12_method_1_code 10 = .ok (.iload_n 2, 1) := by decide +kernel
theorem own_d3_11 : decode prog_12_method_1_code 11 = .ok (.putfield 13, 3) := by decide +kernel
theorem own_d3_14 : decode prog_12_method_1_code 14 = .ok (.return_, 1) := by decide +kernel
theorem own_pn_com_example_sinete_sinete_pki_Verdict : plainName "com/example/sinete/sinete/pki/Verdict" = true := by first | (simp [plainName, overriddenIn]; done) | decide +kernel
theorem own_pd_pLjava_lang_StringeIqV : parseMethodDescriptor "(Ljava/lang/String;I)V" = some ⟨[(.object "java/lang/String"), .int], none⟩ := by decide +kernel
theorem own_ef_own_d3 (m : MethodId) (x0 : Addr) (x1 : Addr) (x2 : Int32) : entryFrame m #[(.ref x0), (.ref x1), (.int x2)] 3 = mkF m 0 #[.val (.ref x0), .val (.ref x1), .val (.int x2)] [] := by
  first | (simp [entryFrame, mkF, argsToLocals, Value.category]; done) | rfl
set_option maxRecDepth 65536 in
set_option maxHeartbeats 40000000 in
theorem own_vInit (l : Launch) (Z : State) (a0 : Array Value) (hw : ∀ d ∈ tables_1, d.before a0 Z = true) (v r : Addr) {v0 c0 : Value} (h0 : Heap) (n0 : Nat) (O : Old Z n0 h0) (hv : n0 ≤ v) (Ev : Exa Z h0 v "com/example/sinete/sinete/pki/Verdict") (Fr : Fld Z h0 v "com/example/sinete/sinete/pki/Verdict" "reason" "Ljava/lang/String;" v0) (Fs : Fld Z h0 v "com/example/sinete/sinete/pki/Verdict" "signatureChecks" "I" c0) :
    Ctr l Z n0 (⟨"com/example/sinete/sinete/pki/Verdict", "<init>", "(Ljava/lang/String;I)V"⟩ : MethodName) prog_12_method_1_code 3 none [] ({ frames := 1, cells := 0, slots := 0, locals := 12 } : Room) #[(.ref v), (.ref r), (.int (0 : Int32))] h0 [v] (fun v' h => v' = none ∧ Exa Z h v "com/example/sinete/sinete/pki/Verdict" ∧ Fld Z h v "com/example/sinete/sinete/pki/Verdict" "reason" "Ljava/lang/String;" (.ref r) ∧ Fld Z h v "com/example/sinete/sinete/pki/Verdict" "signatureChecks" "I" (.int 0)) := by
  refine enter (plainFor_of_name own_pn_com_example_sinete_sinete_pki_Verdict) (fun m => own_ef_own_d3 m v r (0 : Int32)) O (allS hv all0) ?_
  intro p e s m below meth c T w
  refine i_aloadN w own_d3_0 rfl rfl (pc' := 1) rfl ?_
  refine i_initO w own_d3_1 (hw _ (List.mem_of_getElem? (i := 25) rfl)) (hw _ (List.mem_of_getElem? (i := 26) rfl)) (hw _ (List.mem_of_getElem? (i := 27) rfl)) rfl (by decide) (W := 0) (Nat.le_of_eq rfl) (by decide) (pc' := 4) rfl ?_
  intro T109 w109
  show Goes p e below _ T109 (mkF m 4 #[.val (.ref v), .val (.ref r), .val (.int (0 : Int32))] [])
  refine i_aloadN w109 own_d3_4 rfl rfl (pc' := 5) rfl ?_
  refine i_aloadN w109 own_d3_5 rfl rfl (pc' := 6) rfl ?_
  refine i_putF w109 own_d3_6 (hw _ (List.mem_of_getElem? (i := 28) rfl)) Fr Ev (Or.inr ⟨(hw _ (List.mem_of_getElem? (i := 29) rfl)), rfl, rfl⟩) (hw _ (List.mem_of_getElem? (i := 14) rfl)) (ty := (.object "java/lang/String")) (by decide) rfl rfl (Or.inl (List.mem_singleton.mpr rfl)) (pc' := 9) rfl ?_
  intro T110 h110 w110 W110
  show Goes p e below _ T110 (mkF m 9 #[.val (.ref v), .val (.ref r), .val (.int (0 : Int32))] [])
  have Fr1 := Fld.same W110 Fr
  have Fs1 := Fs.other W110 (Or.inr (slot_ne (Or.inr (hw _ (List.mem_of_getElem? (i := 31) rfl))) (Or.inr (hw _ (List.mem_of_getElem? (i := 29) rfl))) (by decide) (t := .int) (t' := (.object "java/lang/String")) (by decide) (by decide)))
  have Ev1 := Ev.wr W110
  refine i_aloadN w110 own_d3_9 rfl rfl (pc' := 10) rfl ?_
  refine i_iloadN w110 own_d3_10 rfl (pc' := 11) rfl ?_
  refine i_putF w110 own_d3_11 (hw _ (List.mem_of_getElem? (i := 30) rfl)) Fs1 Ev1 (Or.inr ⟨(hw _ (List.mem_of_getElem? (i := 31) rfl)), rfl, rfl⟩) (hw _ (List.mem_of_getElem? (i := 14) rfl)) (ty := .int) (by decide) rfl rfl (Or.inl (List.mem_singleton.mpr rfl)) (pc' := 14) rfl ?_
  intro T111 h111 w111 W111
  show Goes p e below _ T111 (mkF m 14 #[.val (.ref v), .val (.ref r), .val (.int (0 : Int32))] [])
  have Fs2 := Fld.same W111 Fs1
  have Fr2 := Fr1.other W111 (Or.inr (slot_ne (Or.inr (hw _ (List.mem_of_getElem? (i := 29) rfl))) (Or.inr (hw _ (List.mem_of_getElem? (i := 31) rfl))) (by decide) (t := (.object "java/lang/String")) (t' := .int) (by decide) (by decide)))
  have Ev2 := Ev1.wr W111
  exact i_ret0 w111 own_d3_14 rfl ⟨rfl, Ev2, Fr2, Fs2⟩ (by decide) (by decide)
theorem own_d1_0 : decode prog_12_method_3_code 0 = .ok (.new 8, 3) := by decide +kernel
theorem own_d1_3 : decode prog_12_method_3_code 3 = .ok (.dup, 1) := by decide +kernel
theorem own_d1_4 : decode prog_12_method_3_code 4 = .ok (.aload_n 0, 1) := by decide +kernel
theorem own_d1_5 : decode prog_12_method_3_code 5 = .ok (.ldc 20, 2) := by decide +kernel
theorem own_d1_7 : decode prog_12_method_3_code 7 = .ok (.invokestatic 21, 3) := by decide +kernel
theorem own_d1_10 : decode prog_12_method_3_code 10 = .ok (.checkcast 27, 3) := by decide +kernel
theorem own_d1_13 : decode prog_12_method_3_code 13 = .ok (.iconst 0, 1) := by decide +kernel
theorem own_d1_14 : decode prog_12_method_3_code 14 = .ok (.invokespecial 17, 3) := by decide +kernel
theorem own_d1_17 : decode prog_12_method_3_code 17 = .ok (.areturn, 1) := by decide +kernel
theorem own_pd_pLjava_lang_StringeqLcom_example_sinete_sinete_pki_Verdicte : parseMethodDescriptor "(Ljava/lang/String;)Lcom/example/sinete/sinete/pki/Verdict;" = some ⟨[(.object "java/lang/String")], some (.object "com/example/sinete/sinete/pki/Verdict")⟩ := by decide +kernel
theorem own_ef_own_d1 (m : MethodId) (x0 : Addr) : entryFrame m #[(.ref x0)] 1 = mkF m 0 #[.val (.ref x0)] [] := by
  first | (simp [entryFrame, mkF, argsToLocals, Value.category]; done) | rfl
set_option maxRecDepth 65536 in
set_option maxHeartbeats 40000000 in
theorem own_invalid (l : Launch) (Z : State) (a0 : Array Value) (hw : ∀ d ∈ tables_1, d.before a0 Z = true) (r tr : Addr) (cr : ClassId) (rs : List Nat) (h0 : Heap) (n0 : Nat) (O : Old Z n0 h0) (R : StrL Z h0 r tr cr rs) :
    CtrH consts_1 l Z n0 (⟨"com/example/sinete/sinete/pki/Verdict", "invalid", "(Ljava/lang/String;)Lcom/example/sinete/sinete/pki/Verdict;"⟩ : MethodName) prog_12_method_3_code 1 (some (.object "com/example/sinete/sinete/pki/Verdict")) [] ({ frames := 2, cells := 3, slots := 30, locals := 27 } : Room) #[(.ref r)] h0 [] (fun v' h => ∃ v, v' = some (.ref v) ∧ h0.size ≤ v ∧ Exa Z h v "com/example/sinete/sinete/pki/Verdict" ∧ Fld Z h v "com/example/sinete/sinete/pki/Verdict" "reason" "Ljava/lang/String;" (.ref r) ∧ Fld Z h v "com/example/sinete/sinete/pki/Verdict" "signatureChecks" "I" (.int 0)) := by
  refine enterH (plainFor_of_name own_pn_com_example_sinete_sinete_pki_Verdict) (fun m => own_ef_own_d1 m r) O (fun _ q => nomatch q) ?_
  intro p e s m below meth c T w hS C0
  refine i_new w own_d1_0 (hw _ (List.mem_of_getElem? (i := 13) rfl)) (hw _ (List.mem_of_getElem? (i := 14) rfl)) (hw _ (List.mem_of_getElem? (i := 11) rfl)) (by decide) (by decide) (pc' := 3) rfl ?_
  intro v T112 h112 g_v w112 z_v E112 A_v D_v
  show Goes p e below _ T112 (mkF m 3 #[.val (.ref r)] [(.ref v)])
  have lt_r_v : r < v := Nat.lt_of_lt_of_le R.lt (Nat.le_of_eq g_v.symm)
  have lt_tr_v : tr < v := Nat.lt_of_lt_of_le R.ltT (Nat.le_of_eq g_v.symm)
  have R_113 := R.ext E112
  have C114 := C0.trans (CHr.ext E112 C0.1)
  have Fr : Fld Z h112 v "com/example/sinete/sinete/pki/Verdict" "reason" "Ljava/lang/String;" .null := D_v (Or.inr (hw _ (List.mem_of_getElem? (i := 29) rfl))) (ty := .object "java/lang/String") (by decide)
  have Fs : Fld Z h112 v "com/example/sinete/sinete/pki/Verdict" "signatureChecks" "I" (.int 0) := D_v (Or.inr (hw _ (List.mem_of_getElem? (i := 31) rfl))) (ty := .int) (by decide)
  refine i_dup w112 own_d1_3 rfl (pc' := 4) rfl ?_
  refine i_aloadN w112 own_d1_4 rfl rfl (pc' := 5) rfl ?_
  refine i_ldcO (own_EW hw) w112 hS (Nat.le_trans (Nat.le_refl _) E112.1) C114.1 own_d1_5 (hw _ (List.mem_of_getElem? (i := 15) rfl)) (fun d hd => hw d ((by decide +kernel : ∀ d ∈ Bundle.stringAtoms, d ∈ tables_1) d hd)) (N := 24) (by decide) (by decide) (by decide) (by decide) (pc' := 7) rfl ?_
  intro q T115 h115 vm115 w115 hS115 E115 hC115
  show Goes p e below _ T115 (mkF m 7 #[.val (.ref r)] [(.ref q), (.ref r), (.ref v), (.ref v)])
  have R_116 := R_113.ext E115
  have Ev_116 := A_v.ext E115
  have Fr_116 := Fr.ext E115
  have Fs_116 := Fs.ext E115
  have C117 := C114.trans hC115
  refine c_static w115 (y := (⟨"java/util/Objects", "requireNonNull", "(Ljava/lang/Object;Ljava/lang/String;)Ljava/lang/Object;"⟩ : MethodName)) (argsL := [(.ref r), (.ref q)]) (st := [(.ref v), (.ref v)]) own_d1_7 (hw _ (List.mem_of_getElem? (i := 16) rfl)) (hw _ (List.mem_of_getElem? (i := 17) rfl)) (hw _ (List.mem_of_getElem? (i := 18) rfl)) (hw _ (List.mem_of_getElem? (i := 19) rfl)) (by decide) own_pd_pLjava_lang_ObjecteLjava_lang_StringeqLjava_lang_Objecte rfl (own_reqNN l Z a0 hw r q h115 n0 w115.old ) rfl (by decide) (W := 2) (Nat.le_of_eq rfl) (by decide) (by decide) (by decide) (fun _ q => nomatch q) (pc' := 10) rfl ?_
  intro v118 T118 h118 w118 K118 q118
  obtain ⟨rfl, rfl⟩ := q118
  show Goes p e below _ T118 (mkF m 10 #[.val (.ref r)] [(.ref r), (.ref v), (.ref v)])
  refine i_cast w118 own_d1_10 (hw _ (List.mem_of_getElem? (i := 20) rfl)) (Ins.self R_116.1) (pc' := 13) rfl ?_
  intro T119 w119
  refine i_iconst w119 own_d1_13 (z := (0 : Int32)) (by decide) (pc' := 14) rfl ?_
  refine c_special w119 (y := (⟨"com/example/sinete/sinete/pki/Verdict", "<init>", "(Ljava/lang/String;I)V"⟩ : MethodName)) (a := v) (argsL := [(.ref r), (.int (0 : Int32))]) (st := [(.ref v)]) own_d1_14 rfl (hw _ (List.mem_of_getElem? (i := 22) rfl)) (hw _ (List.mem_of_getElem? (i := 23) rfl)) (hw _ (List.mem_of_getElem? (i := 11) rfl)) (hw _ (List.mem_of_getElem? (i := 24) rfl)) (by decide) own_pd_pLjava_lang_StringeIqV rfl (own_vInit l Z a0 hw v r h115 n0 w119.old (Nat.le_trans w119.n0h0 z_v) Ev_116 Fr_116 Fs_116) rfl (by decide) (W := 1) (Nat.le_of_eq rfl) (by decide) (by decide) (by decide) (allS (Or.inr z_v) all0) (pc' := 17) rfl ?_
  intro v120 T120 h120 w120 K120 q120
  obtain ⟨rfl, Ev9, Fr9, Fs9⟩ := q120
  show Goes p e below _ T120 (mkF m 17 #[.val (.ref r)] [(.ref v)])
  have R_121 := R_116.keep K120 (ninS (Nat.ne_of_lt lt_r_v) nin0) (ninS (Nat.ne_of_lt lt_tr_v) nin0)
  have Ev_121 := Ev_116.keep K120
  have C122 := C117.trans (CHr.keep K120 (sfS (Safe.exa w119.hZ.alike Ev_116 (by decide) (by decide)) sf0) C117.1)
  exact i_retAH (own_EW hw) w120 hS115 (Nat.le_trans (Nat.le_trans (Nat.le_refl _) K118.1) K120.1) C122 own_d1_17 rfl rfl rfl ⟨v, rfl, z_v, Ev9, Fr9, Fs9⟩ (by decide) (by decide)
theorem own_d5_0 : decode prog_12_method_4_code 0 = .ok (.aload_n 0, 1) := by decide +kernel
theorem own_d5_1 : decode prog_12_method_4_code 1 = .ok (.getfield 7, 3) := by decide +kernel
theorem own_d5_4 : decode prog_12_method_4_code 4 = .ok (.ifnonnull 7, 3) := by decide +kernel
theorem own_d5_7 : decode prog_12_method_4_code 7 = .ok (.iconst 1, 1) := by decide +kernel
theorem own_d5_8 : decode prog_12_method_4_code 8 = .ok (.goto 4, 3) := by decide +kernel
theorem own_d5_11 : decode prog_12_method_4_code 11 = .ok (.iconst 0, 1) := by decide +kernel
theorem own_d5_12 : decode prog_12_method_4_code 12 = .ok (.ireturn, 1) := by decide +kernel
theorem own_ef_own_d5 (m : MethodId) (x0 : Addr) : entryFrame m #[(.ref x0)] 1 = mkF m 0 #[.val (.ref x0)] [] := by
  first | (simp [entryFrame, mkF, argsToLocals, Value.category]; done) | rfl
set_option maxRecDepth 65536 in
set_option maxHeartbeats 40000000 in
theorem own_isValid (l : Launch) (Z : State) (a0 : Array Value) (hw : ∀ d ∈ tables_1, d.before a0 Z = true) (v r : Addr) (h0 : Heap) (n0 : Nat) (O : Old Z n0 h0) (Fr : Fld Z h0 v "com/example/sinete/sinete/pki/Verdict" "reason" "Ljava/lang/String;" (.ref r)) :
    Ctr l Z n0 (⟨"com/example/sinete/sinete/pki/Verdict", "isValid", "()Z"⟩ : MethodName) prog_12_method_4_code 1 (some .boolean) [] ({ frames := 0, cells := 0, slots := 0, locals := 0 } : Room) #[(.ref v)] h0 [] (fun v' h => v' = some (.int 0) ∧ h0 = h) := by
  refine enter (plainFor_of_name own_pn_com_example_sinete_sinete_pki_Verdict) (fun m => own_ef_own_d5 m v) O (fun _ q => nomatch q) ?_
  intro p e s m below meth c T w
  refine i_aloadN w own_d5_0 rfl rfl (pc' := 1) rfl ?_
  refine i_getF w own_d5_1 (hw _ (List.mem_of_getElem? (i := 28) rfl)) Fr (pc' := 4) rfl ?_
  intro T123 w123
  refine i_ifnonnull_Y w123 own_d5_4 (pc' := 11) (by decide) ?_
  refine i_iconst w123 own_d5_11 (z := (0 : Int32)) (by decide) (pc' := 12) rfl ?_
  exact i_retN w123 own_d5_12 rfl (by simp) ⟨rfl, rfl⟩ (by decide) (by decide)
theorem own_d6_0 : decode prog_12_method_5_code 0 = .ok (.aload_n 0, 1) := by decide +kernel
theorem own_d6_1 : decode prog_12_method_5_code 1 = .ok (.getfield 7, 3) := by decide +kernel
theorem own_d6_4 : decode prog_12_method_5_code 4 = .ok (.areturn, 1) := by decide +kernel
theorem own_ef_own_d6 (m : MethodId) (x0 : Addr) : entryFrame m #[(.ref x0)] 1 = mkF m 0 #[.val (.ref x0)] [] := by
  first | (simp [entryFrame, mkF, argsToLocals, Value.category]; done) | rfl
set_option maxRecDepth 65536 in
set_option maxHeartbeats 40000000 in
theorem own_reason (l : Launch) (Z : State) (a0 : Array Value) (hw : ∀ d ∈ tables_1, d.before a0 Z = true) (v r : Addr) (h0 : Heap) (n0 : Nat) (O : Old Z n0 h0) (Fr : Fld Z h0 v "com/example/sinete/sinete/pki/Verdict" "reason" "Ljava/lang/String;" (.ref r)) :
    Ctr l Z n0 (⟨"com/example/sinete/sinete/pki/Verdict", "reason", "()Ljava/lang/String;"⟩ : MethodName) prog_12_method_5_code 1 (some (.object "java/lang/String")) [] ({ frames := 0, cells := 0, slots := 0, locals := 0 } : Room) #[(.ref v)] h0 [] (fun v' h => v' = some (.ref r) ∧ h0 = h) := by
  refine enter (plainFor_of_name own_pn_com_example_sinete_sinete_pki_Verdict) (fun m => own_ef_own_d6 m v) O (fun _ q => nomatch q) ?_
  intro p e s m below meth c T w
  refine i_aloadN w own_d6_0 rfl rfl (pc' := 1) rfl ?_
  refine i_getF w own_d6_1 (hw _ (List.mem_of_getElem? (i := 28) rfl)) Fr (pc' := 4) rfl ?_
  intro T124 w124
  exact i_retA w124 own_d6_4 rfl rfl rfl ⟨rfl, rfl⟩ (by decide) (by decide)
theorem own_d8_0 : decode prog_12_method_6_code 0 = .ok (.aload_n 0, 1) := by decide +kernel
theorem own_d8_1 : decode prog_12_method_6_code 1 = .ok (.getfield 13, 3) := by decide +kernel
theorem own_d8_4 : decode prog_12_method_6_code 4 = .ok (.ireturn, 1) := by decide +kernel
theorem own_ef_own_d8 (m : MethodId) (x0 : Addr) : entryFrame m #[(.ref x0)] 1 = mkF m 0 #[.val (.ref x0)] [] := by
  first | (simp [entryFrame, mkF, argsToLocals, Value.category]; done) | rfl
set_option maxRecDepth 65536 in
set_option maxHeartbeats 40000000 in
theorem own_sigc (l : Launch) (Z : State) (a0 : Array Value) (hw : ∀ d ∈ tables_1, d.before a0 Z = true) (v : Addr) (h0 : Heap) (n0 : Nat) (O : Old Z n0 h0) (Fs : Fld Z h0 v "com/example/sinete/sinete/pki/Verdict" "signatureChecks" "I" (.int 0)) :
    Ctr l Z n0 (⟨"com/example/sinete/sinete/pki/Verdict", "signatureChecks", "()I"⟩ : MethodName) prog_12_method_6_code 1 (some .int) [] ({ frames := 0, cells := 0, slots := 0, locals := 0 } : Room) #[(.ref v)] h0 [] (fun v' h => v' = some (.int 0) ∧ h0 = h) := by
  refine enter (plainFor_of_name own_pn_com_example_sinete_sinete_pki_Verdict) (fun m => own_ef_own_d8 m v) O (fun _ q => nomatch q) ?_
  intro p e s m below meth c T w
  refine i_aloadN w own_d8_0 rfl rfl (pc' := 1) rfl ?_
  refine i_getF w own_d8_1 (hw _ (List.mem_of_getElem? (i := 30) rfl)) Fs (pc' := 4) rfl ?_
  intro T125 w125
  exact i_retI w125 own_d8_4 rfl ⟨rfl, rfl⟩ (by decide) (by decide)
theorem own_d9_0 : decode prog_12_method_7_code 0 = .ok (.aload_n 0, 1) := by decide +kernel
theorem own_d9_1 : decode prog_12_method_7_code 1 = .ok (.invokevirtual 29, 3) := by decide +kernel
theorem own_d9_4 : decode prog_12_method_7_code 4 = .ok (.ifCond .eq 8, 3) := by decide +kernel
theorem own_d9_7 : decode prog_12_method_7_code 7 = .ok (.ldc 33, 2) := by decide +kernel
theorem own_d9_9 : decode prog_12_method_7_code 9 = .ok (.goto 25, 3) := by decide +kernel
theorem own_d9_12 : decode prog_12_method_7_code 12 = .ok (.new 35, 3) := by decide +kernel
theorem own_d9_15 : decode prog_12_method_7_code 15 = .ok (.dup, 1) := by decide +kernel
theorem own_d9_16 : decode prog_12_method_7_code 16 = .ok (.invokespecial 37, 3) := by decide +kernel
theorem own_d9_19 : decode prog_12_method_7_code 19 = .ok (.ldc 38, 2) := by decide +kernel
theorem own_d9_21 : decode prog_12_method_7_code 21 = .ok (.invokevirtual 40, 3) := by decide +kernel
theorem own_d9_24 : decode prog_12_method_7_code 24 = .ok (.aload_n 0, 1) := by decide +kernel
theorem own_d9_25 : decode prog_12_method_7_code 25 = .ok (.getfield 7, 3) := by decide +kernel
theorem own_d9_28 : decode prog_12_method_7_code 28 = .ok (.invokevirtual 40, 3) := by decide +kernel
theorem own_d9_31 : decode prog_12_method_7_code 31 = .ok (.invokevirtual 44, 3) := by decide +kernel
theorem own_d9_34 : decode prog_12_method_7_code 34 = .ok (.areturn, 1) := by decide +kernel
theorem own_ef_own_d9 (m : MethodId) (x0 : Addr) : entryFrame m #[(.ref x0)] 1 = mkF m 0 #[.val (.ref x0)] [] := by
  first | (simp [entryFrame, mkF, argsToLocals, Value.category]; done) | rfl
set_option maxRecDepth 65536 in
set_option maxHeartbeats 40000000 in
theorem own_vToS (l : Launch) (Z : State) (a0 : Array Value) (hw : ∀ d ∈ tables_1, d.before a0 Z = true) (v r tr : Addr) (cr : ClassId) (rs : List Nat) (G1 : Int32) (hG : ¬ G1 = 0) (SG : Sta Z Z.heap "java/lang/String" "COMPACT_STRINGS" "Z" (.int G1)) (h0 : Heap) (n0 : Nat) (O : Old Z n0 h0) (Ev : Exa Z h0 v "com/example/sinete/sinete/pki/Verdict") (Fr : Fld Z h0 v "com/example/sinete/sinete/pki/Verdict" "reason" "Ljava/lang/String;" (.ref r)) (R : StrL Z h0 r tr cr rs) (hrs : rs.length ≤ 3) :
    CtrH consts_1 l Z n0 (⟨"com/example/sinete/sinete/pki/Verdict", "toString", "()Ljava/lang/String;"⟩ : MethodName) prog_12_method_7_code 1 (some (.object "java/lang/String")) [] ({ frames := 6, cells := 6, slots := 96, locals := 91 } : Room) #[(.ref v)] h0 [] (fun v' h => ∃ x d cd, v' = some (.ref x) ∧ h0.size ≤ x ∧ StrL Z h x d cd ([73, 78, 86, 65, 76, 73, 68, 58, 32] ++ rs)) := by
  refine enterH (plainFor_of_name own_pn_com_example_sinete_sinete_pki_Verdict) (fun m => own_ef_own_d9 m v) O (fun _ q => nomatch q) ?_
  intro p e s m below meth c T w hS C0
  refine i_aloadN w own_d9_0 rfl rfl (pc' := 1) rfl ?_
  refine c_virtual w (y := (⟨"com/example/sinete/sinete/pki/Verdict", "isValid", "()Z"⟩ : MethodName)) (C := "com/example/sinete/sinete/pki/Verdict") (a := v) (argsL := []) (st := []) own_d9_1 (hw _ (List.mem_of_getElem? (i := 57) rfl)) (hw _ (List.mem_of_getElem? (i := 33) rfl)) (hw _ (List.mem_of_getElem? (i := 35) rfl)) (hw _ (List.mem_of_getElem? (i := 34) rfl)) (hw _ (List.mem_of_getElem? (i := 36) rfl)) (hw _ (List.mem_of_getElem? (i := 11) rfl)) (by decide) own_pd_pqZ rfl Ev (own_isValid l Z a0 hw v r h0 n0 w.old Fr) rfl (by decide) (W := 0) (Nat.le_of_eq rfl) (by decide) (by decide) (by decide) (fun _ q => nomatch q) (pc' := 4) rfl ?_
  intro v126 T126 h126 w126 K126 q126
  obtain ⟨rfl, rfl⟩ := q126
  show Goes p e below _ T126 (mkF m 4 #[.val (.ref v)] [(.int (0 : Int32))])
  refine i_if_eq_Y w126 rfl own_d9_4 (pc' := 12) (by decide) ?_
  refine i_new w126 own_d9_12 (hw _ (List.mem_of_getElem? (i := 58) rfl)) (hw _ (List.mem_of_getElem? (i := 59) rfl)) (hw _ (List.mem_of_getElem? (i := 60) rfl)) (by decide) (by decide) (pc' := 15) rfl ?_
  intro sb T127 h127 g_sb w127 z_sb E127 A_sb D_sb
  show Goes p e below _ T127 (mkF m 15 #[.val (.ref v)] [(.ref sb)])
  have lt_v_sb : v < sb := Nat.lt_of_lt_of_le Ev.lt (Nat.le_of_eq g_sb.symm)
  have lt_r_sb : r < sb := Nat.lt_of_lt_of_le R.lt (Nat.le_of_eq g_sb.symm)
  have lt_tr_sb : tr < sb := Nat.lt_of_lt_of_le R.ltT (Nat.le_of_eq g_sb.symm)
  have Ev_128 := Ev.ext E127
  have Fr_128 := Fr.ext E127
  have R_128 := R.ext E127
  have C129 := C0.trans (CHr.ext E127 C0.1)
  have Bv : Fld Z h127 sb "java/lang/AbstractStringBuilder" "value" "[B" .null := D_sb (Or.inl (hw _ (List.mem_of_getElem? (i := 73) rfl))) (ty := .array .byte) (by decide)
  have Bc : Fld Z h127 sb "java/lang/AbstractStringBuilder" "coder" "B" (.int 0) := D_sb (Or.inl (hw _ (List.mem_of_getElem? (i := 75) rfl))) (ty := .byte) (by decide)
  have Bn : Fld Z h127 sb "java/lang/AbstractStringBuilder" "count" "I" (.int 0) := D_sb (Or.inl (hw _ (List.mem_of_getElem? (i := 101) rfl))) (ty := .int) (by decide)
  refine i_dup w127 own_d9_15 rfl (pc' := 16) rfl ?_
  refine c_special w127 (y := (⟨"java/lang/StringBuilder", "<init>", "()V"⟩ : MethodName)) (a := sb) (argsL := []) (st := [(.ref sb)]) own_d9_16 rfl (hw _ (List.mem_of_getElem? (i := 61) rfl)) (hw _ (List.mem_of_getElem? (i := 62) rfl)) (hw _ (List.mem_of_getElem? (i := 60) rfl)) (hw _ (List.mem_of_getElem? (i := 63) rfl)) (by decide) own_pd_pqV rfl (own_sbInit l Z a0 hw sb G1 hG SG h127 n0 w127.old (Nat.le_trans w127.n0h0 z_sb) A_sb Bv Bc Bn) rfl (by decide) (W := 1) (Nat.le_of_eq rfl) (by decide) (by decide) (by decide) (allS (Or.inr z_sb) all0) (pc' := 19) rfl ?_
  intro v130 T130 h130 w130 K130 q130
  obtain ⟨rfl, t, ct, zt, Sd⟩ := q130
  show Goes p e below _ T130 (mkF m 19 #[.val (.ref v)] [(.ref sb)])
  have lt_v_t : v < t := Nat.lt_of_lt_of_le Ev_128.lt zt
  have lt_r_t : r < t := Nat.lt_of_lt_of_le R_128.lt zt
  have lt_tr_t : tr < t := Nat.lt_of_lt_of_le R_128.ltT zt
  have Ev_131 := Ev_128.keep K130
  have Fr_131 := Fr_128.keep K130 (ninS (Nat.ne_of_lt lt_v_sb) nin0)
  have R_131 := R_128.keep K130 (ninS (Nat.ne_of_lt lt_r_sb) nin0) (ninS (Nat.ne_of_lt lt_tr_sb) nin0)
  have C132 := C129.trans (CHr.keep K130 (sfS (Safe.exa w127.hZ.alike A_sb (by decide) (by decide)) sf0) C129.1)
  have zt0 : h0.size ≤ t := Nat.le_trans w127.le0 zt
  have Sft := Safe.keep K130 (sfS (Safe.exa w127.hZ.alike A_sb (by decide) (by decide)) sf0) C129.1 (Safe.new zt)
  have lsbt : sb < t := Nat.lt_of_lt_of_le A_sb.lt zt
  refine i_ldcR (own_EW hw) w130 hS (Nat.le_trans (Nat.le_trans (Nat.le_trans (Nat.le_refl _) K126.1) E127.1) K130.1) C132.1 own_d9_19 (hw _ (List.mem_of_getElem? (i := 76) rfl)) (fun d hd => hw d ((by decide +kernel : ∀ d ∈ Bundle.stringAtoms, d ∈ tables_1) d hd)) (N := 36) (by decide) (by decide) (by decide) (by decide) (pc' := 21) rfl (cs := [73, 78, 86, 65, 76, 73, 68, 58, 32]) (by decide) (by decide) (by decide) (by decide) (by decide) ?_
  intro u bu cbu T133 h133 vm133 w133 hS133 E133 hC133 S_u N_u
  show Goes p e below _ T133 (mkF m 21 #[.val (.ref v)] [(.ref u), (.ref sb)])
  have Ev_134 := Ev_131.ext E133
  have Fr_134 := Fr_131.ext E133
  have R_134 := R_131.ext E133
  have Sd_134 := Sd.ext E133
  have C135 := C132.trans hC133
  have Sft1 := hC133.safe Sd.ltT Sft
  have Sfs1 : Safe Z consts_1 vm133 h133 sb := Safe.exa w133.hZ.alike Sd_134.1 (by decide) (by decide)
  refine c_virtual w133 (y := (⟨"java/lang/StringBuilder", "append", "(Ljava/lang/String;)Ljava/lang/StringBuilder;"⟩ : MethodName)) (C := "java/lang/StringBuilder") (a := sb) (argsL := [(.ref u)]) (st := []) own_d9_21 (hw _ (List.mem_of_getElem? (i := 77) rfl)) (hw _ (List.mem_of_getElem? (i := 78) rfl)) (hw _ (List.mem_of_getElem? (i := 80) rfl)) (hw _ (List.mem_of_getElem? (i := 79) rfl)) (hw _ (List.mem_of_getElem? (i := 81) rfl)) (hw _ (List.mem_of_getElem? (i := 60) rfl)) (by decide) own_pd_pLjava_lang_StringeqLjava_lang_StringBuildere rfl Sd_134.1 (own_sbApp l Z a0 hw sb t ct [] u bu cbu [73, 78, 86, 65, 76, 73, 68, 58, 32] G1 hG SG h133 n0 w133.old (Nat.le_trans w133.n0h0 z_sb) (Nat.le_trans w133.n0h0 zt0) (Nat.ne_of_lt lsbt) Sd_134 S_u (by simp; try omega)) rfl (by decide) (W := 0) (Nat.le_of_eq rfl) (by decide) (by decide) (by decide) (allS (Or.inr z_sb) (allS (Or.inr zt0) all0)) (pc' := 24) rfl ?_
  intro v136 T136 h136 w136 K136 q136
  obtain ⟨rfl, Sd1⟩ := q136
  show Goes p e below _ T136 (mkF m 24 #[.val (.ref v)] [(.ref sb)])
  have Ev_137 := Ev_134.keep K136
  have Fr_137 := Fr_134.keep K136 (ninS (Nat.ne_of_lt lt_v_sb) (ninS (Nat.ne_of_lt lt_v_t) nin0))
  have R_137 := R_134.keep K136 (ninS (Nat.ne_of_lt lt_r_sb) (ninS (Nat.ne_of_lt lt_r_t) nin0)) (ninS (Nat.ne_of_lt lt_tr_sb) (ninS (Nat.ne_of_lt lt_tr_t) nin0))
  have U_137 := S_u.keep K136 (ninS (Ne.symm (N_u sb Sfs1).1) (ninS (Ne.symm (N_u t Sft1).1) nin0)) (ninS (Ne.symm (N_u sb Sfs1).2) (ninS (Ne.symm (N_u t Sft1).2) nin0))
  have Sft_137 := Safe.keep K136 (sfS (Safe.exa w133.hZ.alike Sd_134.1 (by decide) (by decide)) (sfS Sft1 sf0)) C135.1 Sft1
  have C138 := C135.trans (CHr.keep K136 (sfS (Safe.exa w133.hZ.alike Sd_134.1 (by decide) (by decide)) (sfS Sft1 sf0)) C135.1)
  refine i_aloadN w136 own_d9_24 rfl rfl (pc' := 25) rfl ?_
  refine i_getF w136 own_d9_25 (hw _ (List.mem_of_getElem? (i := 28) rfl)) Fr_137 (pc' := 28) rfl ?_
  intro T139 w139
  refine c_virtual w139 (y := (⟨"java/lang/StringBuilder", "append", "(Ljava/lang/String;)Ljava/lang/StringBuilder;"⟩ : MethodName)) (C := "java/lang/StringBuilder") (a := sb) (argsL := [(.ref r)]) (st := []) own_d9_28 (hw _ (List.mem_of_getElem? (i := 77) rfl)) (hw _ (List.mem_of_getElem? (i := 78) rfl)) (hw _ (List.mem_of_getElem? (i := 80) rfl)) (hw _ (List.mem_of_getElem? (i := 79) rfl)) (hw _ (List.mem_of_getElem? (i := 81) rfl)) (hw _ (List.mem_of_getElem? (i := 60) rfl)) (by decide) own_pd_pLjava_lang_StringeqLjava_lang_StringBuildere rfl Sd1.1 (own_sbApp l Z a0 hw sb t ct ([] ++ [73, 78, 86, 65, 76, 73, 68, 58, 32]) r tr cr rs G1 hG SG h136 n0 w139.old (Nat.le_trans w139.n0h0 z_sb) (Nat.le_trans w139.n0h0 zt0) (Nat.ne_of_lt lsbt) Sd1 R_137 (by simp; try omega)) rfl (by decide) (W := 0) (Nat.le_of_eq rfl) (by decide) (by decide) (by decide) (allS (Or.inr z_sb) (allS (Or.inr zt0) all0)) (pc' := 31) rfl ?_
  intro v140 T140 h140 w140 K140 q140
  obtain ⟨rfl, Sd2⟩ := q140
  show Goes p e below _ T140 (mkF m 31 #[.val (.ref v)] [(.ref sb)])
  have Ev_141 := Ev_137.keep K140
  have Fr_141 := Fr_137.keep K140 (ninS (Nat.ne_of_lt lt_v_sb) (ninS (Nat.ne_of_lt lt_v_t) nin0))
  have R_141 := R_137.keep K140 (ninS (Nat.ne_of_lt lt_r_sb) (ninS (Nat.ne_of_lt lt_r_t) nin0)) (ninS (Nat.ne_of_lt lt_tr_sb) (ninS (Nat.ne_of_lt lt_tr_t) nin0))
  have U_141 := U_137.keep K140 (ninS (Ne.symm (N_u sb Sfs1).1) (ninS (Ne.symm (N_u t Sft1).1) nin0)) (ninS (Ne.symm (N_u sb Sfs1).2) (ninS (Ne.symm (N_u t Sft1).2) nin0))
  have Sft_141 := Safe.keep K140 (sfS (Safe.exa w139.hZ.alike Sd1.1 (by decide) (by decide)) (sfS Sft_137 sf0)) C138.1 Sft_137
  have C142 := C138.trans (CHr.keep K140 (sfS (Safe.exa w139.hZ.alike Sd1.1 (by decide) (by decide)) (sfS Sft_137 sf0)) C138.1)
  refine c_virtual w140 (y := (⟨"java/lang/StringBuilder", "toString", "()Ljava/lang/String;"⟩ : MethodName)) (C := "java/lang/StringBuilder") (a := sb) (argsL := []) (st := []) own_d9_31 (hw _ (List.mem_of_getElem? (i := 127) rfl)) (hw _ (List.mem_of_getElem? (i := 128) rfl)) (hw _ (List.mem_of_getElem? (i := 130) rfl)) (hw _ (List.mem_of_getElem? (i := 129) rfl)) (hw _ (List.mem_of_getElem? (i := 131) rfl)) (hw _ (List.mem_of_getElem? (i := 60) rfl)) (by decide) own_pd_pqLjava_lang_Stringe rfl Sd2.1 (own_sbToS l Z a0 hw sb t ct _ G1 hG SG h140 n0 w140.old Sd2 (by simp; omega)) rfl (by decide) (W := 0) (Nat.le_of_eq rfl) (by decide) (by decide) (by decide) (fun _ q => nomatch q) (pc' := 34) rfl ?_
  intro v143 T143 h143 w143 K143 q143
  obtain ⟨x, d, cd, rfl, zx, Sx⟩ := q143
  show Goes p e below _ T143 (mkF m 34 #[.val (.ref v)] [(.ref x)])
  have Ev_144 := Ev_141.keep K143
  have Fr_144 := Fr_141.keep K143 nin0
  have R_144 := R_141.keep K143 nin0 nin0
  have U_144 := U_141.keep K143 nin0 nin0
  have Sft_144 := Safe.keep K143 sf0 C142.1 Sft_141
  have Sd_144 := Sd2.keep K143 nin0 nin0
  have C145 := C142.trans (CHr.keep K143 sf0 C142.1)
  have zx0 : h0.size ≤ x := Nat.le_trans w140.le0 zx
  exact i_retAH (own_EW hw) w143 hS133 (Nat.le_trans (Nat.le_trans (Nat.le_trans (Nat.le_refl _) K136.1) K140.1) K143.1) C145 own_d9_34 rfl rfl rfl ⟨x, d, cd, rfl, zx0, Sx⟩ (by decide) (by decide)
theorem own_d42_0 : decode method_3_code 0 = .ok (.aload_n 1, 1) := by decide +kernel
theorem own_d42_1 : decode method_3_code 1 = .ok (.invokevirtual 44, 3) := by decide +kernel
theorem own_d42_4 : decode method_3_code 4 = .ok (.istore_n 2, 1) := by decide +kernel
theorem own_d42_5 : decode method_3_code 5 = .ok (.iload_n 2, 1) := by decide +kernel
theorem own_d42_6 : decode method_3_code 6 = .ok (.iconst 1, 1) := by decide +kernel
theorem own_d42_7 : decode method_3_code 7 = .ok (.if_icmp .lt 19, 3) := by decide +kernel
theorem own_d42_10 : decode method_3_code 10 = .ok (.aload_n 0, 1) := by decide +kernel
theorem own_d42_11 : decode method_3_code 11 = .ok (.bipush 9, 2) := by decide +kernel
theorem own_d42_13 : decode method_3_code 13 = .ok (.invokevirtual 47, 3) := by decide +kernel
theorem own_d42_16 : decode method_3_code 16 = .ok (.aload_n 1, 1) := by decide +kernel
theorem own_d42_17 : decode method_3_code 17 = .ok (.iconst 0, 1) := by decide +kernel
theorem own_d42_18 : decode method_3_code 18 = .ok (.invokevirtual 47, 3) := by decide +kernel
theorem own_d42_21 : decode method_3_code 21 = .ok (.if_icmp .eq 5, 3) := by decide +kernel
theorem own_d42_24 : decode method_3_code 24 = .ok (.iconst 0, 1) := by decide +kernel
theorem own_d42_25 : decode method_3_code 25 = .ok (.ireturn, 1) := by decide +kernel
theorem own_d42_26 : decode method_3_code 26 = .ok (.iload_n 2, 1) := by decide +kernel
theorem own_d42_27 : decode method_3_code 27 = .ok (.iconst 2, 1) := by decide +kernel
theorem own_d42_28 : decode method_3_code 28 = .ok (.if_icmp .lt 19, 3) := by decide +kernel
theorem own_d42_31 : decode method_3_code 31 = .ok (.aload_n 0, 1) := by decide +kernel
theorem own_d42_32 : decode method_3_code 32 = .ok (.bipush 10, 2) := by decide +kernel
theorem own_d42_34 : decode method_3_code 34 = .ok (.invokevirtual 47, 3) := by decide +kernel
theorem own_d42_37 : decode method_3_code 37 = .ok (.aload_n 1, 1) := by decide +kernel
theorem own_d42_38 : decode method_3_code 38 = .ok (.iconst 1, 1) := by decide +kernel
theorem own_d42_39 : decode method_3_code 39 = .ok (.invokevirtual 47, 3) := by decide +kernel
theorem own_d42_42 : decode method_3_code 42 = .ok (.if_icmp .eq 5, 3) := by decide +kernel
theorem own_d42_45 : decode method_3_code 45 = .ok (.iconst 0, 1) := by decide +kernel
theorem own_d42_46 : decode method_3_code 46 = .ok (.ireturn, 1) := by decide +kernel
theorem own_d42_47 : decode method_3_code 47 = .ok (.iload_n 2, 1) := by decide +kernel
theorem own_d42_48 : decode method_3_code 48 = .ok (.iconst 3, 1) := by decide +kernel
theorem own_d42_49 : decode method_3_code 49 = .ok (.if_icmp .lt 19, 3) := by decide +kernel
theorem own_d42_52 : decode method_3_code 52 = .ok (.aload_n 0, 1) := by decide +kernel
theorem own_d42_53 : decode method_3_code 53 = .ok (.bipush 11, 2) := by decide +kernel
theorem own_d42_55 : decode method_3_code 55 = .ok (.invokevirtual 47, 3) := by decide +kernel
theorem own_d42_58 : decode method_3_code 58 = .ok (.aload_n 1, 1) := by decide +kernel
theorem own_d42_59 : decode method_3_code 59 = .ok (.iconst 2, 1) := by decide +kernel
theorem own_d42_60 : decode method_3_code 60 = .ok (.invokevirtual 47, 3) := by decide +kernel
theorem own_d42_63 : decode method_3_code 63 = .ok (.if_icmp .eq 5, 3) := by decide +kernel
theorem own_d42_66 : decode method_3_code 66 = .ok (.iconst 0, 1) := by decide +kernel
theorem own_d42_67 : decode method_3_code 67 = .ok (.ireturn, 1) := by decide +kernel
theorem own_d42_68 : decode method_3_code 68 = .ok (.iconst 1, 1) := by decide +kernel
theorem own_d42_69 : decode method_3_code 69 = .ok (.ireturn, 1) := by decide +kernel
theorem own_pn_com_example_sinete_sinete_pki_VerdictInvalidPinLaw : plainName "com/example/sinete/sinete/pki/VerdictInvalidPinLaw" = true := by first | (simp [plainName, overriddenIn]; done) | decide +kernel
theorem own_pd_pLjava_lang_StringeLjava_lang_StringeqZ : parseMethodDescriptor "(Ljava/lang/String;Ljava/lang/String;)Z" = some ⟨[(.object "java/lang/String"), (.object "java/lang/String")], some .boolean⟩ := by decide +kernel
theorem own_ef_own_d42 (m : MethodId) (x0 : Addr) (x1 : Addr) : entryFrame m #[(.ref x0), (.ref x1)] 3 = mkF m 0 #[.val (.ref x0), .val (.ref x1), .unset] [] := by
  first | (simp [entryFrame, mkF, argsToLocals, Value.category]; done) | rfl
set_option maxRecDepth 65536 in
set_option maxHeartbeats 40000000 in
theorem own_tail (l : Launch) (Z : State) (a0 : Array Value) (hw : ∀ d ∈ tables_1, d.before a0 Z = true) (x tx r tr : Addr) (cx cr : ClassId) (rs : List Nat) (G1 : Int32) (hG : ¬ G1 = 0) (SG : Sta Z Z.heap "java/lang/String" "COMPACT_STRINGS" "Z" (.int G1)) (G3 : Value) (hG3 : G3.isRef = true) (SF : Sta Z Z.heap "jdk/internal/util/Preconditions" "SIOOBE_FORMATTER" "Ljava/util/function/BiFunction;" G3) (h0 : Heap) (n0 : Nat) (O : Old Z n0 h0) (X : StrL Z h0 x tx cx ([73, 78, 86, 65, 76, 73, 68, 58, 32] ++ rs)) (R : StrL Z h0 r tr cr rs) (hrs : rs.length ≤ 3) :
    Ctr l Z n0 (⟨"com/example/sinete/sinete/pki/VerdictInvalidPinLaw", "tailMatches", "(Ljava/lang/String;Ljava/lang/String;)Z"⟩ : MethodName) method_3_code 3 (some .boolean) [] ({ frames := 4, cells := 0, slots := 0, locals := 54 } : Room) #[(.ref x), (.ref r)] h0 [] (fun v h => v = some (.int 1) ∧ h0 = h) := by
  refine enter (plainFor_of_name own_pn_com_example_sinete_sinete_pki_VerdictInvalidPinLaw) (fun m => own_ef_own_d42 m x r) O (fun _ q => nomatch q) ?_
  intro p e s m below meth c T w
  refine i_aloadN w own_d42_0 rfl rfl (pc' := 1) rfl ?_
  refine c_virtual w (y := (⟨"java/lang/String", "length", "()I"⟩ : MethodName)) (C := "java/lang/String") (a := r) (argsL := []) (st := []) own_d42_1 (hw _ (List.mem_of_getElem? (i := 173) rfl)) (hw _ (List.mem_of_getElem? (i := 88) rfl)) (hw _ (List.mem_of_getElem? (i := 90) rfl)) (hw _ (List.mem_of_getElem? (i := 89) rfl)) (hw _ (List.mem_of_getElem? (i := 91) rfl)) (hw _ (List.mem_of_getElem? (i := 2) rfl)) (by decide) own_pd_pqI rfl R.1 (own_length l Z a0 hw r tr cr rs G1 hG SG h0 n0 w.old (Or.inl R)) rfl (by decide) (W := 0) (Nat.le_of_eq rfl) (by decide) (by decide) (by decide) (fun _ q => nomatch q) (pc' := 4) rfl ?_
  intro v146 T146 h146 w146 K146 q146
  obtain ⟨rfl, rfl⟩ := q146
  show Goes p e below _ T146 (mkF m 4 #[.val (.ref x), .val (.ref r), .unset] [(.int (Int32.ofNat rs.length))])
  refine i_istoreN w146 own_d42_4 (l' := #[.val (.ref x), .val (.ref r), .val (.int (Int32.ofNat rs.length))]) rfl (pc' := 5) rfl ?_
  refine i_iloadN w146 own_d42_5 rfl (pc' := 6) rfl ?_
  refine i_iconst w146 own_d42_6 (z := (1 : Int32)) (by decide) (pc' := 7) rfl ?_
  refine i_icmp_lt w146 own_d42_7 (pcY := 26) (by decide) (pc' := 10) rfl (fun hc7 => ?_) (fun hc7 => ?_)
  ·
    refine i_iloadN w146 own_d42_26 rfl (pc' := 27) rfl ?_
    refine i_iconst w146 own_d42_27 (z := (2 : Int32)) (by decide) (pc' := 28) rfl ?_
    refine i_icmp_lt w146 own_d42_28 (pcY := 47) (by decide) (pc' := 31) rfl (fun hc28 => ?_) (fun hc28 => ?_)
    ·
      refine i_iloadN w146 own_d42_47 rfl (pc' := 48) rfl ?_
      refine i_iconst w146 own_d42_48 (z := (3 : Int32)) (by decide) (pc' := 49) rfl ?_
      refine i_icmp_lt w146 own_d42_49 (pcY := 68) (by decide) (pc' := 52) rfl (fun hc49 => ?_) (fun hc49 => ?_)
      ·
        refine i_iconst w146 own_d42_68 (z := (1 : Int32)) (by decide) (pc' := 69) rfl ?_
        exact i_retN w146 own_d42_69 rfl (by simp) ⟨rfl, rfl⟩ (by decide) (by decide)
      ·
        refine i_aloadN w146 own_d42_52 rfl rfl (pc' := 53) rfl ?_
        refine i_bipush w146 own_d42_53 (z := (11 : Int32)) (by decide) (pc' := 55) rfl ?_
        obtain ⟨k2, hk2⟩ : ∃ c, rs[2]? = some c := ⟨_, List.getElem?_eq_getElem (by have q := hc49; rw [show (3 : Int32) = Int32.ofNat 3 from rfl, lt_nat (by omega) (by omega)] at q; omega)⟩
        refine c_virtual w146 (y := (⟨"java/lang/String", "charAt", "(I)C"⟩ : MethodName)) (C := "java/lang/String") (a := x) (argsL := [(.int (11 : Int32))]) (st := []) own_d42_55 (hw _ (List.mem_of_getElem? (i := 176) rfl)) (hw _ (List.mem_of_getElem? (i := 177) rfl)) (hw _ (List.mem_of_getElem? (i := 179) rfl)) (hw _ (List.mem_of_getElem? (i := 178) rfl)) (hw _ (List.mem_of_getElem? (i := 180) rfl)) (hw _ (List.mem_of_getElem? (i := 2) rfl)) (by decide) own_pd_pIqC rfl X.1 (own_charAt l Z a0 hw x tx cx ([73, 78, 86, 65, 76, 73, 68, 58, 32] ++ rs) 11 k2 G1 hG SG G3 hG3 SF h0 n0 w146.old X (by rw [List.getElem?_append_right (by decide)]; exact hk2)) rfl (by decide) (W := 0) (Nat.le_of_eq rfl) (by decide) (by decide) (by decide) (fun _ q => nomatch q) (pc' := 58) rfl ?_
        intro v147 T147 h147 w147 K147 q147
        obtain ⟨rfl, rfl⟩ := q147
        show Goes p e below _ T147 (mkF m 58 #[.val (.ref x), .val (.ref r), .val (.int (Int32.ofNat rs.length))] [(.int (Int32.ofNat k2))])
        refine i_aloadN w147 own_d42_58 rfl rfl (pc' := 59) rfl ?_
        refine i_iconst w147 own_d42_59 (z := (2 : Int32)) (by decide) (pc' := 60) rfl ?_
        refine c_virtual w147 (y := (⟨"java/lang/String", "charAt", "(I)C"⟩ : MethodName)) (C := "java/lang/String") (a := r) (argsL := [(.int (2 : Int32))]) (st := [(.int (Int32.ofNat k2))]) own_d42_60 (hw _ (List.mem_of_getElem? (i := 176) rfl)) (hw _ (List.mem_of_getElem? (i := 177) rfl)) (hw _ (List.mem_of_getElem? (i := 179) rfl)) (hw _ (List.mem_of_getElem? (i := 178) rfl)) (hw _ (List.mem_of_getElem? (i := 180) rfl)) (hw _ (List.mem_of_getElem? (i := 2) rfl)) (by decide) own_pd_pIqC rfl R.1 (own_charAt l Z a0 hw r tr cr rs 2 k2 G1 hG SG G3 hG3 SF h0 n0 w147.old R hk2) rfl (by decide) (W := 1) (Nat.le_of_eq rfl) (by decide) (by decide) (by decide) (fun _ q => nomatch q) (pc' := 63) rfl ?_
        intro v148 T148 h148 w148 K148 q148
        obtain ⟨rfl, rfl⟩ := q148
        show Goes p e below _ T148 (mkF m 63 #[.val (.ref x), .val (.ref r), .val (.int (Int32.ofNat rs.length))] [(.int (Int32.ofNat k2)), (.int (Int32.ofNat k2))])
        refine i_icmp_eq_Y w148 rfl own_d42_63 (pc' := 68) (by decide) ?_
        refine i_iconst w148 own_d42_68 (z := (1 : Int32)) (by decide) (pc' := 69) rfl ?_
        exact i_retN w148 own_d42_69 rfl (by simp) ⟨rfl, rfl⟩ (by decide) (by decide)
    ·
      refine i_aloadN w146 own_d42_31 rfl rfl (pc' := 32) rfl ?_
      refine i_bipush w146 own_d42_32 (z := (10 : Int32)) (by decide) (pc' := 34) rfl ?_
      obtain ⟨k1, hk1⟩ : ∃ c, rs[1]? = some c := ⟨_, List.getElem?_eq_getElem (by have q := hc28; rw [show (2 : Int32) = Int32.ofNat 2 from rfl, lt_nat (by omega) (by omega)] at q; omega)⟩
      refine c_virtual w146 (y := (⟨"java/lang/String", "charAt", "(I)C"⟩ : MethodName)) (C := "java/lang/String") (a := x) (argsL := [(.int (10 : Int32))]) (st := []) own_d42_34 (hw _ (List.mem_of_getElem? (i := 176) rfl)) (hw _ (List.mem_of_getElem? (i := 177) rfl)) (hw _ (List.mem_of_getElem? (i := 179) rfl)) (hw _ (List.mem_of_getElem? (i := 178) rfl)) (hw _ (List.mem_of_getElem? (i := 180) rfl)) (hw _ (List.mem_of_getElem? (i := 2) rfl)) (by decide) own_pd_pIqC rfl X.1 (own_charAt l Z a0 hw x tx cx ([73, 78, 86, 65, 76, 73, 68, 58, 32] ++ rs) 10 k1 G1 hG SG G3 hG3 SF h0 n0 w146.old X (by rw [List.getElem?_append_right (by decide)]; exact hk1)) rfl (by decide) (W := 0) (Nat.le_of_eq rfl) (by decide) (by decide) (by decide) (fun _ q => nomatch q) (pc' := 37) rfl ?_
      intro v149 T149 h149 w149 K149 q149
      obtain ⟨rfl, rfl⟩ := q149
      show Goes p e below _ T149 (mkF m 37 #[.val (.ref x), .val (.ref r), .val (.int (Int32.ofNat rs.length))] [(.int (Int32.ofNat k1))])
      refine i_aloadN w149 own_d42_37 rfl rfl (pc' := 38) rfl ?_
      refine i_iconst w149 own_d42_38 (z := (1 : Int32)) (by decide) (pc' := 39) rfl ?_
      refine c_virtual w149 (y := (⟨"java/lang/String", "charAt", "(I)C"⟩ : MethodName)) (C := "java/lang/String") (a := r) (argsL := [(.int (1 : Int32))]) (st := [(.int (Int32.ofNat k1))]) own_d42_39 (hw _ (List.mem_of_getElem? (i := 176) rfl)) (hw _ (List.mem_of_getElem? (i := 177) rfl)) (hw _ (List.mem_of_getElem? (i := 179) rfl)) (hw _ (List.mem_of_getElem? (i := 178) rfl)) (hw _ (List.mem_of_getElem? (i := 180) rfl)) (hw _ (List.mem_of_getElem? (i := 2) rfl)) (by decide) own_pd_pIqC rfl R.1 (own_charAt l Z a0 hw r tr cr rs 1 k1 G1 hG SG G3 hG3 SF h0 n0 w149.old R hk1) rfl (by decide) (W := 1) (Nat.le_of_eq rfl) (by decide) (by decide) (by decide) (fun _ q => nomatch q) (pc' := 42) rfl ?_
      intro v150 T150 h150 w150 K150 q150
      obtain ⟨rfl, rfl⟩ := q150
      show Goes p e below _ T150 (mkF m 42 #[.val (.ref x), .val (.ref r), .val (.int (Int32.ofNat rs.length))] [(.int (Int32.ofNat k1)), (.int (Int32.ofNat k1))])
      refine i_icmp_eq_Y w150 rfl own_d42_42 (pc' := 47) (by decide) ?_
      refine i_iloadN w150 own_d42_47 rfl (pc' := 48) rfl ?_
      refine i_iconst w150 own_d42_48 (z := (3 : Int32)) (by decide) (pc' := 49) rfl ?_
      refine i_icmp_lt w150 own_d42_49 (pcY := 68) (by decide) (pc' := 52) rfl (fun hc49 => ?_) (fun hc49 => ?_)
      ·
        refine i_iconst w150 own_d42_68 (z := (1 : Int32)) (by decide) (pc' := 69) rfl ?_
        exact i_retN w150 own_d42_69 rfl (by simp) ⟨rfl, rfl⟩ (by decide) (by decide)
      ·
        refine i_aloadN w150 own_d42_52 rfl rfl (pc' := 53) rfl ?_
        refine i_bipush w150 own_d42_53 (z := (11 : Int32)) (by decide) (pc' := 55) rfl ?_
        obtain ⟨k2, hk2⟩ : ∃ c, rs[2]? = some c := ⟨_, List.getElem?_eq_getElem (by have q := hc49; rw [show (3 : Int32) = Int32.ofNat 3 from rfl, lt_nat (by omega) (by omega)] at q; omega)⟩
        refine c_virtual w150 (y := (⟨"java/lang/String", "charAt", "(I)C"⟩ : MethodName)) (C := "java/lang/String") (a := x) (argsL := [(.int (11 : Int32))]) (st := []) own_d42_55 (hw _ (List.mem_of_getElem? (i := 176) rfl)) (hw _ (List.mem_of_getElem? (i := 177) rfl)) (hw _ (List.mem_of_getElem? (i := 179) rfl)) (hw _ (List.mem_of_getElem? (i := 178) rfl)) (hw _ (List.mem_of_getElem? (i := 180) rfl)) (hw _ (List.mem_of_getElem? (i := 2) rfl)) (by decide) own_pd_pIqC rfl X.1 (own_charAt l Z a0 hw x tx cx ([73, 78, 86, 65, 76, 73, 68, 58, 32] ++ rs) 11 k2 G1 hG SG G3 hG3 SF h0 n0 w150.old X (by rw [List.getElem?_append_right (by decide)]; exact hk2)) rfl (by decide) (W := 0) (Nat.le_of_eq rfl) (by decide) (by decide) (by decide) (fun _ q => nomatch q) (pc' := 58) rfl ?_
        intro v151 T151 h151 w151 K151 q151
        obtain ⟨rfl, rfl⟩ := q151
        show Goes p e below _ T151 (mkF m 58 #[.val (.ref x), .val (.ref r), .val (.int (Int32.ofNat rs.length))] [(.int (Int32.ofNat k2))])
        refine i_aloadN w151 own_d42_58 rfl rfl (pc' := 59) rfl ?_
        refine i_iconst w151 own_d42_59 (z := (2 : Int32)) (by decide) (pc' := 60) rfl ?_
        refine c_virtual w151 (y := (⟨"java/lang/String", "charAt", "(I)C"⟩ : MethodName)) (C := "java/lang/String") (a := r) (argsL := [(.int (2 : Int32))]) (st := [(.int (Int32.ofNat k2))]) own_d42_60 (hw _ (List.mem_of_getElem? (i := 176) rfl)) (hw _ (List.mem_of_getElem? (i := 177) rfl)) (hw _ (List.mem_of_getElem? (i := 179) rfl)) (hw _ (List.mem_of_getElem? (i := 178) rfl)) (hw _ (List.mem_of_getElem? (i := 180) rfl)) (hw _ (List.mem_of_getElem? (i := 2) rfl)) (by decide) own_pd_pIqC rfl R.1 (own_charAt l Z a0 hw r tr cr rs 2 k2 G1 hG SG G3 hG3 SF h0 n0 w151.old R hk2) rfl (by decide) (W := 1) (Nat.le_of_eq rfl) (by decide) (by decide) (by decide) (fun _ q => nomatch q) (pc' := 63) rfl ?_
        intro v152 T152 h152 w152 K152 q152
        obtain ⟨rfl, rfl⟩ := q152
        show Goes p e below _ T152 (mkF m 63 #[.val (.ref x), .val (.ref r), .val (.int (Int32.ofNat rs.length))] [(.int (Int32.ofNat k2)), (.int (Int32.ofNat k2))])
        refine i_icmp_eq_Y w152 rfl own_d42_63 (pc' := 68) (by decide) ?_
        refine i_iconst w152 own_d42_68 (z := (1 : Int32)) (by decide) (pc' := 69) rfl ?_
        exact i_retN w152 own_d42_69 rfl (by simp) ⟨rfl, rfl⟩ (by decide) (by decide)
  ·
    refine i_aloadN w146 own_d42_10 rfl rfl (pc' := 11) rfl ?_
    refine i_bipush w146 own_d42_11 (z := (9 : Int32)) (by decide) (pc' := 13) rfl ?_
    obtain ⟨k0, hk0⟩ : ∃ c, rs[0]? = some c := ⟨_, List.getElem?_eq_getElem (by have q := hc7; rw [show (1 : Int32) = Int32.ofNat 1 from rfl, lt_nat (by omega) (by omega)] at q; omega)⟩
    refine c_virtual w146 (y := (⟨"java/lang/String", "charAt", "(I)C"⟩ : MethodName)) (C := "java/lang/String") (a := x) (argsL := [(.int (9 : Int32))]) (st := []) own_d42_13 (hw _ (List.mem_of_getElem? (i := 176) rfl)) (hw _ (List.mem_of_getElem? (i := 177) rfl)) (hw _ (List.mem_of_getElem? (i := 179) rfl)) (hw _ (List.mem_of_getElem? (i := 178) rfl)) (hw _ (List.mem_of_getElem? (i := 180) rfl)) (hw _ (List.mem_of_getElem? (i := 2) rfl)) (by decide) own_pd_pIqC rfl X.1 (own_charAt l Z a0 hw x tx cx ([73, 78, 86, 65, 76, 73, 68, 58, 32] ++ rs) 9 k0 G1 hG SG G3 hG3 SF h0 n0 w146.old X (by rw [List.getElem?_append_right (by decide)]; exact hk0)) rfl (by decide) (W := 0) (Nat.le_of_eq rfl) (by decide) (by decide) (by decide) (fun _ q => nomatch q) (pc' := 16) rfl ?_
    intro v153 T153 h153 w153 K153 q153
    obtain ⟨rfl, rfl⟩ := q153
    show Goes p e below _ T153 (mkF m 16 #[.val (.ref x), .val (.ref r), .val (.int (Int32.ofNat rs.length))] [(.int (Int32.ofNat k0))])
    refine i_aloadN w153 own_d42_16 rfl rfl (pc' := 17) rfl ?_
    refine i_iconst w153 own_d42_17 (z := (0 : Int32)) (by decide) (pc' := 18) rfl ?_
    refine c_virtual w153 (y := (⟨"java/lang/String", "charAt", "(I)C"⟩ : MethodName)) (C := "java/lang/String") (a := r) (argsL := [(.int (0 : Int32))]) (st := [(.int (Int32.ofNat k0))]) own_d42_18 (hw _ (List.mem_of_getElem? (i := 176) rfl)) (hw _ (List.mem_of_getElem? (i := 177) rfl)) (hw _ (List.mem_of_getElem? (i := 179) rfl)) (hw _ (List.mem_of_getElem? (i := 178) rfl)) (hw _ (List.mem_of_getElem? (i := 180) rfl)) (hw _ (List.mem_of_getElem? (i := 2) rfl)) (by decide) own_pd_pIqC rfl R.1 (own_charAt l Z a0 hw r tr cr rs 0 k0 G1 hG SG G3 hG3 SF h0 n0 w153.old R hk0) rfl (by decide) (W := 1) (Nat.le_of_eq rfl) (by decide) (by decide) (by decide) (fun _ q => nomatch q) (pc' := 21) rfl ?_
    intro v154 T154 h154 w154 K154 q154
    obtain ⟨rfl, rfl⟩ := q154
    show Goes p e below _ T154 (mkF m 21 #[.val (.ref x), .val (.ref r), .val (.int (Int32.ofNat rs.length))] [(.int (Int32.ofNat k0)), (.int (Int32.ofNat k0))])
    refine i_icmp_eq_Y w154 rfl own_d42_21 (pc' := 26) (by decide) ?_
    refine i_iloadN w154 own_d42_26 rfl (pc' := 27) rfl ?_
    refine i_iconst w154 own_d42_27 (z := (2 : Int32)) (by decide) (pc' := 28) rfl ?_
    refine i_icmp_lt w154 own_d42_28 (pcY := 47) (by decide) (pc' := 31) rfl (fun hc28 => ?_) (fun hc28 => ?_)
    ·
      refine i_iloadN w154 own_d42_47 rfl (pc' := 48) rfl ?_
      refine i_iconst w154 own_d42_48 (z := (3 : Int32)) (by decide) (pc' := 49) rfl ?_
      refine i_icmp_lt w154 own_d42_49 (pcY := 68) (by decide) (pc' := 52) rfl (fun hc49 => ?_) (fun hc49 => ?_)
      ·
        refine i_iconst w154 own_d42_68 (z := (1 : Int32)) (by decide) (pc' := 69) rfl ?_
        exact i_retN w154 own_d42_69 rfl (by simp) ⟨rfl, rfl⟩ (by decide) (by decide)
      ·
        refine i_aloadN w154 own_d42_52 rfl rfl (pc' := 53) rfl ?_
        refine i_bipush w154 own_d42_53 (z := (11 : Int32)) (by decide) (pc' := 55) rfl ?_
        obtain ⟨k2, hk2⟩ : ∃ c, rs[2]? = some c := ⟨_, List.getElem?_eq_getElem (by have q := hc49; rw [show (3 : Int32) = Int32.ofNat 3 from rfl, lt_nat (by omega) (by omega)] at q; omega)⟩
        refine c_virtual w154 (y := (⟨"java/lang/String", "charAt", "(I)C"⟩ : MethodName)) (C := "java/lang/String") (a := x) (argsL := [(.int (11 : Int32))]) (st := []) own_d42_55 (hw _ (List.mem_of_getElem? (i := 176) rfl)) (hw _ (List.mem_of_getElem? (i := 177) rfl)) (hw _ (List.mem_of_getElem? (i := 179) rfl)) (hw _ (List.mem_of_getElem? (i := 178) rfl)) (hw _ (List.mem_of_getElem? (i := 180) rfl)) (hw _ (List.mem_of_getElem? (i := 2) rfl)) (by decide) own_pd_pIqC rfl X.1 (own_charAt l Z a0 hw x tx cx ([73, 78, 86, 65, 76, 73, 68, 58, 32] ++ rs) 11 k2 G1 hG SG G3 hG3 SF h0 n0 w154.old X (by rw [List.getElem?_append_right (by decide)]; exact hk2)) rfl (by decide) (W := 0) (Nat.le_of_eq rfl) (by decide) (by decide) (by decide) (fun _ q => nomatch q) (pc' := 58) rfl ?_
        intro v155 T155 h155 w155 K155 q155
        obtain ⟨rfl, rfl⟩ := q155
        show Goes p e below _ T155 (mkF m 58 #[.val (.ref x), .val (.ref r), .val (.int (Int32.ofNat rs.length))] [(.int (Int32.ofNat k2))])
        refine i_aloadN w155 own_d42_58 rfl rfl (pc' := 59) rfl ?_
        refine i_iconst w155 own_d42_59 (z := (2 : Int32)) (by decide) (pc' := 60) rfl ?_
        refine c_virtual w155 (y := (⟨"java/lang/String", "charAt", "(I)C"⟩ : MethodName)) (C := "java/lang/String") (a := r) (argsL := [(.int (2 : Int32))]) (st := [(.int (Int32.ofNat k2))]) own_d42_60 (hw _ (List.mem_of_getElem? (i := 176) rfl)) (hw _ (List.mem_of_getElem? (i := 177) rfl)) (hw _ (List.mem_of_getElem? (i := 179) rfl)) (hw _ (List.mem_of_getElem? (i := 178) rfl)) (hw _ (List.mem_of_getElem? (i := 180) rfl)) (hw _ (List.mem_of_getElem? (i := 2) rfl)) (by decide) own_pd_pIqC rfl R.1 (own_charAt l Z a0 hw r tr cr rs 2 k2 G1 hG SG G3 hG3 SF h0 n0 w155.old R hk2) rfl (by decide) (W := 1) (Nat.le_of_eq rfl) (by decide) (by decide) (by decide) (fun _ q => nomatch q) (pc' := 63) rfl ?_
        intro v156 T156 h156 w156 K156 q156
        obtain ⟨rfl, rfl⟩ := q156
        show Goes p e below _ T156 (mkF m 63 #[.val (.ref x), .val (.ref r), .val (.int (Int32.ofNat rs.length))] [(.int (Int32.ofNat k2)), (.int (Int32.ofNat k2))])
        refine i_icmp_eq_Y w156 rfl own_d42_63 (pc' := 68) (by decide) ?_
        refine i_iconst w156 own_d42_68 (z := (1 : Int32)) (by decide) (pc' := 69) rfl ?_
        exact i_retN w156 own_d42_69 rfl (by simp) ⟨rfl, rfl⟩ (by decide) (by decide)
    ·
      refine i_aloadN w154 own_d42_31 rfl rfl (pc' := 32) rfl ?_
      refine i_bipush w154 own_d42_32 (z := (10 : Int32)) (by decide) (pc' := 34) rfl ?_
      obtain ⟨k1, hk1⟩ : ∃ c, rs[1]? = some c := ⟨_, List.getElem?_eq_getElem (by have q := hc28; rw [show (2 : Int32) = Int32.ofNat 2 from rfl, lt_nat (by omega) (by omega)] at q; omega)⟩
      refine c_virtual w154 (y := (⟨"java/lang/String", "charAt", "(I)C"⟩ : MethodName)) (C := "java/lang/String") (a := x) (argsL := [(.int (10 : Int32))]) (st := []) own_d42_34 (hw _ (List.mem_of_getElem? (i := 176) rfl)) (hw _ (List.mem_of_getElem? (i := 177) rfl)) (hw _ (List.mem_of_getElem? (i := 179) rfl)) (hw _ (List.mem_of_getElem? (i := 178) rfl)) (hw _ (List.mem_of_getElem? (i := 180) rfl)) (hw _ (List.mem_of_getElem? (i := 2) rfl)) (by decide) own_pd_pIqC rfl X.1 (own_charAt l Z a0 hw x tx cx ([73, 78, 86, 65, 76, 73, 68, 58, 32] ++ rs) 10 k1 G1 hG SG G3 hG3 SF h0 n0 w154.old X (by rw [List.getElem?_append_right (by decide)]; exact hk1)) rfl (by decide) (W := 0) (Nat.le_of_eq rfl) (by decide) (by decide) (by decide) (fun _ q => nomatch q) (pc' := 37) rfl ?_
      intro v157 T157 h157 w157 K157 q157
      obtain ⟨rfl, rfl⟩ := q157
      show Goes p e below _ T157 (mkF m 37 #[.val (.ref x), .val (.ref r), .val (.int (Int32.ofNat rs.length))] [(.int (Int32.ofNat k1))])
      refine i_aloadN w157 own_d42_37 rfl rfl (pc' := 38) rfl ?_
      refine i_iconst w157 own_d42_38 (z := (1 : Int32)) (by decide) (pc' := 39) rfl ?_
      refine c_virtual w157 (y := (⟨"java/lang/String", "charAt", "(I)C"⟩ : MethodName)) (C := "java/lang/String") (a := r) (argsL := [(.int (1 : Int32))]) (st := [(.int (Int32.ofNat k1))]) own_d42_39 (hw _ (List.mem_of_getElem? (i := 176) rfl)) (hw _ (List.mem_of_getElem? (i := 177) rfl)) (hw _ (List.mem_of_getElem? (i := 179) rfl)) (hw _ (List.mem_of_getElem? (i := 178) rfl)) (hw _ (List.mem_of_getElem? (i := 180) rfl)) (hw _ (List.mem_of_getElem? (i := 2) rfl)) (by decide) own_pd_pIqC rfl R.1 (own_charAt l Z a0 hw r tr cr rs 1 k1 G1 hG SG G3 hG3 SF h0 n0 w157.old R hk1) rfl (by decide) (W := 1) (Nat.le_of_eq rfl) (by decide) (by decide) (by decide) (fun _ q => nomatch q) (pc' := 42) rfl ?_
      intro v158 T158 h158 w158 K158 q158
      obtain ⟨rfl, rfl⟩ := q158
      show Goes p e below _ T158 (mkF m 42 #[.val (.ref x), .val (.ref r), .val (.int (Int32.ofNat rs.length))] [(.int (Int32.ofNat k1)), (.int (Int32.ofNat k1))])
      refine i_icmp_eq_Y w158 rfl own_d42_42 (pc' := 47) (by decide) ?_
      refine i_iloadN w158 own_d42_47 rfl (pc' := 48) rfl ?_
      refine i_iconst w158 own_d42_48 (z := (3 : Int32)) (by decide) (pc' := 49) rfl ?_
      refine i_icmp_lt w158 own_d42_49 (pcY := 68) (by decide) (pc' := 52) rfl (fun hc49 => ?_) (fun hc49 => ?_)
      ·
        refine i_iconst w158 own_d42_68 (z := (1 : Int32)) (by decide) (pc' := 69) rfl ?_
        exact i_retN w158 own_d42_69 rfl (by simp) ⟨rfl, rfl⟩ (by decide) (by decide)
      ·
        refine i_aloadN w158 own_d42_52 rfl rfl (pc' := 53) rfl ?_
        refine i_bipush w158 own_d42_53 (z := (11 : Int32)) (by decide) (pc' := 55) rfl ?_
        obtain ⟨k2, hk2⟩ : ∃ c, rs[2]? = some c := ⟨_, List.getElem?_eq_getElem (by have q := hc49; rw [show (3 : Int32) = Int32.ofNat 3 from rfl, lt_nat (by omega) (by omega)] at q; omega)⟩
        refine c_virtual w158 (y := (⟨"java/lang/String", "charAt", "(I)C"⟩ : MethodName)) (C := "java/lang/String") (a := x) (argsL := [(.int (11 : Int32))]) (st := []) own_d42_55 (hw _ (List.mem_of_getElem? (i := 176) rfl)) (hw _ (List.mem_of_getElem? (i := 177) rfl)) (hw _ (List.mem_of_getElem? (i := 179) rfl)) (hw _ (List.mem_of_getElem? (i := 178) rfl)) (hw _ (List.mem_of_getElem? (i := 180) rfl)) (hw _ (List.mem_of_getElem? (i := 2) rfl)) (by decide) own_pd_pIqC rfl X.1 (own_charAt l Z a0 hw x tx cx ([73, 78, 86, 65, 76, 73, 68, 58, 32] ++ rs) 11 k2 G1 hG SG G3 hG3 SF h0 n0 w158.old X (by rw [List.getElem?_append_right (by decide)]; exact hk2)) rfl (by decide) (W := 0) (Nat.le_of_eq rfl) (by decide) (by decide) (by decide) (fun _ q => nomatch q) (pc' := 58) rfl ?_
        intro v159 T159 h159 w159 K159 q159
        obtain ⟨rfl, rfl⟩ := q159
        show Goes p e below _ T159 (mkF m 58 #[.val (.ref x), .val (.ref r), .val (.int (Int32.ofNat rs.length))] [(.int (Int32.ofNat k2))])
        refine i_aloadN w159 own_d42_58 rfl rfl (pc' := 59) rfl ?_
        refine i_iconst w159 own_d42_59 (z := (2 : Int32)) (by decide) (pc' := 60) rfl ?_
        refine c_virtual w159 (y := (⟨"java/lang/String", "charAt", "(I)C"⟩ : MethodName)) (C := "java/lang/String") (a := r) (argsL := [(.int (2 : Int32))]) (st := [(.int (Int32.ofNat k2))]) own_d42_60 (hw _ (List.mem_of_getElem? (i := 176) rfl)) (hw _ (List.mem_of_getElem? (i := 177) rfl)) (hw _ (List.mem_of_getElem? (i := 179) rfl)) (hw _ (List.mem_of_getElem? (i := 178) rfl)) (hw _ (List.mem_of_getElem? (i := 180) rfl)) (hw _ (List.mem_of_getElem? (i := 2) rfl)) (by decide) own_pd_pIqC rfl R.1 (own_charAt l Z a0 hw r tr cr rs 2 k2 G1 hG SG G3 hG3 SF h0 n0 w159.old R hk2) rfl (by decide) (W := 1) (Nat.le_of_eq rfl) (by decide) (by decide) (by decide) (fun _ q => nomatch q) (pc' := 63) rfl ?_
        intro v160 T160 h160 w160 K160 q160
        obtain ⟨rfl, rfl⟩ := q160
        show Goes p e below _ T160 (mkF m 63 #[.val (.ref x), .val (.ref r), .val (.int (Int32.ofNat rs.length))] [(.int (Int32.ofNat k2)), (.int (Int32.ofNat k2))])
        refine i_icmp_eq_Y w160 rfl own_d42_63 (pc' := 68) (by decide) ?_
        refine i_iconst w160 own_d42_68 (z := (1 : Int32)) (by decide) (pc' := 69) rfl ?_
        exact i_retN w160 own_d42_69 rfl (by simp) ⟨rfl, rfl⟩ (by decide) (by decide)
set_option maxRecDepth 65536 in
set_option maxHeartbeats 40000000 in
theorem own_seg (l : Launch) (Z : State) (a0 : Array Value) (hw : ∀ d ∈ tables_1, d.before a0 Z = true) (y0 y1 y2 y3 ka kb kc z7 : Int32) (r tr : Addr) (cr : ClassId) (rs : List Nat) (G1 : Int32) (hG : ¬ G1 = 0) (SG : Sta Z Z.heap "java/lang/String" "COMPACT_STRINGS" "Z" (.int G1)) (G3 : Value) (hG3 : G3.isRef = true) (SF : Sta Z Z.heap "jdk/internal/util/Preconditions" "SIOOBE_FORMATTER" "Ljava/util/function/BiFunction;" G3) (h0 : Heap) (n0 : Nat) {p : Program} {e : Env} {s : State} {m : MethodId} {below : List Frame} {meth : Method} {c : Code} {vm : Vm} {kS : Nat} {T : State} {h : Heap} (w : Wk p l e room_1 (s.setVm vm) m #[(.int y0), (.int y1), (.int y2), (.int y3)] below meth c Z x.cls code maxLocals ret x.name n0 h0 [] T h 8 200) (hS : s.Since vm kS) (hkS : kS ≤ h.size) (C0 : CHr Z consts_1 s.vm s.heap vm h) (R : StrL Z h r tr cr rs) (hrs : rs.length ≤ 3) :
    Goes p e below (PH consts_1 Z s n0 h0 [] (fun v h => v = some (.int 1)) room_1.cells room_1.slots) T (mkF m 87 #[.val (.int y0), .val (.int y1), .val (.int y2), .val (.int y3), .val (.int ka), .val (.int kb), .val (.int kc), .val (.int z7), .val (.ref r), .unset, .unset, .unset, .unset] []) := by
  refine i_aload w at_87 rfl rfl (pc' := 89) rfl ?_
  refine c_staticH (own_EW hw) w hS hkS C0.1 (y := (⟨"com/example/sinete/sinete/pki/Verdict", "invalid", "(Ljava/lang/String;)Lcom/example/sinete/sinete/pki/Verdict;"⟩ : MethodName)) (argsL := [(.ref r)]) (st := []) at_89 (hw _ (List.mem_of_getElem? (i := 9) rfl)) (hw _ (List.mem_of_getElem? (i := 10) rfl)) (hw _ (List.mem_of_getElem? (i := 11) rfl)) (hw _ (List.mem_of_getElem? (i := 12) rfl)) (by decide) own_pd_pLjava_lang_StringeqLcom_example_sinete_sinete_pki_Verdicte rfl (own_invalid l Z a0 hw r tr cr rs h n0 w.old R) rfl (by decide) (W := 0) (Nat.le_of_eq rfl) (by decide) (by decide) (by decide) (fun _ q => nomatch q) (pc' := 92) rfl ?_
  intro v161 T161 h161 vm161 w161 hS161 hC161 K161 q161
  obtain ⟨v, rfl, zv, Ev, Fr, Fs⟩ := q161
  show Goes p e below _ T161 (mkF m 92 #[.val (.int y0), .val (.int y1), .val (.int y2), .val (.int y3), .val (.int ka), .val (.int kb), .val (.int kc), .val (.int z7), .val (.ref r), .unset, .unset, .unset, .unset] [(.ref v)])
  have lt_r_v : r < v := Nat.lt_of_lt_of_le R.lt zv
  have lt_tr_v : tr < v := Nat.lt_of_lt_of_le R.ltT zv
  have R_162 := R.keep K161 nin0 nin0
  have C163 := C0.trans hC161
  refine i_astore w161 at_92 rfl (l' := #[.val (.int y0), .val (.int y1), .val (.int y2), .val (.int y3), .val (.int ka), .val (.int kb), .val (.int kc), .val (.int z7), .val (.ref r), .val (.ref v), .unset, .unset, .unset]) rfl (pc' := 94) rfl ?_
  refine i_aload w161 at_94 rfl rfl (pc' := 96) rfl ?_
  refine i_ifnonnull_Y w161 at_96 (pc' := 101) (by decide) ?_
  refine i_aload w161 at_101 rfl rfl (pc' := 103) rfl ?_
  refine c_virtual w161 (y := (⟨"com/example/sinete/sinete/pki/Verdict", "isValid", "()Z"⟩ : MethodName)) (C := "com/example/sinete/sinete/pki/Verdict") (a := v) (argsL := []) (st := []) at_103 (hw _ (List.mem_of_getElem? (i := 32) rfl)) (hw _ (List.mem_of_getElem? (i := 33) rfl)) (hw _ (List.mem_of_getElem? (i := 35) rfl)) (hw _ (List.mem_of_getElem? (i := 34) rfl)) (hw _ (List.mem_of_getElem? (i := 36) rfl)) (hw _ (List.mem_of_getElem? (i := 11) rfl)) (by decide) own_pd_pqZ rfl Ev (own_isValid l Z a0 hw v r h161 n0 w161.old Fr) rfl (by decide) (W := 0) (Nat.le_of_eq rfl) (by decide) (by decide) (by decide) (fun _ q => nomatch q) (pc' := 106) rfl ?_
  intro v164 T164 h164 w164 K164 q164
  obtain ⟨rfl, rfl⟩ := q164
  show Goes p e below _ T164 (mkF m 106 #[.val (.int y0), .val (.int y1), .val (.int y2), .val (.int y3), .val (.int ka), .val (.int kb), .val (.int kc), .val (.int z7), .val (.ref r), .val (.ref v), .unset, .unset, .unset] [(.int (0 : Int32))])
  refine i_if_eq_Y w164 rfl at_106 (pc' := 111) (by decide) ?_
  refine i_aload w164 at_111 rfl rfl (pc' := 113) rfl ?_
  refine c_virtual w164 (y := (⟨"com/example/sinete/sinete/pki/Verdict", "reason", "()Ljava/lang/String;"⟩ : MethodName)) (C := "com/example/sinete/sinete/pki/Verdict") (a := v) (argsL := []) (st := []) at_113 (hw _ (List.mem_of_getElem? (i := 37) rfl)) (hw _ (List.mem_of_getElem? (i := 38) rfl)) (hw _ (List.mem_of_getElem? (i := 40) rfl)) (hw _ (List.mem_of_getElem? (i := 39) rfl)) (hw _ (List.mem_of_getElem? (i := 41) rfl)) (hw _ (List.mem_of_getElem? (i := 11) rfl)) (by decide) own_pd_pqLjava_lang_Stringe rfl Ev (own_reason l Z a0 hw v r h161 n0 w164.old Fr) rfl (by decide) (W := 0) (Nat.le_of_eq rfl) (by decide) (by decide) (by decide) (fun _ q => nomatch q) (pc' := 116) rfl ?_
  intro v165 T165 h165 w165 K165 q165
  obtain ⟨rfl, rfl⟩ := q165
  show Goes p e below _ T165 (mkF m 116 #[.val (.int y0), .val (.int y1), .val (.int y2), .val (.int y3), .val (.int ka), .val (.int kb), .val (.int kc), .val (.int z7), .val (.ref r), .val (.ref v), .unset, .unset, .unset] [(.ref r)])
  refine i_astore w165 at_116 rfl (l' := #[.val (.int y0), .val (.int y1), .val (.int y2), .val (.int y3), .val (.int ka), .val (.int kb), .val (.int kc), .val (.int z7), .val (.ref r), .val (.ref v), .val (.ref r), .unset, .unset]) rfl (pc' := 118) rfl ?_
  refine i_aload w165 at_118 rfl rfl (pc' := 120) rfl ?_
  refine i_ifnull_N w165 at_120 (pc' := 123) rfl ?_
  refine i_aload w165 at_123 rfl rfl (pc' := 125) rfl ?_
  refine i_aload w165 at_125 rfl rfl (pc' := 127) rfl ?_
  refine c_virtual w165 (y := (⟨"java/lang/String", "equals", "(Ljava/lang/Object;)Z"⟩ : MethodName)) (C := "java/lang/String") (a := r) (argsL := [(.ref r)]) (st := []) at_127 (hw _ (List.mem_of_getElem? (i := 42) rfl)) (hw _ (List.mem_of_getElem? (i := 43) rfl)) (hw _ (List.mem_of_getElem? (i := 45) rfl)) (hw _ (List.mem_of_getElem? (i := 44) rfl)) (hw _ (List.mem_of_getElem? (i := 46) rfl)) (hw _ (List.mem_of_getElem? (i := 2) rfl)) (by decide) own_pd_pLjava_lang_ObjecteqZ rfl R_162.1 (own_equalsSame l Z a0 hw r h161 n0 w165.old ) rfl (by decide) (W := 0) (Nat.le_of_eq rfl) (by decide) (by decide) (by decide) (fun _ q => nomatch q) (pc' := 130) rfl ?_
  intro v166 T166 h166 w166 K166 q166
  obtain ⟨rfl, rfl⟩ := q166
  show Goes p e below _ T166 (mkF m 130 #[.val (.int y0), .val (.int y1), .val (.int y2), .val (.int y3), .val (.int ka), .val (.int kb), .val (.int kc), .val (.int z7), .val (.ref r), .val (.ref v), .val (.ref r), .unset, .unset] [(.int (1 : Int32))])
  refine i_if_ne_Y w166 (by decide) at_130 (pc' := 135) (by decide) ?_
  refine i_aload w166 at_135 rfl rfl (pc' := 137) rfl ?_
  refine c_virtual w166 (y := (⟨"com/example/sinete/sinete/pki/Verdict", "signatureChecks", "()I"⟩ : MethodName)) (C := "com/example/sinete/sinete/pki/Verdict") (a := v) (argsL := []) (st := []) at_137 (hw _ (List.mem_of_getElem? (i := 47) rfl)) (hw _ (List.mem_of_getElem? (i := 48) rfl)) (hw _ (List.mem_of_getElem? (i := 50) rfl)) (hw _ (List.mem_of_getElem? (i := 49) rfl)) (hw _ (List.mem_of_getElem? (i := 51) rfl)) (hw _ (List.mem_of_getElem? (i := 11) rfl)) (by decide) own_pd_pqI rfl Ev (own_sigc l Z a0 hw v h161 n0 w166.old Fs) rfl (by decide) (W := 0) (Nat.le_of_eq rfl) (by decide) (by decide) (by decide) (fun _ q => nomatch q) (pc' := 140) rfl ?_
  intro v167 T167 h167 w167 K167 q167
  obtain ⟨rfl, rfl⟩ := q167
  show Goes p e below _ T167 (mkF m 140 #[.val (.int y0), .val (.int y1), .val (.int y2), .val (.int y3), .val (.int ka), .val (.int kb), .val (.int kc), .val (.int z7), .val (.ref r), .val (.ref v), .val (.ref r), .unset, .unset] [(.int (0 : Int32))])
  refine i_if_eq_Y w167 rfl at_140 (pc' := 145) (by decide) ?_
  refine i_aload w167 at_145 rfl rfl (pc' := 147) rfl ?_
  refine c_virtualH (own_EW hw) w167 hS161 (Nat.le_trans (Nat.le_trans (Nat.le_trans (Nat.le_trans (Nat.le_refl _) K164.1) K165.1) K166.1) K167.1) C163.1 (y := (⟨"com/example/sinete/sinete/pki/Verdict", "toString", "()Ljava/lang/String;"⟩ : MethodName)) (C0 := "com/example/sinete/sinete/pki/Verdict") (a := v) (argsL := []) (st := []) at_147 (hw _ (List.mem_of_getElem? (i := 52) rfl)) (hw _ (List.mem_of_getElem? (i := 53) rfl)) (hw _ (List.mem_of_getElem? (i := 55) rfl)) (hw _ (List.mem_of_getElem? (i := 54) rfl)) (hw _ (List.mem_of_getElem? (i := 56) rfl)) (hw _ (List.mem_of_getElem? (i := 11) rfl)) (by decide) own_pd_pqLjava_lang_Stringe rfl Ev (own_vToS l Z a0 hw v r tr cr rs G1 hG SG h161 n0 w167.old Ev Fr R_162 hrs) rfl (by decide) (W := 0) (Nat.le_of_eq rfl) (by decide) (by decide) (by decide) (fun _ q => nomatch q) (pc' := 150) rfl ?_
  intro v168 T168 h168 vm168 w168 hS168 hC168 K168 q168
  obtain ⟨x, tx, cx, rfl, zx, X⟩ := q168
  show Goes p e below _ T168 (mkF m 150 #[.val (.int y0), .val (.int y1), .val (.int y2), .val (.int y3), .val (.int ka), .val (.int kb), .val (.int kc), .val (.int z7), .val (.ref r), .val (.ref v), .val (.ref r), .unset, .unset] [(.ref x)])
  have lt_r_x : r < x := Nat.lt_of_lt_of_le R_162.lt zx
  have lt_tr_x : tr < x := Nat.lt_of_lt_of_le R_162.ltT zx
  have lt_v_x : v < x := Nat.lt_of_lt_of_le Ev.lt zx
  have R_169 := R_162.keep K168 nin0 nin0
  have Ev_169 := Ev.keep K168
  have Fr_169 := Fr.keep K168 nin0
  have Fs_169 := Fs.keep K168 nin0
  have C170 := C163.trans hC168
  refine i_astore w168 at_150 rfl (l' := #[.val (.int y0), .val (.int y1), .val (.int y2), .val (.int y3), .val (.int ka), .val (.int kb), .val (.int kc), .val (.int z7), .val (.ref r), .val (.ref v), .val (.ref r), .val (.ref x), .unset]) rfl (pc' := 152) rfl ?_
  refine i_aload w168 at_152 rfl rfl (pc' := 154) rfl ?_
  refine i_ifnull_N w168 at_154 (pc' := 157) rfl ?_
  refine i_aload w168 at_157 rfl rfl (pc' := 159) rfl ?_
  refine c_virtual w168 (y := (⟨"java/lang/String", "length", "()I"⟩ : MethodName)) (C := "java/lang/String") (a := x) (argsL := []) (st := []) at_159 (hw _ (List.mem_of_getElem? (i := 173) rfl)) (hw _ (List.mem_of_getElem? (i := 88) rfl)) (hw _ (List.mem_of_getElem? (i := 90) rfl)) (hw _ (List.mem_of_getElem? (i := 89) rfl)) (hw _ (List.mem_of_getElem? (i := 91) rfl)) (hw _ (List.mem_of_getElem? (i := 2) rfl)) (by decide) own_pd_pqI rfl X.1 (own_length l Z a0 hw x tx cx ([73, 78, 86, 65, 76, 73, 68, 58, 32] ++ rs) G1 hG SG h168 n0 w168.old (Or.inl X)) rfl (by decide) (W := 0) (Nat.le_of_eq rfl) (by decide) (by decide) (by decide) (fun _ q => nomatch q) (pc' := 162) rfl ?_
  intro v171 T171 h171 w171 K171 q171
  obtain ⟨rfl, rfl⟩ := q171
  show Goes p e below _ T171 (mkF m 162 #[.val (.int y0), .val (.int y1), .val (.int y2), .val (.int y3), .val (.int ka), .val (.int kb), .val (.int kc), .val (.int z7), .val (.ref r), .val (.ref v), .val (.ref r), .val (.ref x), .unset] [(.int (Int32.ofNat ([73, 78, 86, 65, 76, 73, 68, 58, 32] ++ rs).length))])
  rw [own_lenP]
  show Goes p e below _ T171 (mkF m 162 #[.val (.int y0), .val (.int y1), .val (.int y2), .val (.int y3), .val (.int ka), .val (.int kb), .val (.int kc), .val (.int z7), .val (.ref r), .val (.ref v), .val (.ref r), .val (.ref x), .unset] [(.int (Int32.ofNat (9 + rs.length)))])
  refine i_bipush w171 at_162 (z := (9 : Int32)) (by decide) (pc' := 164) rfl ?_
  refine i_aload w171 at_164 rfl rfl (pc' := 166) rfl ?_
  refine c_virtual w171 (y := (⟨"java/lang/String", "length", "()I"⟩ : MethodName)) (C := "java/lang/String") (a := r) (argsL := []) (st := [(.int (9 : Int32)), (.int (Int32.ofNat (9 + rs.length)))]) at_166 (hw _ (List.mem_of_getElem? (i := 173) rfl)) (hw _ (List.mem_of_getElem? (i := 88) rfl)) (hw _ (List.mem_of_getElem? (i := 90) rfl)) (hw _ (List.mem_of_getElem? (i := 89) rfl)) (hw _ (List.mem_of_getElem? (i := 91) rfl)) (hw _ (List.mem_of_getElem? (i := 2) rfl)) (by decide) own_pd_pqI rfl R_169.1 (own_length l Z a0 hw r tr cr rs G1 hG SG h168 n0 w171.old (Or.inl R_169)) rfl (by decide) (W := 2) (Nat.le_of_eq rfl) (by decide) (by decide) (by decide) (fun _ q => nomatch q) (pc' := 169) rfl ?_
  intro v172 T172 h172 w172 K172 q172
  obtain ⟨rfl, rfl⟩ := q172
  show Goes p e below _ T172 (mkF m 169 #[.val (.int y0), .val (.int y1), .val (.int y2), .val (.int y3), .val (.int ka), .val (.int kb), .val (.int kc), .val (.int z7), .val (.ref r), .val (.ref v), .val (.ref r), .val (.ref x), .unset] [(.int (Int32.ofNat rs.length)), (.int (9 : Int32)), (.int (Int32.ofNat (9 + rs.length)))])
  refine i_iadd w172 at_169 (pc' := 170) rfl ?_
  refine i_icmp_eq_Y w172 (by rw [show (9 : Int32) = Int32.ofNat 9 from rfl, add_nat]) at_170 (pc' := 175) (by decide) ?_
  refine i_new w172 at_175 (hw _ (List.mem_of_getElem? (i := 174) rfl)) (hw _ (List.mem_of_getElem? (i := 3) rfl)) (hw _ (List.mem_of_getElem? (i := 2) rfl)) (by decide) (by decide) (pc' := 178) rfl ?_
  intro q T173 h173 g_q w173 z_q E173 A_q D_q
  show Goes p e below _ T173 (mkF m 178 #[.val (.int y0), .val (.int y1), .val (.int y2), .val (.int y3), .val (.int ka), .val (.int kb), .val (.int kc), .val (.int z7), .val (.ref r), .val (.ref v), .val (.ref r), .val (.ref x), .unset] [(.ref q)])
  have lt_r_q : r < q := Nat.lt_of_lt_of_le R_169.lt (Nat.le_of_eq g_q.symm)
  have lt_tr_q : tr < q := Nat.lt_of_lt_of_le R_169.ltT (Nat.le_of_eq g_q.symm)
  have lt_v_q : v < q := Nat.lt_of_lt_of_le Ev_169.lt (Nat.le_of_eq g_q.symm)
  have lt_x_q : x < q := Nat.lt_of_lt_of_le X.lt (Nat.le_of_eq g_q.symm)
  have lt_tx_q : tx < q := Nat.lt_of_lt_of_le X.ltT (Nat.le_of_eq g_q.symm)
  have R_174 := R_169.ext E173
  have Ev_174 := Ev_169.ext E173
  have Fr_174 := Fr_169.ext E173
  have Fs_174 := Fs_169.ext E173
  have X_174 := X.ext E173
  have C175 := C170.trans (CHr.ext E173 C170.1)
  have Fv_q : Fld Z h173 q ST "value" "[B" .null := D_q (Or.inr (hw _ (List.mem_of_getElem? (i := 5) rfl))) (ty := .array .byte) (by decide)
  have Fc_q : Fld Z h173 q ST "coder" "B" (.int 0) := D_q (Or.inr (hw _ (List.mem_of_getElem? (i := 6) rfl))) (ty := .byte) (by decide)
  have Sf_q := Safe.ext E173 C170.1 (Safe.new (x := q) (Nat.le_of_eq g_q.symm))
  refine i_dup w173 at_178 rfl (pc' := 179) rfl ?_
  refine i_bipush w173 at_179 (z := (9 : Int32)) (by decide) (pc' := 181) rfl ?_
  refine i_newP w173 at_181 (hw _ (List.mem_of_getElem? (i := 175) rfl)) (N := 9) rfl (by decide) (cap := 9) (by decide) (by decide) (by decide) (by decide) (pc' := 183) rfl ?_
  intro b T176 h176 ca_b g_b w176 z_b E176 A_b
  show Goes p e below _ T176 (mkF m 183 #[.val (.int y0), .val (.int y1), .val (.int y2), .val (.int y3), .val (.int ka), .val (.int kb), .val (.int kc), .val (.int z7), .val (.ref r), .val (.ref v), .val (.ref r), .val (.ref x), .unset] [(.ref b), (.ref q), (.ref q)])
  have lt_r_b : r < b := Nat.lt_of_lt_of_le R_174.lt (Nat.le_of_eq g_b.symm)
  have lt_tr_b : tr < b := Nat.lt_of_lt_of_le R_174.ltT (Nat.le_of_eq g_b.symm)
  have lt_v_b : v < b := Nat.lt_of_lt_of_le Ev_174.lt (Nat.le_of_eq g_b.symm)
  have lt_x_b : x < b := Nat.lt_of_lt_of_le X_174.lt (Nat.le_of_eq g_b.symm)
  have lt_tx_b : tx < b := Nat.lt_of_lt_of_le X_174.ltT (Nat.le_of_eq g_b.symm)
  have lt_q_b : q < b := Nat.lt_of_lt_of_le A_q.lt (Nat.le_of_eq g_b.symm)
  have R_177 := R_174.ext E176
  have Ev_177 := Ev_174.ext E176
  have Fr_177 := Fr_174.ext E176
  have Fs_177 := Fs_174.ext E176
  have X_177 := X_174.ext E176
  have E_q_177 := A_q.ext E176
  have Fv_q_177 := Fv_q.ext E176
  have Fc_q_177 := Fc_q.ext E176
  have Sf_q_177 := Safe.ext E176 C175.1 Sf_q
  have C178 := C175.trans (CHr.ext E176 C175.1)
  refine i_dup w176 at_183 rfl (pc' := 184) rfl ?_
  refine i_iconst w176 at_184 (z := (0 : Int32)) (by decide) (pc' := 185) rfl ?_
  refine i_aload w176 at_185 rfl rfl (pc' := 187) rfl ?_
  refine i_iconst w176 at_187 (z := (0 : Int32)) (by decide) (pc' := 188) rfl ?_
  refine c_virtual w176 (y := (⟨"java/lang/String", "charAt", "(I)C"⟩ : MethodName)) (C := "java/lang/String") (a := x) (argsL := [(.int (0 : Int32))]) (st := [(.int (0 : Int32)), (.ref b), (.ref b), (.ref q), (.ref q)]) at_188 (hw _ (List.mem_of_getElem? (i := 176) rfl)) (hw _ (List.mem_of_getElem? (i := 177) rfl)) (hw _ (List.mem_of_getElem? (i := 179) rfl)) (hw _ (List.mem_of_getElem? (i := 178) rfl)) (hw _ (List.mem_of_getElem? (i := 180) rfl)) (hw _ (List.mem_of_getElem? (i := 2) rfl)) (by decide) own_pd_pIqC rfl X_177.1 (own_charAt l Z a0 hw x tx cx ([73, 78, 86, 65, 76, 73, 68, 58, 32] ++ rs) 0 73 G1 hG SG G3 hG3 SF h176 n0 w176.old X_177 rfl) rfl (by decide) (W := 5) (Nat.le_of_eq rfl) (by decide) (by decide) (by decide) (fun _ q => nomatch q) (pc' := 191) rfl ?_
  intro v179 T179 h179 w179 K179 q179
  obtain ⟨rfl, rfl⟩ := q179
  show Goes p e below _ T179 (mkF m 191 #[.val (.int y0), .val (.int y1), .val (.int y2), .val (.int y3), .val (.int ka), .val (.int kb), .val (.int kc), .val (.int z7), .val (.ref r), .val (.ref v), .val (.ref r), .val (.ref x), .unset] [(.int (Int32.ofNat 73)), (.int (0 : Int32)), (.ref b), (.ref b), (.ref q), (.ref q)])
  refine i_castore w179 at_191 A_b (i := 0) rfl (Nat.le_of_ble_eq_true rfl) (Or.inr z_b) (pc' := 192) rfl ?_
  intro T180 h180 w180 K180 A_b_0
  show Goes p e below _ T180 (mkF m 192 #[.val (.int y0), .val (.int y1), .val (.int y2), .val (.int y3), .val (.int ka), .val (.int kb), .val (.int kc), .val (.int z7), .val (.ref r), .val (.ref v), .val (.ref r), .val (.ref x), .unset] [(.ref b), (.ref q), (.ref q)])
  have R_181 := R_177.keep K180 (ninS (Nat.ne_of_lt lt_r_b) nin0) (ninS (Nat.ne_of_lt lt_tr_b) nin0)
  have Ev_181 := Ev_177.keep K180
  have Fr_181 := Fr_177.keep K180 (ninS (Nat.ne_of_lt lt_v_b) nin0)
  have Fs_181 := Fs_177.keep K180 (ninS (Nat.ne_of_lt lt_v_b) nin0)
  have X_181 := X_177.keep K180 (ninS (Nat.ne_of_lt lt_x_b) nin0) (ninS (Nat.ne_of_lt lt_tx_b) nin0)
  have E_q_181 := E_q_177.keep K180
  have Fv_q_181 := Fv_q_177.keep K180 (ninS (Nat.ne_of_lt lt_q_b) nin0)
  have Fc_q_181 := Fc_q_177.keep K180 (ninS (Nat.ne_of_lt lt_q_b) nin0)
  have Sf_q_181 := Safe.keep K180 (sfS (Safe.arv w179.hZ.alike A_b.2 (by decide)) sf0) C178.1 Sf_q_177
  have C182 := C178.trans (CHr.keep K180 (sfS (Safe.arv w180.hZ.alike A_b.2 (by decide)) sf0) C178.1)
  rw [char_of_nat (show 73 < 65536 by omega)] at A_b_0
  refine i_dup w180 at_192 rfl (pc' := 193) rfl ?_
  refine i_iconst w180 at_193 (z := (1 : Int32)) (by decide) (pc' := 194) rfl ?_
  refine i_aload w180 at_194 rfl rfl (pc' := 196) rfl ?_
  refine i_iconst w180 at_196 (z := (1 : Int32)) (by decide) (pc' := 197) rfl ?_
  refine c_virtual w180 (y := (⟨"java/lang/String", "charAt", "(I)C"⟩ : MethodName)) (C := "java/lang/String") (a := x) (argsL := [(.int (1 : Int32))]) (st := [(.int (1 : Int32)), (.ref b), (.ref b), (.ref q), (.ref q)]) at_197 (hw _ (List.mem_of_getElem? (i := 176) rfl)) (hw _ (List.mem_of_getElem? (i := 177) rfl)) (hw _ (List.mem_of_getElem? (i := 179) rfl)) (hw _ (List.mem_of_getElem? (i := 178) rfl)) (hw _ (List.mem_of_getElem? (i := 180) rfl)) (hw _ (List.mem_of_getElem? (i := 2) rfl)) (by decide) own_pd_pIqC rfl X_181.1 (own_charAt l Z a0 hw x tx cx ([73, 78, 86, 65, 76, 73, 68, 58, 32] ++ rs) 1 78 G1 hG SG G3 hG3 SF h180 n0 w180.old X_181 rfl) rfl (by decide) (W := 5) (Nat.le_of_eq rfl) (by decide) (by decide) (by decide) (fun _ q => nomatch q) (pc' := 200) rfl ?_
  intro v183 T183 h183 w183 K183 q183
  obtain ⟨rfl, rfl⟩ := q183
  show Goes p e below _ T183 (mkF m 200 #[.val (.int y0), .val (.int y1), .val (.int y2), .val (.int y3), .val (.int ka), .val (.int kb), .val (.int kc), .val (.int z7), .val (.ref r), .val (.ref v), .val (.ref r), .val (.ref x), .unset] [(.int (Int32.ofNat 78)), (.int (1 : Int32)), (.ref b), (.ref b), (.ref q), (.ref q)])
  refine i_castore w183 at_200 A_b_0 (i := 1) rfl (Nat.le_of_ble_eq_true rfl) (Or.inr z_b) (pc' := 201) rfl ?_
  intro T184 h184 w184 K184 A_b_1
  show Goes p e below _ T184 (mkF m 201 #[.val (.int y0), .val (.int y1), .val (.int y2), .val (.int y3), .val (.int ka), .val (.int kb), .val (.int kc), .val (.int z7), .val (.ref r), .val (.ref v), .val (.ref r), .val (.ref x), .unset] [(.ref b), (.ref q), (.ref q)])
  have R_185 := R_181.keep K184 (ninS (Nat.ne_of_lt lt_r_b) nin0) (ninS (Nat.ne_of_lt lt_tr_b) nin0)
  have Ev_185 := Ev_181.keep K184
  have Fr_185 := Fr_181.keep K184 (ninS (Nat.ne_of_lt lt_v_b) nin0)
  have Fs_185 := Fs_181.keep K184 (ninS (Nat.ne_of_lt lt_v_b) nin0)
  have X_185 := X_181.keep K184 (ninS (Nat.ne_of_lt lt_x_b) nin0) (ninS (Nat.ne_of_lt lt_tx_b) nin0)
  have E_q_185 := E_q_181.keep K184
  have Fv_q_185 := Fv_q_181.keep K184 (ninS (Nat.ne_of_lt lt_q_b) nin0)
  have Fc_q_185 := Fc_q_181.keep K184 (ninS (Nat.ne_of_lt lt_q_b) nin0)
  have Sf_q_185 := Safe.keep K184 (sfS (Safe.arv w183.hZ.alike A_b_0.2 (by decide)) sf0) C182.1 Sf_q_181
  have C186 := C182.trans (CHr.keep K184 (sfS (Safe.arv w184.hZ.alike A_b_0.2 (by decide)) sf0) C182.1)
  rw [char_of_nat (show 78 < 65536 by omega)] at A_b_1
  refine i_dup w184 at_201 rfl (pc' := 202) rfl ?_
  refine i_iconst w184 at_202 (z := (2 : Int32)) (by decide) (pc' := 203) rfl ?_
  refine i_aload w184 at_203 rfl rfl (pc' := 205) rfl ?_
  refine i_iconst w184 at_205 (z := (2 : Int32)) (by decide) (pc' := 206) rfl ?_
  refine c_virtual w184 (y := (⟨"java/lang/String", "charAt", "(I)C"⟩ : MethodName)) (C := "java/lang/String") (a := x) (argsL := [(.int (2 : Int32))]) (st := [(.int (2 : Int32)), (.ref b), (.ref b), (.ref q), (.ref q)]) at_206 (hw _ (List.mem_of_getElem? (i := 176) rfl)) (hw _ (List.mem_of_getElem? (i := 177) rfl)) (hw _ (List.mem_of_getElem? (i := 179) rfl)) (hw _ (List.mem_of_getElem? (i := 178) rfl)) (hw _ (List.mem_of_getElem? (i := 180) rfl)) (hw _ (List.mem_of_getElem? (i := 2) rfl)) (by decide) own_pd_pIqC rfl X_185.1 (own_charAt l Z a0 hw x tx cx ([73, 78, 86, 65, 76, 73, 68, 58, 32] ++ rs) 2 86 G1 hG SG G3 hG3 SF h184 n0 w184.old X_185 rfl) rfl (by decide) (W := 5) (Nat.le_of_eq rfl) (by decide) (by decide) (by decide) (fun _ q => nomatch q) (pc' := 209) rfl ?_
  intro v187 T187 h187 w187 K187 q187
  obtain ⟨rfl, rfl⟩ := q187
  show Goes p e below _ T187 (mkF m 209 #[.val (.int y0), .val (.int y1), .val (.int y2), .val (.int y3), .val (.int ka), .val (.int kb), .val (.int kc), .val (.int z7), .val (.ref r), .val (.ref v), .val (.ref r), .val (.ref x), .unset] [(.int (Int32.ofNat 86)), (.int (2 : Int32)), (.ref b), (.ref b), (.ref q), (.ref q)])
  refine i_castore w187 at_209 A_b_1 (i := 2) rfl (Nat.le_of_ble_eq_true rfl) (Or.inr z_b) (pc' := 210) rfl ?_
  intro T188 h188 w188 K188 A_b_2
  show Goes p e below _ T188 (mkF m 210 #[.val (.int y0), .val (.int y1), .val (.int y2), .val (.int y3), .val (.int ka), .val (.int kb), .val (.int kc), .val (.int z7), .val (.ref r), .val (.ref v), .val (.ref r), .val (.ref x), .unset] [(.ref b), (.ref q), (.ref q)])
  have R_189 := R_185.keep K188 (ninS (Nat.ne_of_lt lt_r_b) nin0) (ninS (Nat.ne_of_lt lt_tr_b) nin0)
  have Ev_189 := Ev_185.keep K188
  have Fr_189 := Fr_185.keep K188 (ninS (Nat.ne_of_lt lt_v_b) nin0)
  have Fs_189 := Fs_185.keep K188 (ninS (Nat.ne_of_lt lt_v_b) nin0)
  have X_189 := X_185.keep K188 (ninS (Nat.ne_of_lt lt_x_b) nin0) (ninS (Nat.ne_of_lt lt_tx_b) nin0)
  have E_q_189 := E_q_185.keep K188
  have Fv_q_189 := Fv_q_185.keep K188 (ninS (Nat.ne_of_lt lt_q_b) nin0)
  have Fc_q_189 := Fc_q_185.keep K188 (ninS (Nat.ne_of_lt lt_q_b) nin0)
  have Sf_q_189 := Safe.keep K188 (sfS (Safe.arv w187.hZ.alike A_b_1.2 (by decide)) sf0) C186.1 Sf_q_185
  have C190 := C186.trans (CHr.keep K188 (sfS (Safe.arv w188.hZ.alike A_b_1.2 (by decide)) sf0) C186.1)
  rw [char_of_nat (show 86 < 65536 by omega)] at A_b_2
  refine i_dup w188 at_210 rfl (pc' := 211) rfl ?_
  refine i_iconst w188 at_211 (z := (3 : Int32)) (by decide) (pc' := 212) rfl ?_
  refine i_aload w188 at_212 rfl rfl (pc' := 214) rfl ?_
  refine i_iconst w188 at_214 (z := (3 : Int32)) (by decide) (pc' := 215) rfl ?_
  refine c_virtual w188 (y := (⟨"java/lang/String", "charAt", "(I)C"⟩ : MethodName)) (C := "java/lang/String") (a := x) (argsL := [(.int (3 : Int32))]) (st := [(.int (3 : Int32)), (.ref b), (.ref b), (.ref q), (.ref q)]) at_215 (hw _ (List.mem_of_getElem? (i := 176) rfl)) (hw _ (List.mem_of_getElem? (i := 177) rfl)) (hw _ (List.mem_of_getElem? (i := 179) rfl)) (hw _ (List.mem_of_getElem? (i := 178) rfl)) (hw _ (List.mem_of_getElem? (i := 180) rfl)) (hw _ (List.mem_of_getElem? (i := 2) rfl)) (by decide) own_pd_pIqC rfl X_189.1 (own_charAt l Z a0 hw x tx cx ([73, 78, 86, 65, 76, 73, 68, 58, 32] ++ rs) 3 65 G1 hG SG G3 hG3 SF h188 n0 w188.old X_189 rfl) rfl (by decide) (W := 5) (Nat.le_of_eq rfl) (by decide) (by decide) (by decide) (fun _ q => nomatch q) (pc' := 218) rfl ?_
  intro v191 T191 h191 w191 K191 q191
  obtain ⟨rfl, rfl⟩ := q191
  show Goes p e below _ T191 (mkF m 218 #[.val (.int y0), .val (.int y1), .val (.int y2), .val (.int y3), .val (.int ka), .val (.int kb), .val (.int kc), .val (.int z7), .val (.ref r), .val (.ref v), .val (.ref r), .val (.ref x), .unset] [(.int (Int32.ofNat 65)), (.int (3 : Int32)), (.ref b), (.ref b), (.ref q), (.ref q)])
  refine i_castore w191 at_218 A_b_2 (i := 3) rfl (Nat.le_of_ble_eq_true rfl) (Or.inr z_b) (pc' := 219) rfl ?_
  intro T192 h192 w192 K192 A_b_3
  show Goes p e below _ T192 (mkF m 219 #[.val (.int y0), .val (.int y1), .val (.int y2), .val (.int y3), .val (.int ka), .val (.int kb), .val (.int kc), .val (.int z7), .val (.ref r), .val (.ref v), .val (.ref r), .val (.ref x), .unset] [(.ref b), (.ref q), (.ref q)])
  have R_193 := R_189.keep K192 (ninS (Nat.ne_of_lt lt_r_b) nin0) (ninS (Nat.ne_of_lt lt_tr_b) nin0)
  have Ev_193 := Ev_189.keep K192
  have Fr_193 := Fr_189.keep K192 (ninS (Nat.ne_of_lt lt_v_b) nin0)
  have Fs_193 := Fs_189.keep K192 (ninS (Nat.ne_of_lt lt_v_b) nin0)
  have X_193 := X_189.keep K192 (ninS (Nat.ne_of_lt lt_x_b) nin0) (ninS (Nat.ne_of_lt lt_tx_b) nin0)
  have E_q_193 := E_q_189.keep K192
  have Fv_q_193 := Fv_q_189.keep K192 (ninS (Nat.ne_of_lt lt_q_b) nin0)
  have Fc_q_193 := Fc_q_189.keep K192 (ninS (Nat.ne_of_lt lt_q_b) nin0)
  have Sf_q_193 := Safe.keep K192 (sfS (Safe.arv w191.hZ.alike A_b_2.2 (by decide)) sf0) C190.1 Sf_q_189
  have C194 := C190.trans (CHr.keep K192 (sfS (Safe.arv w192.hZ.alike A_b_2.2 (by decide)) sf0) C190.1)
  rw [char_of_nat (show 65 < 65536 by omega)] at A_b_3
  refine i_dup w192 at_219 rfl (pc' := 220) rfl ?_
  refine i_iconst w192 at_220 (z := (4 : Int32)) (by decide) (pc' := 221) rfl ?_
  refine i_aload w192 at_221 rfl rfl (pc' := 223) rfl ?_
  refine i_iconst w192 at_223 (z := (4 : Int32)) (by decide) (pc' := 224) rfl ?_
  refine c_virtual w192 (y := (⟨"java/lang/String", "charAt", "(I)C"⟩ : MethodName)) (C := "java/lang/String") (a := x) (argsL := [(.int (4 : Int32))]) (st := [(.int (4 : Int32)), (.ref b), (.ref b), (.ref q), (.ref q)]) at_224 (hw _ (List.mem_of_getElem? (i := 176) rfl)) (hw _ (List.mem_of_getElem? (i := 177) rfl)) (hw _ (List.mem_of_getElem? (i := 179) rfl)) (hw _ (List.mem_of_getElem? (i := 178) rfl)) (hw _ (List.mem_of_getElem? (i := 180) rfl)) (hw _ (List.mem_of_getElem? (i := 2) rfl)) (by decide) own_pd_pIqC rfl X_193.1 (own_charAt l Z a0 hw x tx cx ([73, 78, 86, 65, 76, 73, 68, 58, 32] ++ rs) 4 76 G1 hG SG G3 hG3 SF h192 n0 w192.old X_193 rfl) rfl (by decide) (W := 5) (Nat.le_of_eq rfl) (by decide) (by decide) (by decide) (fun _ q => nomatch q) (pc' := 227) rfl ?_
  intro v195 T195 h195 w195 K195 q195
  obtain ⟨rfl, rfl⟩ := q195
  show Goes p e below _ T195 (mkF m 227 #[.val (.int y0), .val (.int y1), .val (.int y2), .val (.int y3), .val (.int ka), .val (.int kb), .val (.int kc), .val (.int z7), .val (.ref r), .val (.ref v), .val (.ref r), .val (.ref x), .unset] [(.int (Int32.ofNat 76)), (.int (4 : Int32)), (.ref b), (.ref b), (.ref q), (.ref q)])
  refine i_castore w195 at_227 A_b_3 (i := 4) rfl (Nat.le_of_ble_eq_true rfl) (Or.inr z_b) (pc' := 228) rfl ?_
  intro T196 h196 w196 K196 A_b_4
  show Goes p e below _ T196 (mkF m 228 #[.val (.int y0), .val (.int y1), .val (.int y2), .val (.int y3), .val (.int ka), .val (.int kb), .val (.int kc), .val (.int z7), .val (.ref r), .val (.ref v), .val (.ref r), .val (.ref x), .unset] [(.ref b), (.ref q), (.ref q)])
  have R_197 := R_193.keep K196 (ninS (Nat.ne_of_lt lt_r_b) nin0) (ninS (Nat.ne_of_lt lt_tr_b) nin0)
  have Ev_197 := Ev_193.keep K196
  have Fr_197 := Fr_193.keep K196 (ninS (Nat.ne_of_lt lt_v_b) nin0)
  have Fs_197 := Fs_193.keep K196 (ninS (Nat.ne_of_lt lt_v_b) nin0)
  have X_197 := X_193.keep K196 (ninS (Nat.ne_of_lt lt_x_b) nin0) (ninS (Nat.ne_of_lt lt_tx_b) nin0)
  have E_q_197 := E_q_193.keep K196
  have Fv_q_197 := Fv_q_193.keep K196 (ninS (Nat.ne_of_lt lt_q_b) nin0)
  have Fc_q_197 := Fc_q_193.keep K196 (ninS (Nat.ne_of_lt lt_q_b) nin0)
  have Sf_q_197 := Safe.keep K196 (sfS (Safe.arv w195.hZ.alike A_b_3.2 (by decide)) sf0) C194.1 Sf_q_193
  have C198 := C194.trans (CHr.keep K196 (sfS (Safe.arv w196.hZ.alike A_b_3.2 (by decide)) sf0) C194.1)
  rw [char_of_nat (show 76 < 65536 by omega)] at A_b_4
  refine i_dup w196 at_228 rfl (pc' := 229) rfl ?_
  refine i_iconst w196 at_229 (z := (5 : Int32)) (by decide) (pc' := 230) rfl ?_
  refine i_aload w196 at_230 rfl rfl (pc' := 232) rfl ?_
  refine i_iconst w196 at_232 (z := (5 : Int32)) (by decide) (pc' := 233) rfl ?_
  refine c_virtual w196 (y := (⟨"java/lang/String", "charAt", "(I)C"⟩ : MethodName)) (C := "java/lang/String") (a := x) (argsL := [(.int (5 : Int32))]) (st := [(.int (5 : Int32)), (.ref b), (.ref b), (.ref q), (.ref q)]) at_233 (hw _ (List.mem_of_getElem? (i := 176) rfl)) (hw _ (List.mem_of_getElem? (i := 177) rfl)) (hw _ (List.mem_of_getElem? (i := 179) rfl)) (hw _ (List.mem_of_getElem? (i := 178) rfl)) (hw _ (List.mem_of_getElem? (i := 180) rfl)) (hw _ (List.mem_of_getElem? (i := 2) rfl)) (by decide) own_pd_pIqC rfl X_197.1 (own_charAt l Z a0 hw x tx cx ([73, 78, 86, 65, 76, 73, 68, 58, 32] ++ rs) 5 73 G1 hG SG G3 hG3 SF h196 n0 w196.old X_197 rfl) rfl (by decide) (W := 5) (Nat.le_of_eq rfl) (by decide) (by decide) (by decide) (fun _ q => nomatch q) (pc' := 236) rfl ?_
  intro v199 T199 h199 w199 K199 q199
  obtain ⟨rfl, rfl⟩ := q199
  show Goes p e below _ T199 (mkF m 236 #[.val (.int y0), .val (.int y1), .val (.int y2), .val (.int y3), .val (.int ka), .val (.int kb), .val (.int kc), .val (.int z7), .val (.ref r), .val (.ref v), .val (.ref r), .val (.ref x), .unset] [(.int (Int32.ofNat 73)), (.int (5 : Int32)), (.ref b), (.ref b), (.ref q), (.ref q)])
  refine i_castore w199 at_236 A_b_4 (i := 5) rfl (Nat.le_of_ble_eq_true rfl) (Or.inr z_b) (pc' := 237) rfl ?_
  intro T200 h200 w200 K200 A_b_5
  show Goes p e below _ T200 (mkF m 237 #[.val (.int y0), .val (.int y1), .val (.int y2), .val (.int y3), .val (.int ka), .val (.int kb), .val (.int kc), .val (.int z7), .val (.ref r), .val (.ref v), .val (.ref r), .val (.ref x), .unset] [(.ref b), (.ref q), (.ref q)])
  have R_201 := R_197.keep K200 (ninS (Nat.ne_of_lt lt_r_b) nin0) (ninS (Nat.ne_of_lt lt_tr_b) nin0)
  have Ev_201 := Ev_197.keep K200
  have Fr_201 := Fr_197.keep K200 (ninS (Nat.ne_of_lt lt_v_b) nin0)
  have Fs_201 := Fs_197.keep K200 (ninS (Nat.ne_of_lt lt_v_b) nin0)
  have X_201 := X_197.keep K200 (ninS (Nat.ne_of_lt lt_x_b) nin0) (ninS (Nat.ne_of_lt lt_tx_b) nin0)
  have E_q_201 := E_q_197.keep K200
  have Fv_q_201 := Fv_q_197.keep K200 (ninS (Nat.ne_of_lt lt_q_b) nin0)
  have Fc_q_201 := Fc_q_197.keep K200 (ninS (Nat.ne_of_lt lt_q_b) nin0)
  have Sf_q_201 := Safe.keep K200 (sfS (Safe.arv w199.hZ.alike A_b_4.2 (by decide)) sf0) C198.1 Sf_q_197
  have C202 := C198.trans (CHr.keep K200 (sfS (Safe.arv w200.hZ.alike A_b_4.2 (by decide)) sf0) C198.1)
  rw [char_of_nat (show 73 < 65536 by omega)] at A_b_5
  refine i_dup w200 at_237 rfl (pc' := 238) rfl ?_
  refine i_bipush w200 at_238 (z := (6 : Int32)) (by decide) (pc' := 240) rfl ?_
  refine i_aload w200 at_240 rfl rfl (pc' := 242) rfl ?_
  refine i_bipush w200 at_242 (z := (6 : Int32)) (by decide) (pc' := 244) rfl ?_
  refine c_virtual w200 (y := (⟨"java/lang/String", "charAt", "(I)C"⟩ : MethodName)) (C := "java/lang/String") (a := x) (argsL := [(.int (6 : Int32))]) (st := [(.int (6 : Int32)), (.ref b), (.ref b), (.ref q), (.ref q)]) at_244 (hw _ (List.mem_of_getElem? (i := 176) rfl)) (hw _ (List.mem_of_getElem? (i := 177) rfl)) (hw _ (List.mem_of_getElem? (i := 179) rfl)) (hw _ (List.mem_of_getElem? (i := 178) rfl)) (hw _ (List.mem_of_getElem? (i := 180) rfl)) (hw _ (List.mem_of_getElem? (i := 2) rfl)) (by decide) own_pd_pIqC rfl X_201.1 (own_charAt l Z a0 hw x tx cx ([73, 78, 86, 65, 76, 73, 68, 58, 32] ++ rs) 6 68 G1 hG SG G3 hG3 SF h200 n0 w200.old X_201 rfl) rfl (by decide) (W := 5) (Nat.le_of_eq rfl) (by decide) (by decide) (by decide) (fun _ q => nomatch q) (pc' := 247) rfl ?_
  intro v203 T203 h203 w203 K203 q203
  obtain ⟨rfl, rfl⟩ := q203
  show Goes p e below _ T203 (mkF m 247 #[.val (.int y0), .val (.int y1), .val (.int y2), .val (.int y3), .val (.int ka), .val (.int kb), .val (.int kc), .val (.int z7), .val (.ref r), .val (.ref v), .val (.ref r), .val (.ref x), .unset] [(.int (Int32.ofNat 68)), (.int (6 : Int32)), (.ref b), (.ref b), (.ref q), (.ref q)])
  refine i_castore w203 at_247 A_b_5 (i := 6) rfl (Nat.le_of_ble_eq_true rfl) (Or.inr z_b) (pc' := 248) rfl ?_
  intro T204 h204 w204 K204 A_b_6
  show Goes p e below _ T204 (mkF m 248 #[.val (.int y0), .val (.int y1), .val (.int y2), .val (.int y3), .val (.int ka), .val (.int kb), .val (.int kc), .val (.int z7), .val (.ref r), .val (.ref v), .val (.ref r), .val (.ref x), .unset] [(.ref b), (.ref q), (.ref q)])
  have R_205 := R_201.keep K204 (ninS (Nat.ne_of_lt lt_r_b) nin0) (ninS (Nat.ne_of_lt lt_tr_b) nin0)
  have Ev_205 := Ev_201.keep K204
  have Fr_205 := Fr_201.keep K204 (ninS (Nat.ne_of_lt lt_v_b) nin0)
  have Fs_205 := Fs_201.keep K204 (ninS (Nat.ne_of_lt lt_v_b) nin0)
  have X_205 := X_201.keep K204 (ninS (Nat.ne_of_lt lt_x_b) nin0) (ninS (Nat.ne_of_lt lt_tx_b) nin0)
  have E_q_205 := E_q_201.keep K204
  have Fv_q_205 := Fv_q_201.keep K204 (ninS (Nat.ne_of_lt lt_q_b) nin0)
  have Fc_q_205 := Fc_q_201.keep K204 (ninS (Nat.ne_of_lt lt_q_b) nin0)
  have Sf_q_205 := Safe.keep K204 (sfS (Safe.arv w203.hZ.alike A_b_5.2 (by decide)) sf0) C202.1 Sf_q_201
  have C206 := C202.trans (CHr.keep K204 (sfS (Safe.arv w204.hZ.alike A_b_5.2 (by decide)) sf0) C202.1)
  rw [char_of_nat (show 68 < 65536 by omega)] at A_b_6
  refine i_dup w204 at_248 rfl (pc' := 249) rfl ?_
  refine i_bipush w204 at_249 (z := (7 : Int32)) (by decide) (pc' := 251) rfl ?_
  refine i_aload w204 at_251 rfl rfl (pc' := 253) rfl ?_
  refine i_bipush w204 at_253 (z := (7 : Int32)) (by decide) (pc' := 255) rfl ?_
  refine c_virtual w204 (y := (⟨"java/lang/String", "charAt", "(I)C"⟩ : MethodName)) (C := "java/lang/String") (a := x) (argsL := [(.int (7 : Int32))]) (st := [(.int (7 : Int32)), (.ref b), (.ref b), (.ref q), (.ref q)]) at_255 (hw _ (List.mem_of_getElem? (i := 176) rfl)) (hw _ (List.mem_of_getElem? (i := 177) rfl)) (hw _ (List.mem_of_getElem? (i := 179) rfl)) (hw _ (List.mem_of_getElem? (i := 178) rfl)) (hw _ (List.mem_of_getElem? (i := 180) rfl)) (hw _ (List.mem_of_getElem? (i := 2) rfl)) (by decide) own_pd_pIqC rfl X_205.1 (own_charAt l Z a0 hw x tx cx ([73, 78, 86, 65, 76, 73, 68, 58, 32] ++ rs) 7 58 G1 hG SG G3 hG3 SF h204 n0 w204.old X_205 rfl) rfl (by decide) (W := 5) (Nat.le_of_eq rfl) (by decide) (by decide) (by decide) (fun _ q => nomatch q) (pc' := 258) rfl ?_
  intro v207 T207 h207 w207 K207 q207
  obtain ⟨rfl, rfl⟩ := q207
  show Goes p e below _ T207 (mkF m 258 #[.val (.int y0), .val (.int y1), .val (.int y2), .val (.int y3), .val (.int ka), .val (.int kb), .val (.int kc), .val (.int z7), .val (.ref r), .val (.ref v), .val (.ref r), .val (.ref x), .unset] [(.int (Int32.ofNat 58)), (.int (7 : Int32)), (.ref b), (.ref b), (.ref q), (.ref q)])
  refine i_castore w207 at_258 A_b_6 (i := 7) rfl (Nat.le_of_ble_eq_true rfl) (Or.inr z_b) (pc' := 259) rfl ?_
  intro T208 h208 w208 K208 A_b_7
  show Goes p e below _ T208 (mkF m 259 #[.val (.int y0), .val (.int y1), .val (.int y2), .val (.int y3), .val (.int ka), .val (.int kb), .val (.int kc), .val (.int z7), .val (.ref r), .val (.ref v), .val (.ref r), .val (.ref x), .unset] [(.ref b), (.ref q), (.ref q)])
  have R_209 := R_205.keep K208 (ninS (Nat.ne_of_lt lt_r_b) nin0) (ninS (Nat.ne_of_lt lt_tr_b) nin0)
  have Ev_209 := Ev_205.keep K208
  have Fr_209 := Fr_205.keep K208 (ninS (Nat.ne_of_lt lt_v_b) nin0)
  have Fs_209 := Fs_205.keep K208 (ninS (Nat.ne_of_lt lt_v_b) nin0)
  have X_209 := X_205.keep K208 (ninS (Nat.ne_of_lt lt_x_b) nin0) (ninS (Nat.ne_of_lt lt_tx_b) nin0)
  have E_q_209 := E_q_205.keep K208
  have Fv_q_209 := Fv_q_205.keep K208 (ninS (Nat.ne_of_lt lt_q_b) nin0)
  have Fc_q_209 := Fc_q_205.keep K208 (ninS (Nat.ne_of_lt lt_q_b) nin0)
  have Sf_q_209 := Safe.keep K208 (sfS (Safe.arv w207.hZ.alike A_b_6.2 (by decide)) sf0) C206.1 Sf_q_205
  have C210 := C206.trans (CHr.keep K208 (sfS (Safe.arv w208.hZ.alike A_b_6.2 (by decide)) sf0) C206.1)
  rw [char_of_nat (show 58 < 65536 by omega)] at A_b_7
  refine i_dup w208 at_259 rfl (pc' := 260) rfl ?_
  refine i_bipush w208 at_260 (z := (8 : Int32)) (by decide) (pc' := 262) rfl ?_
  refine i_aload w208 at_262 rfl rfl (pc' := 264) rfl ?_
  refine i_bipush w208 at_264 (z := (8 : Int32)) (by decide) (pc' := 266) rfl ?_
  refine c_virtual w208 (y := (⟨"java/lang/String", "charAt", "(I)C"⟩ : MethodName)) (C := "java/lang/String") (a := x) (argsL := [(.int (8 : Int32))]) (st := [(.int (8 : Int32)), (.ref b), (.ref b), (.ref q), (.ref q)]) at_266 (hw _ (List.mem_of_getElem? (i := 176) rfl)) (hw _ (List.mem_of_getElem? (i := 177) rfl)) (hw _ (List.mem_of_getElem? (i := 179) rfl)) (hw _ (List.mem_of_getElem? (i := 178) rfl)) (hw _ (List.mem_of_getElem? (i := 180) rfl)) (hw _ (List.mem_of_getElem? (i := 2) rfl)) (by decide) own_pd_pIqC rfl X_209.1 (own_charAt l Z a0 hw x tx cx ([73, 78, 86, 65, 76, 73, 68, 58, 32] ++ rs) 8 32 G1 hG SG G3 hG3 SF h208 n0 w208.old X_209 rfl) rfl (by decide) (W := 5) (Nat.le_of_eq rfl) (by decide) (by decide) (by decide) (fun _ q => nomatch q) (pc' := 269) rfl ?_
  intro v211 T211 h211 w211 K211 q211
  obtain ⟨rfl, rfl⟩ := q211
  show Goes p e below _ T211 (mkF m 269 #[.val (.int y0), .val (.int y1), .val (.int y2), .val (.int y3), .val (.int ka), .val (.int kb), .val (.int kc), .val (.int z7), .val (.ref r), .val (.ref v), .val (.ref r), .val (.ref x), .unset] [(.int (Int32.ofNat 32)), (.int (8 : Int32)), (.ref b), (.ref b), (.ref q), (.ref q)])
  refine i_castore w211 at_269 A_b_7 (i := 8) rfl (Nat.le_of_ble_eq_true rfl) (Or.inr z_b) (pc' := 270) rfl ?_
  intro T212 h212 w212 K212 A_b_8
  show Goes p e below _ T212 (mkF m 270 #[.val (.int y0), .val (.int y1), .val (.int y2), .val (.int y3), .val (.int ka), .val (.int kb), .val (.int kc), .val (.int z7), .val (.ref r), .val (.ref v), .val (.ref r), .val (.ref x), .unset] [(.ref b), (.ref q), (.ref q)])
  have R_213 := R_209.keep K212 (ninS (Nat.ne_of_lt lt_r_b) nin0) (ninS (Nat.ne_of_lt lt_tr_b) nin0)
  have Ev_213 := Ev_209.keep K212
  have Fr_213 := Fr_209.keep K212 (ninS (Nat.ne_of_lt lt_v_b) nin0)
  have Fs_213 := Fs_209.keep K212 (ninS (Nat.ne_of_lt lt_v_b) nin0)
  have X_213 := X_209.keep K212 (ninS (Nat.ne_of_lt lt_x_b) nin0) (ninS (Nat.ne_of_lt lt_tx_b) nin0)
  have E_q_213 := E_q_209.keep K212
  have Fv_q_213 := Fv_q_209.keep K212 (ninS (Nat.ne_of_lt lt_q_b) nin0)
  have Fc_q_213 := Fc_q_209.keep K212 (ninS (Nat.ne_of_lt lt_q_b) nin0)
  have Sf_q_213 := Safe.keep K212 (sfS (Safe.arv w211.hZ.alike A_b_7.2 (by decide)) sf0) C210.1 Sf_q_209
  have C214 := C210.trans (CHr.keep K212 (sfS (Safe.arv w212.hZ.alike A_b_7.2 (by decide)) sf0) C210.1)
  rw [char_of_nat (show 32 < 65536 by omega)] at A_b_8
  refine c_special w212 (y := (⟨"java/lang/String", "<init>", "([C)V"⟩ : MethodName)) (a := q) (argsL := [(.ref b)]) (st := [(.ref q)]) at_270 rfl (hw _ (List.mem_of_getElem? (i := 198) rfl)) (hw _ (List.mem_of_getElem? (i := 199) rfl)) (hw _ (List.mem_of_getElem? (i := 2) rfl)) (hw _ (List.mem_of_getElem? (i := 200) rfl)) (by decide) own_pd_pACqV rfl (own_new1 l Z a0 hw q b ca_b [73, 78, 86, 65, 76, 73, 68, 58, 32] G1 hG SG h212 n0 w212.old (Nat.le_trans w212.n0h0 z_q) (fun c hc => by simp at hc; omega) (Nat.le_of_ble_eq_true rfl) (Nat.le_of_ble_eq_true rfl) E_q_213 Fv_q_213 Fc_q_213 A_b_8) rfl (by decide) (W := 1) (Nat.le_of_eq rfl) (by decide) (by decide) (by decide) (allS (Or.inr z_q) all0) (pc' := 273) rfl ?_
  intro v215 T215 h215 w215 K215 q215
  obtain ⟨rfl, tq, cq, ztq, SQ⟩ := q215
  show Goes p e below _ T215 (mkF m 273 #[.val (.int y0), .val (.int y1), .val (.int y2), .val (.int y3), .val (.int ka), .val (.int kb), .val (.int kc), .val (.int z7), .val (.ref r), .val (.ref v), .val (.ref r), .val (.ref x), .unset] [(.ref q)])
  have lt_r_tq : r < tq := Nat.lt_of_lt_of_le R_213.lt ztq
  have lt_tr_tq : tr < tq := Nat.lt_of_lt_of_le R_213.ltT ztq
  have lt_v_tq : v < tq := Nat.lt_of_lt_of_le Ev_213.lt ztq
  have lt_x_tq : x < tq := Nat.lt_of_lt_of_le X_213.lt ztq
  have lt_tx_tq : tx < tq := Nat.lt_of_lt_of_le X_213.ltT ztq
  have lt_q_tq : q < tq := Nat.lt_of_lt_of_le E_q_213.lt ztq
  have lt_b_tq : b < tq := Nat.lt_of_lt_of_le A_b_8.lt ztq
  have R_216 := R_213.keep K215 (ninS (Nat.ne_of_lt lt_r_q) nin0) (ninS (Nat.ne_of_lt lt_tr_q) nin0)
  have Ev_216 := Ev_213.keep K215
  have Fr_216 := Fr_213.keep K215 (ninS (Nat.ne_of_lt lt_v_q) nin0)
  have Fs_216 := Fs_213.keep K215 (ninS (Nat.ne_of_lt lt_v_q) nin0)
  have X_216 := X_213.keep K215 (ninS (Nat.ne_of_lt lt_x_q) nin0) (ninS (Nat.ne_of_lt lt_tx_q) nin0)
  have E_q_216 := E_q_213.keep K215
  have Sf_q_216 := Safe.keep K215 (sfS Sf_q_213 sf0) C214.1 Sf_q_213
  have A_b_216 := A_b_8.keep K215 (ninS (Nat.ne_of_gt lt_q_b) nin0)
  have C217 := C214.trans (CHr.keep K215 (sfS Sf_q_213 sf0) C214.1)
  refine i_astore w215 at_273 rfl (l' := #[.val (.int y0), .val (.int y1), .val (.int y2), .val (.int y3), .val (.int ka), .val (.int kb), .val (.int kc), .val (.int z7), .val (.ref r), .val (.ref v), .val (.ref r), .val (.ref x), .val (.ref q)]) rfl (pc' := 275) rfl ?_
  refine i_ldcR (own_EW hw) w215 hS168 (Nat.le_trans (Nat.le_trans (Nat.le_trans (Nat.le_trans (Nat.le_trans (Nat.le_trans (Nat.le_trans (Nat.le_trans (Nat.le_trans (Nat.le_trans (Nat.le_trans (Nat.le_trans (Nat.le_trans (Nat.le_trans (Nat.le_trans (Nat.le_trans (Nat.le_trans (Nat.le_trans (Nat.le_trans (Nat.le_trans (Nat.le_trans (Nat.le_trans (Nat.le_trans (Nat.le_refl _) K171.1) K172.1) E173.1) E176.1) K179.1) K180.1) K183.1) K184.1) K187.1) K188.1) K191.1) K192.1) K195.1) K196.1) K199.1) K200.1) K203.1) K204.1) K207.1) K208.1) K211.1) K212.1) K215.1) C217.1 at_275 (hw _ (List.mem_of_getElem? (i := 214) rfl)) (fun d hd => hw d ((by decide +kernel : ∀ d ∈ Bundle.stringAtoms, d ∈ tables_1) d hd)) (N := 36) (by decide) (by decide) (by decide) (by decide) (pc' := 277) rfl (cs := [73, 78, 86, 65, 76, 73, 68, 58, 32]) (by decide) (by decide) (by decide) (by decide) (by decide) ?_
  intro g bg cbg T218 h218 vm218 w218 hS218 E218 hC218 S_g N_g
  show Goes p e below _ T218 (mkF m 277 #[.val (.int y0), .val (.int y1), .val (.int y2), .val (.int y3), .val (.int ka), .val (.int kb), .val (.int kc), .val (.int z7), .val (.ref r), .val (.ref v), .val (.ref r), .val (.ref x), .val (.ref q)] [(.ref g)])
  have R_219 := R_216.ext E218
  have Ev_219 := Ev_216.ext E218
  have Fr_219 := Fr_216.ext E218
  have Fs_219 := Fs_216.ext E218
  have X_219 := X_216.ext E218
  have SQ_219 := SQ.ext E218
  have C220 := C217.trans hC218
  refine i_aload w218 at_277 rfl rfl (pc' := 279) rfl ?_
  refine c_virtual w218 (y := (⟨"java/lang/String", "equals", "(Ljava/lang/Object;)Z"⟩ : MethodName)) (C := "java/lang/String") (a := g) (argsL := [(.ref q)]) (st := []) at_279 (hw _ (List.mem_of_getElem? (i := 42) rfl)) (hw _ (List.mem_of_getElem? (i := 43) rfl)) (hw _ (List.mem_of_getElem? (i := 45) rfl)) (hw _ (List.mem_of_getElem? (i := 44) rfl)) (hw _ (List.mem_of_getElem? (i := 46) rfl)) (hw _ (List.mem_of_getElem? (i := 2) rfl)) (by decide) own_pd_pLjava_lang_ObjecteqZ rfl S_g.1 (own_equalsL l Z a0 hw g bg q tq cbg cq [73, 78, 86, 65, 76, 73, 68, 58, 32] G1 hG SG h218 n0 w218.old S_g SQ_219 (by decide)) rfl (by decide) (W := 0) (Nat.le_of_eq rfl) (by decide) (by decide) (by decide) (fun _ q => nomatch q) (pc' := 282) rfl ?_
  intro v221 T221 h221 w221 K221 q221
  obtain ⟨rfl, rfl⟩ := q221
  show Goes p e below _ T221 (mkF m 282 #[.val (.int y0), .val (.int y1), .val (.int y2), .val (.int y3), .val (.int ka), .val (.int kb), .val (.int kc), .val (.int z7), .val (.ref r), .val (.ref v), .val (.ref r), .val (.ref x), .val (.ref q)] [(.int (1 : Int32))])
  refine i_if_ne_Y w221 (by decide) at_282 (pc' := 287) (by decide) ?_
  refine i_aload w221 at_287 rfl rfl (pc' := 289) rfl ?_
  refine i_aload w221 at_289 rfl rfl (pc' := 291) rfl ?_
  refine c_static w221 (y := (⟨"com/example/sinete/sinete/pki/VerdictInvalidPinLaw", "tailMatches", "(Ljava/lang/String;Ljava/lang/String;)Z"⟩ : MethodName)) (argsL := [(.ref x), (.ref r)]) (st := []) at_291 (hw _ (List.mem_of_getElem? (i := 219) rfl)) (hw _ (List.mem_of_getElem? (i := 220) rfl)) (hw _ (List.mem_of_getElem? (i := 221) rfl)) (hw _ (List.mem_of_getElem? (i := 222) rfl)) (by decide) own_pd_pLjava_lang_StringeLjava_lang_StringeqZ rfl (own_tail l Z a0 hw x tx r tr cx cr rs G1 hG SG G3 hG3 SF h218 n0 w221.old X_219 R_219 hrs) rfl (by decide) (W := 0) (Nat.le_of_eq rfl) (by decide) (by decide) (by decide) (fun _ q => nomatch q) (pc' := 294) rfl ?_
  intro v222 T222 h222 w222 K222 q222
  obtain ⟨rfl, rfl⟩ := q222
  show Goes p e below _ T222 (mkF m 294 #[.val (.int y0), .val (.int y1), .val (.int y2), .val (.int y3), .val (.int ka), .val (.int kb), .val (.int kc), .val (.int z7), .val (.ref r), .val (.ref v), .val (.ref r), .val (.ref x), .val (.ref q)] [(.int (1 : Int32))])
  exact i_retNH (own_EW hw) w222 hS218 (Nat.le_trans (Nat.le_trans (Nat.le_refl _) K221.1) K222.1) C220 at_294 rfl (by simp) rfl (by decide) (by decide)
theorem own_ef_at (m : MethodId) (x0 : Int32) (x1 : Int32) (x2 : Int32) (x3 : Int32) : entryFrame m #[(.int x0), (.int x1), (.int x2), (.int x3)] maxLocals = mkF m 0 #[.val (.int x0), .val (.int x1), .val (.int x2), .val (.int x3), .unset, .unset, .unset, .unset, .unset, .unset, .unset, .unset, .unset] [] := by
  first | (simp [entryFrame, mkF, argsToLocals, Value.category, maxLocals]; done) | rfl
set_option maxRecDepth 65536 in
set_option maxHeartbeats 40000000 in
theorem own_law (l : Launch) (Z : State) (a0 : Array Value) (hw : ∀ d ∈ tables_1, d.before a0 Z = true) (y0 y1 y2 y3 : Int32) (G1 : Int32) (hG : ¬ G1 = 0) (SG : Sta Z Z.heap "java/lang/String" "COMPACT_STRINGS" "Z" (.int G1)) (G3 : Value) (hG3 : G3.isRef = true) (SF : Sta Z Z.heap "jdk/internal/util/Preconditions" "SIOOBE_FORMATTER" "Ljava/util/function/BiFunction;" G3) (h0 : Heap) (n0 : Nat) (O : Old Z n0 h0)  :
    CtrH consts_1 l Z n0 x code maxLocals ret tables_1 room_1 #[(.int y0), (.int y1), (.int y2), (.int y3)] h0 [] (fun v h => v = some (.int 1)) := by
  refine enterH (plainFor_of_name own_pn_com_example_sinete_sinete_pki_VerdictInvalidPinLaw) (fun m => own_ef_at m y0 y1 y2 y3) O (fun _ q => nomatch q) ?_
  intro p e s m below meth c T w hS C0
  refine i_iloadN w at_0 rfl (pc' := 1) rfl ?_
  refine i_sipush w at_1 (z := (255 : Int32)) (by decide) (pc' := 4) rfl ?_
  refine i_iand w at_4 (pc' := 5) rfl ?_
  refine i_i2c w at_5 (pc' := 6) rfl ?_
  obtain ⟨ka, hka, eka⟩ := own_ch8 y1
  rw [eka]
  show Goes p e below _ T (mkF m 6 #[.val (.int y0), .val (.int y1), .val (.int y2), .val (.int y3), .unset, .unset, .unset, .unset, .unset, .unset, .unset, .unset, .unset] [(.int (Int32.ofNat ka))])
  refine i_istore w at_6 (l' := #[.val (.int y0), .val (.int y1), .val (.int y2), .val (.int y3), .val (.int (Int32.ofNat ka)), .unset, .unset, .unset, .unset, .unset, .unset, .unset, .unset]) rfl (pc' := 8) rfl ?_
  refine i_iloadN w at_8 rfl (pc' := 9) rfl ?_
  refine i_sipush w at_9 (z := (255 : Int32)) (by decide) (pc' := 12) rfl ?_
  refine i_iand w at_12 (pc' := 13) rfl ?_
  refine i_i2c w at_13 (pc' := 14) rfl ?_
  obtain ⟨kb, hkb, ekb⟩ := own_ch8 y2
  rw [ekb]
  show Goes p e below _ T (mkF m 14 #[.val (.int y0), .val (.int y1), .val (.int y2), .val (.int y3), .val (.int (Int32.ofNat ka)), .unset, .unset, .unset, .unset, .unset, .unset, .unset, .unset] [(.int (Int32.ofNat kb))])
  refine i_istore w at_14 (l' := #[.val (.int y0), .val (.int y1), .val (.int y2), .val (.int y3), .val (.int (Int32.ofNat ka)), .val (.int (Int32.ofNat kb)), .unset, .unset, .unset, .unset, .unset, .unset, .unset]) rfl (pc' := 16) rfl ?_
  refine i_iloadN w at_16 rfl (pc' := 17) rfl ?_
  refine i_sipush w at_17 (z := (255 : Int32)) (by decide) (pc' := 20) rfl ?_
  refine i_iand w at_20 (pc' := 21) rfl ?_
  refine i_i2c w at_21 (pc' := 22) rfl ?_
  obtain ⟨kc, hkc, ekc⟩ := own_ch8 y3
  rw [ekc]
  show Goes p e below _ T (mkF m 22 #[.val (.int y0), .val (.int y1), .val (.int y2), .val (.int y3), .val (.int (Int32.ofNat ka)), .val (.int (Int32.ofNat kb)), .unset, .unset, .unset, .unset, .unset, .unset, .unset] [(.int (Int32.ofNat kc))])
  refine i_istore w at_22 (l' := #[.val (.int y0), .val (.int y1), .val (.int y2), .val (.int y3), .val (.int (Int32.ofNat ka)), .val (.int (Int32.ofNat kb)), .val (.int (Int32.ofNat kc)), .unset, .unset, .unset, .unset, .unset, .unset]) rfl (pc' := 24) rfl ?_
  refine i_iloadN w at_24 rfl (pc' := 25) rfl ?_
  refine i_ldcI w (hw _ (List.mem_of_getElem? (i := 0) rfl)) at_25 (pc' := 27) rfl ?_
  refine i_iand w at_27 (pc' := 28) rfl ?_
  refine i_iconst w at_28 (z := (3 : Int32)) (by decide) (pc' := 29) rfl ?_
  refine i_irem w at_29 (by decide) (pc' := 30) rfl ?_
  rcases own_mod3 y0 with e7 | e7 | e7
  ·
    rw [e7]
    show Goes p e below _ T (mkF m 30 #[.val (.int y0), .val (.int y1), .val (.int y2), .val (.int y3), .val (.int (Int32.ofNat ka)), .val (.int (Int32.ofNat kb)), .val (.int (Int32.ofNat kc)), .unset, .unset, .unset, .unset, .unset, .unset] [(.int (0 : Int32))])
    refine i_istore w at_30 (l' := #[.val (.int y0), .val (.int y1), .val (.int y2), .val (.int y3), .val (.int (Int32.ofNat ka)), .val (.int (Int32.ofNat kb)), .val (.int (Int32.ofNat kc)), .val (.int (0 : Int32)), .unset, .unset, .unset, .unset, .unset]) rfl (pc' := 32) rfl ?_
    refine i_iload w at_32 rfl (pc' := 34) rfl ?_
    refine i_if_ne_N w rfl at_34 (pc' := 37) rfl ?_
    refine i_ldcR (own_EW hw) w hS (Nat.le_refl _) C0.1 at_37 (hw _ (List.mem_of_getElem? (i := 1) rfl)) (fun d hd => hw d ((by decide +kernel : ∀ d ∈ Bundle.stringAtoms, d ∈ tables_1) d hd)) (N := 0) (by decide) (by decide) (by decide) (by decide) (pc' := 39) rfl (cs := ([] : List Nat)) (by decide) (by decide) (by decide) (by decide) (by decide) ?_
    intro r tr ctr T223 h223 vm223 w223 hS223 E223 hC223 S_r N_r
    show Goes p e below _ T223 (mkF m 39 #[.val (.int y0), .val (.int y1), .val (.int y2), .val (.int y3), .val (.int (Int32.ofNat ka)), .val (.int (Int32.ofNat kb)), .val (.int (Int32.ofNat kc)), .val (.int (0 : Int32)), .unset, .unset, .unset, .unset, .unset] [(.ref r)])
    have C225 := C0.trans hC223
    refine i_astore w223 at_39 rfl (l' := #[.val (.int y0), .val (.int y1), .val (.int y2), .val (.int y3), .val (.int (Int32.ofNat ka)), .val (.int (Int32.ofNat kb)), .val (.int (Int32.ofNat kc)), .val (.int (0 : Int32)), .val (.ref r), .unset, .unset, .unset, .unset]) rfl (pc' := 41) rfl ?_
    refine i_goto w223 at_41 (pc' := 87) (by decide) ?_
    exact own_seg l Z a0 hw y0 y1 y2 y3 (Int32.ofNat ka) (Int32.ofNat kb) (Int32.ofNat kc) 0 r tr ctr [] G1 hG SG G3 hG3 SF h0 n0 (w223.mono (by decide) (by decide)) hS223 (Nat.le_refl _) C225 S_r (by simp)
  ·
    rw [e7]
    show Goes p e below _ T (mkF m 30 #[.val (.int y0), .val (.int y1), .val (.int y2), .val (.int y3), .val (.int (Int32.ofNat ka)), .val (.int (Int32.ofNat kb)), .val (.int (Int32.ofNat kc)), .unset, .unset, .unset, .unset, .unset, .unset] [(.int (1 : Int32))])
    refine i_istore w at_30 (l' := #[.val (.int y0), .val (.int y1), .val (.int y2), .val (.int y3), .val (.int (Int32.ofNat ka)), .val (.int (Int32.ofNat kb)), .val (.int (Int32.ofNat kc)), .val (.int (1 : Int32)), .unset, .unset, .unset, .unset, .unset]) rfl (pc' := 32) rfl ?_
    refine i_iload w at_32 rfl (pc' := 34) rfl ?_
    refine i_if_ne_Y w (by decide) at_34 (pc' := 44) (by decide) ?_
    refine i_iload w at_44 rfl (pc' := 46) rfl ?_
    refine i_iconst w at_46 (z := (1 : Int32)) (by decide) (pc' := 47) rfl ?_
    refine i_icmp_ne_N w rfl at_47 (pc' := 50) rfl ?_
    refine i_iload w at_50 rfl (pc' := 52) rfl ?_
    refine c_static w (y := (⟨"java/lang/String", "valueOf", "(C)Ljava/lang/String;"⟩ : MethodName)) (argsL := [(.int (Int32.ofNat ka))]) (st := []) at_52 (hw _ (List.mem_of_getElem? (i := 223) rfl)) (hw _ (List.mem_of_getElem? (i := 224) rfl)) (hw _ (List.mem_of_getElem? (i := 2) rfl)) (hw _ (List.mem_of_getElem? (i := 225) rfl)) (by decide) own_pd_pCqLjava_lang_Stringe rfl (own_valueOfC l Z a0 hw ka G1 hG SG h0 n0 w.old hka) rfl (by decide) (W := 0) (Nat.le_of_eq rfl) (by decide) (by decide) (by decide) (fun _ q => nomatch q) (pc' := 55) rfl ?_
    intro v226 T226 h226 w226 K226 q226
    obtain ⟨r, tr, cr, rfl, zr, lr, R⟩ := q226
    show Goes p e below _ T226 (mkF m 55 #[.val (.int y0), .val (.int y1), .val (.int y2), .val (.int y3), .val (.int (Int32.ofNat ka)), .val (.int (Int32.ofNat kb)), .val (.int (Int32.ofNat kc)), .val (.int (1 : Int32)), .unset, .unset, .unset, .unset, .unset] [(.ref r)])
    have C228 := C0.trans (CHr.keep K226 sf0 C0.1)
    refine i_astore w226 at_55 rfl (l' := #[.val (.int y0), .val (.int y1), .val (.int y2), .val (.int y3), .val (.int (Int32.ofNat ka)), .val (.int (Int32.ofNat kb)), .val (.int (Int32.ofNat kc)), .val (.int (1 : Int32)), .val (.ref r), .unset, .unset, .unset, .unset]) rfl (pc' := 57) rfl ?_
    refine i_goto w226 at_57 (pc' := 87) (by decide) ?_
    exact own_seg l Z a0 hw y0 y1 y2 y3 (Int32.ofNat ka) (Int32.ofNat kb) (Int32.ofNat kc) 1 r tr cr [ka] G1 hG SG G3 hG3 SF h0 n0 (w226.mono (by decide) (by decide)) hS (Nat.le_trans (Nat.le_refl _) K226.1) C228 R (by simp)
  ·
    rw [e7]
    show Goes p e below _ T (mkF m 30 #[.val (.int y0), .val (.int y1), .val (.int y2), .val (.int y3), .val (.int (Int32.ofNat ka)), .val (.int (Int32.ofNat kb)), .val (.int (Int32.ofNat kc)), .unset, .unset, .unset, .unset, .unset, .unset] [(.int (2 : Int32))])
    refine i_istore w at_30 (l' := #[.val (.int y0), .val (.int y1), .val (.int y2), .val (.int y3), .val (.int (Int32.ofNat ka)), .val (.int (Int32.ofNat kb)), .val (.int (Int32.ofNat kc)), .val (.int (2 : Int32)), .unset, .unset, .unset, .unset, .unset]) rfl (pc' := 32) rfl ?_
    refine i_iload w at_32 rfl (pc' := 34) rfl ?_
    refine i_if_ne_Y w (by decide) at_34 (pc' := 44) (by decide) ?_
    refine i_iload w at_44 rfl (pc' := 46) rfl ?_
    refine i_iconst w at_46 (z := (1 : Int32)) (by decide) (pc' := 47) rfl ?_
    refine i_icmp_ne_Y w (by decide) at_47 (pc' := 60) (by decide) ?_
    refine i_new w at_60 (hw _ (List.mem_of_getElem? (i := 174) rfl)) (hw _ (List.mem_of_getElem? (i := 3) rfl)) (hw _ (List.mem_of_getElem? (i := 2) rfl)) (by decide) (by decide) (pc' := 63) rfl ?_
    intro r T229 h229 g_r w229 z_r E229 A_r D_r
    show Goes p e below _ T229 (mkF m 63 #[.val (.int y0), .val (.int y1), .val (.int y2), .val (.int y3), .val (.int (Int32.ofNat ka)), .val (.int (Int32.ofNat kb)), .val (.int (Int32.ofNat kc)), .val (.int (2 : Int32)), .unset, .unset, .unset, .unset, .unset] [(.ref r)])
    have C231 := C0.trans (CHr.ext E229 C0.1)
    have Fv_r : Fld Z h229 r ST "value" "[B" .null := D_r (Or.inr (hw _ (List.mem_of_getElem? (i := 5) rfl))) (ty := .array .byte) (by decide)
    have Fc_r : Fld Z h229 r ST "coder" "B" (.int 0) := D_r (Or.inr (hw _ (List.mem_of_getElem? (i := 6) rfl))) (ty := .byte) (by decide)
    have Sf_r := Safe.ext E229 C0.1 (Safe.new (x := r) (Nat.le_of_eq g_r.symm))
    refine i_dup w229 at_63 rfl (pc' := 64) rfl ?_
    refine i_iconst w229 at_64 (z := (3 : Int32)) (by decide) (pc' := 65) rfl ?_
    refine i_newP w229 at_65 (hw _ (List.mem_of_getElem? (i := 175) rfl)) (N := 3) rfl (by decide) (cap := 3) (by decide) (by decide) (by decide) (by decide) (pc' := 67) rfl ?_
    intro b T232 h232 ca_b g_b w232 z_b E232 A_b
    show Goes p e below _ T232 (mkF m 67 #[.val (.int y0), .val (.int y1), .val (.int y2), .val (.int y3), .val (.int (Int32.ofNat ka)), .val (.int (Int32.ofNat kb)), .val (.int (Int32.ofNat kc)), .val (.int (2 : Int32)), .unset, .unset, .unset, .unset, .unset] [(.ref b), (.ref r), (.ref r)])
    have lt_r_b : r < b := Nat.lt_of_lt_of_le A_r.lt (Nat.le_of_eq g_b.symm)
    have E_r_233 := A_r.ext E232
    have Fv_r_233 := Fv_r.ext E232
    have Fc_r_233 := Fc_r.ext E232
    have Sf_r_233 := Safe.ext E232 C231.1 Sf_r
    have C234 := C231.trans (CHr.ext E232 C231.1)
    refine i_dup w232 at_67 rfl (pc' := 68) rfl ?_
    refine i_iconst w232 at_68 (z := (0 : Int32)) (by decide) (pc' := 69) rfl ?_
    refine i_iload w232 at_69 rfl (pc' := 71) rfl ?_
    refine i_castore w232 at_71 A_b (i := 0) rfl (Nat.le_of_ble_eq_true rfl) (Or.inr z_b) (pc' := 72) rfl ?_
    intro T235 h235 w235 K235 A_b_0
    show Goes p e below _ T235 (mkF m 72 #[.val (.int y0), .val (.int y1), .val (.int y2), .val (.int y3), .val (.int (Int32.ofNat ka)), .val (.int (Int32.ofNat kb)), .val (.int (Int32.ofNat kc)), .val (.int (2 : Int32)), .unset, .unset, .unset, .unset, .unset] [(.ref b), (.ref r), (.ref r)])
    have E_r_236 := E_r_233.keep K235
    have Fv_r_236 := Fv_r_233.keep K235 (ninS (Nat.ne_of_lt lt_r_b) nin0)
    have Fc_r_236 := Fc_r_233.keep K235 (ninS (Nat.ne_of_lt lt_r_b) nin0)
    have Sf_r_236 := Safe.keep K235 (sfS (Safe.arv w232.hZ.alike A_b.2 (by decide)) sf0) C234.1 Sf_r_233
    have C237 := C234.trans (CHr.keep K235 (sfS (Safe.arv w235.hZ.alike A_b.2 (by decide)) sf0) C234.1)
    rw [char_of_nat (show ka < 65536 by omega)] at A_b_0
    refine i_dup w235 at_72 rfl (pc' := 73) rfl ?_
    refine i_iconst w235 at_73 (z := (1 : Int32)) (by decide) (pc' := 74) rfl ?_
    refine i_iload w235 at_74 rfl (pc' := 76) rfl ?_
    refine i_castore w235 at_76 A_b_0 (i := 1) rfl (Nat.le_of_ble_eq_true rfl) (Or.inr z_b) (pc' := 77) rfl ?_
    intro T238 h238 w238 K238 A_b_1
    show Goes p e below _ T238 (mkF m 77 #[.val (.int y0), .val (.int y1), .val (.int y2), .val (.int y3), .val (.int (Int32.ofNat ka)), .val (.int (Int32.ofNat kb)), .val (.int (Int32.ofNat kc)), .val (.int (2 : Int32)), .unset, .unset, .unset, .unset, .unset] [(.ref b), (.ref r), (.ref r)])
    have E_r_239 := E_r_236.keep K238
    have Fv_r_239 := Fv_r_236.keep K238 (ninS (Nat.ne_of_lt lt_r_b) nin0)
    have Fc_r_239 := Fc_r_236.keep K238 (ninS (Nat.ne_of_lt lt_r_b) nin0)
    have Sf_r_239 := Safe.keep K238 (sfS (Safe.arv w235.hZ.alike A_b_0.2 (by decide)) sf0) C237.1 Sf_r_236
    have C240 := C237.trans (CHr.keep K238 (sfS (Safe.arv w238.hZ.alike A_b_0.2 (by decide)) sf0) C237.1)
    rw [char_of_nat (show kb < 65536 by omega)] at A_b_1
    refine i_dup w238 at_77 rfl (pc' := 78) rfl ?_
    refine i_iconst w238 at_78 (z := (2 : Int32)) (by decide) (pc' := 79) rfl ?_
    refine i_iload w238 at_79 rfl (pc' := 81) rfl ?_
    refine i_castore w238 at_81 A_b_1 (i := 2) rfl (Nat.le_of_ble_eq_true rfl) (Or.inr z_b) (pc' := 82) rfl ?_
    intro T241 h241 w241 K241 A_b_2
    show Goes p e below _ T241 (mkF m 82 #[.val (.int y0), .val (.int y1), .val (.int y2), .val (.int y3), .val (.int (Int32.ofNat ka)), .val (.int (Int32.ofNat kb)), .val (.int (Int32.ofNat kc)), .val (.int (2 : Int32)), .unset, .unset, .unset, .unset, .unset] [(.ref b), (.ref r), (.ref r)])
    have E_r_242 := E_r_239.keep K241
    have Fv_r_242 := Fv_r_239.keep K241 (ninS (Nat.ne_of_lt lt_r_b) nin0)
    have Fc_r_242 := Fc_r_239.keep K241 (ninS (Nat.ne_of_lt lt_r_b) nin0)
    have Sf_r_242 := Safe.keep K241 (sfS (Safe.arv w238.hZ.alike A_b_1.2 (by decide)) sf0) C240.1 Sf_r_239
    have C243 := C240.trans (CHr.keep K241 (sfS (Safe.arv w241.hZ.alike A_b_1.2 (by decide)) sf0) C240.1)
    rw [char_of_nat (show kc < 65536 by omega)] at A_b_2
    refine c_special w241 (y := (⟨"java/lang/String", "<init>", "([C)V"⟩ : MethodName)) (a := r) (argsL := [(.ref b)]) (st := [(.ref r)]) at_82 rfl (hw _ (List.mem_of_getElem? (i := 198) rfl)) (hw _ (List.mem_of_getElem? (i := 199) rfl)) (hw _ (List.mem_of_getElem? (i := 2) rfl)) (hw _ (List.mem_of_getElem? (i := 200) rfl)) (by decide) own_pd_pACqV rfl (own_new1 l Z a0 hw r b ca_b [ka, kb, kc] G1 hG SG h241 n0 w241.old (Nat.le_trans w241.n0h0 z_r) (fun c hc => by simp at hc; omega) (Nat.le_of_ble_eq_true rfl) (Nat.le_of_ble_eq_true rfl) E_r_242 Fv_r_242 Fc_r_242 A_b_2) rfl (by decide) (W := 1) (Nat.le_of_eq rfl) (by decide) (by decide) (by decide) (allS (Or.inr z_r) all0) (pc' := 85) rfl ?_
    intro v244 T244 h244 w244 K244 q244
    obtain ⟨rfl, tr, cr, ztr, R⟩ := q244
    show Goes p e below _ T244 (mkF m 85 #[.val (.int y0), .val (.int y1), .val (.int y2), .val (.int y3), .val (.int (Int32.ofNat ka)), .val (.int (Int32.ofNat kb)), .val (.int (Int32.ofNat kc)), .val (.int (2 : Int32)), .unset, .unset, .unset, .unset, .unset] [(.ref r)])
    have lt_r_tr : r < tr := Nat.lt_of_lt_of_le E_r_242.lt ztr
    have lt_b_tr : b < tr := Nat.lt_of_lt_of_le A_b_2.lt ztr
    have E_r_245 := E_r_242.keep K244
    have Sf_r_245 := Safe.keep K244 (sfS Sf_r_242 sf0) C243.1 Sf_r_242
    have A_b_245 := A_b_2.keep K244 (ninS (Nat.ne_of_gt lt_r_b) nin0)
    have C246 := C243.trans (CHr.keep K244 (sfS Sf_r_242 sf0) C243.1)
    refine i_astore w244 at_85 rfl (l' := #[.val (.int y0), .val (.int y1), .val (.int y2), .val (.int y3), .val (.int (Int32.ofNat ka)), .val (.int (Int32.ofNat kb)), .val (.int (Int32.ofNat kc)), .val (.int (2 : Int32)), .val (.ref r), .unset, .unset, .unset, .unset]) rfl (pc' := 87) rfl ?_
    exact own_seg l Z a0 hw y0 y1 y2 y3 (Int32.ofNat ka) (Int32.ofNat kb) (Int32.ofNat kc) 2 r tr cr [ka, kb, kc] G1 hG SG G3 hG3 SF h0 n0 (w244.mono (by decide) (by decide)) hS (Nat.le_trans (Nat.le_trans (Nat.le_trans (Nat.le_trans (Nat.le_trans (Nat.le_trans (Nat.le_refl _) E229.1) E232.1) K235.1) K238.1) K241.1) K244.1) C246 R (by simp)
set_option maxRecDepth 65536 in
set_option maxHeartbeats 40000000 in
theorem comes_1 {Post : Tables → Env → Array Value → State → Outcome → State → Prop} (hpost : ∀ tb e args s v u, (limb_1_1.after args s (.returned v) u = true ∧ limb_1_2.after args s (.returned v) u = true ∧ True) → ReturnedEndW s (.returned v) u (Jvm.fieldLocs frame_1_writes args s ++ Jvm.arrayLocs frame_1_arrays args s ++ Jvm.staticLocs frame_1_statics s) 40 4352 → Post tb e args s (.returned v) u) :
    ArmFor flags0 classFile x code maxLocals ret World_1 tables_1 room_1 Calls_1 rest_1 Pre_1 Post := by
  intro l hfl _ _ p e ha hc hk s m args below hf hA hF happ hP
  obtain ⟨hcalls, hrest, hpre⟩ := hP
  obtain ⟨-, -, -, hnamed, -, -, -, hat⟩ := (Spec.applies_iff hf).mp happ
  obtain ⟨hg, hn⟩ := and_e (Cond.before_iff.mp (show (Jvm.Cond.and given_1 narrow_1).before args s = true from hpre))
  obtain ⟨gc, g0⟩ := and_e hg
  obtain ⟨q0, g1⟩ := and_e g0
  obtain ⟨q1, g2⟩ := and_e g1
  obtain ⟨q2, g3⟩ := and_e g2
  have q3 := g3
  obtain ⟨x0, x1, x2, x3, rfl⟩ : ∃ x0 x1 x2 x3 : Value, args = #[x0, x1, x2, x3] := by
    have hs : args.size = 4 := by simpa [Cond.value, given_1] using gc
    obtain ⟨L⟩ := args
    match L, hs with
    | [x0, x1, x2, x3], _ => exact ⟨x0, x1, x2, x3, rfl⟩
  have hw := fun d (hd : d ∈ tables_1) => atoms_spec (ws := Jvm.Cond.code x code maxLocals ret :: tables_1) hat d (List.mem_cons_of_mem _ hd)
  have hfit : Fit s := fun {y c} hc i hi => by
    obtain ⟨ha, rfl⟩ := Array.getElem?_eq_some_iff.mp hc
    have q := List.all_eq_true.mp ((Array.all_eq_true_iff_forall_mem.mp hF) _ (Array.getElem_mem ha)) i (List.mem_range.mpr hi)
    simpa [Array.getElem?_eq_getElem hi] using q
  obtain ⟨hsets, hown0⟩ := atoms_of _ (rest_1_c_eq ▸ (show rest_1_c.before _ s = true from hrest))
  obtain ⟨y0, ey0⟩ := is_v q0
  obtain rfl : x0 = (.int y0) := Option.some.inj ey0
  obtain ⟨y1, ey1⟩ := is_v q1
  obtain rfl : x1 = (.int y1) := Option.some.inj ey1
  obtain ⟨y2, ey2⟩ := is_v q2
  obtain rfl : x2 = (.int y2) := Option.some.inj ey2
  obtain ⟨y3, ey3⟩ := is_v q3
  obtain rfl : x3 = (.int y3) := Option.some.inj ey3
  have n2 := not_v (Cond.before_iff.mp (hsets _ (List.mem_of_getElem? (i := 2) rfl)))
  obtain ⟨G1, eG1⟩ := is_v (Cond.before_iff.mp (hsets _ (List.mem_of_getElem? (i := 1) rfl)))
  have SG : Sta s s.heap "java/lang/String" "COMPACT_STRINGS" "Z" (.int G1) := Sta.start eG1 (Or.inl (hsets _ (List.mem_of_getElem? (i := 0) rfl)))
  have hG : ¬ G1 = 0 := gotF (Cond.eq_ints eG1 (Term.int_eval (0))) n2
  obtain ⟨G3, eG3, hG3⟩ := isR_v (Cond.before_iff.mp (hsets _ (List.mem_of_getElem? (i := 8) rfl)))
  have SF : Sta s s.heap "jdk/internal/util/Preconditions" "SIOOBE_FORMATTER" "Ljava/util/function/BiFunction;" G3 := Sta.start eG3 (Or.inl (hsets _ (List.mem_of_getElem? (i := 7) rfl)))
  obtain ⟨n, o, h1, h2, h3, _, L, rfl, ⟨rfl, N, -⟩, -, hq⟩ := own_law l s _ hw y0 y1 y2 y3 G1 hG SG G3 hG3 SF s.heap s.heap.size (Old.start s)  p e ha hc hk s m _ below hf ((Spec.applies_iff_loose hf).mp happ).1 ⟨rfl, State.Warmed39.refl s, rfl, CHv.start (own_EW hw) hcalls.1 (hsets _ (List.mem_of_getElem? (i := 2) rfl)) (hw _ (List.mem_of_getElem? (i := 4) rfl)) (hw _ (List.mem_of_getElem? (i := 3) rfl))⟩ trivial
  refine ⟨n, _, h1, h2, h3, hpost _ _ _ _ _ _ ⟨Cond.after_iff.mpr rfl, Cond.after_iff.mpr (eq_i res_at (Term.int_eval (1)) rfl), trivial⟩ ⟨hq.1, hq.2.1, hq.2.2.1, (hq.2.2.2.sift fun y hy => Or.inr (N y hy)).mono (by decide) (by decide)⟩⟩
theorem main_1_1 : Claimed_1_1 := comes_1 fun _ _ _ _ _ _ h hF => ⟨h.1, hF⟩
theorem main_1_2 : Claimed_1_2 := comes_1 fun _ _ _ _ _ _ h hF => ⟨h.2.1, hF⟩
end Jvm.Pilot.@@N@@
namespace Jvm.Pilot.@@N@@
open Jvm Jvm.ClassFile Sem Op Lib Jvm.Free Jvm.Stand Jvm.Pilot.@@N@@.Jvm.D
/-! MADE BY PROGRAM (witnessworld.py) out of the Statement's table words and the real class files: 27 classes; the members and pool entries that the words name. The judged class is class 1, her method 1. -/
namespace start1
open Jvm.ClassFile
def u (s : String) : CpInfo := .utf8 (stringToUtf16 s)
/-- a pool by its gaps: so many unusable entries, then the entry; so many at the end -/
def gap : Nat → List CpInfo → List CpInfo
  | 0, r => r
  | n + 1, r => .unusable :: gap n r
def poolList (es : List (Nat × CpInfo)) (last : Nat) : List CpInfo := es.foldr (fun e r => gap e.1 (e.2 :: r)) (gap last [])
def pool (es : List (Nat × CpInfo)) (last : Nat) : Array CpInfo := ⟨poolList es last⟩
def fileOf (pool : Array CpInfo) (this : Nat) (attrs : Array Attribute := #[]) (ms : Array MethodInfo := #[]) (fl : Nat := 33) (sup : Nat := 0) (ifs : Array Nat := #[]) (fds : Array FieldInfo := #[]) : ClassFile where
  minorVersion := 0
  majorVersion := 65
  constantPool := pool
  accessFlags := fl
  thisClass := this
  superClass := sup
  interfaces := ifs
  fields := fds
  methods := ms
  attributes := attrs
def plain (name : String) (sup : Option ClassId) : Class where
  name := name
  kind := .ordinary
  loader := none
  accessFlags := 33
  super := sup
  interfaces := #[]
  cf := none
  fields := #[]
  methods := #[]
  instanceTypes := #[]
  staticTypes := #[]
  resolved := #[]
  callSites := []
  init := .initialized
  statics := none
  mirror := none

def pool0 : Array CpInfo := pool [(5, u "<init>"), (0, u "()V"), (1, .class_ 10), (1, u "java/lang/Object")] 113

def k0c0 : Code := { maxStack := 0, maxLocals := 1, code := object_method_1_code, exceptionTable := #[], attributes := #[] }
def k0m0 : Method := { name := "<init>", desc := "()V", sig := { parameters := [], returnType := none }, accessFlags := 1, code := some k0c0 }
/-- java/lang/Object -/
def k0 : Class := { plain "java/lang/Object" none with
  accessFlags := 33
  interfaces := #[]
  cf := some (fileOf pool0 8 #[] #[{ accessFlags := 1, nameIndex := 5, descriptorIndex := 6, attributes := #[] }] 33 0 #[] #[])
  fields := #[]
  methods := #[k0m0]
  instanceTypes := #[]
  staticTypes := #[]
  resolved := Array.replicate 124 none
  statics := none }

def pool1 : Array CpInfo := pool [(2, .class_ 4), (1, u "java/lang/Object"), (0, u "<init>"), (0, u "()V"), (0, .integer 2147483647), (0, .string 9), (0, u ""), (0, .methodref 11 12), (0, .class_ 13), (0, .nameAndType 14 15), (0, u "java/lang/String"), (0, u "valueOf"), (0, u "(C)Ljava/lang/String;"), (0, .methodref 11 17), (0, .nameAndType 5 18), (0, u "([C)V"), (0, .methodref 20 21), (0, .class_ 22), (0, .nameAndType 23 24), (0, u "com/example/sinete/sinete/pki/Verdict"), (0, u "invalid"), (0, u "(Ljava/lang/String;)Lcom/example/sinete/sinete/pki/Verdict;"), (0, .methodref 20 26), (0, .nameAndType 27 28), (0, u "isValid"), (0, u "()Z"), (0, .methodref 20 30), (0, .nameAndType 31 32), (0, u "reason"), (0, u "()Ljava/lang/String;"), (0, .methodref 11 34), (0, .nameAndType 35 36), (0, u "equals"), (0, u "(Ljava/lang/Object;)Z"), (0, .methodref 20 38), (0, .nameAndType 39 40), (0, u "signatureChecks"), (0, u "()I"), (0, .methodref 20 42), (0, .nameAndType 43 32), (0, u "toString"), (0, .methodref 11 45), (0, .nameAndType 46 40), (0, u "length"), (0, .methodref 11 48), (0, .nameAndType 49 50), (0, u "charAt"), (0, u "(I)C"), (0, .string 52), (0, u "INVALID: "), (0, .methodref 54 55), (0, .class_ 56), (0, .nameAndType 57 58), (0, u "com/example/sinete/sinete/pki/VerdictInvalidPinLaw"), (0, u "tailMatches"), (0, u "(Ljava/lang/String;Ljava/lang/String;)Z"), (2, u "law"), (0, u "(IIII)Z")] 3

def k1m0 : Method := { name := "<init>", desc := "()V", sig := { parameters := [], returnType := none }, accessFlags := 1, code := none }
def k1c1 : Code := { maxStack := 7, maxLocals := 13, code := code, exceptionTable := #[], attributes := #[] }
def k1m1 : Method := { name := "law", desc := "(IIII)Z", sig := { parameters := [.int, .int, .int, .int], returnType := some .boolean }, accessFlags := 9, code := some k1c1 }
def k1c2 : Code := { maxStack := 3, maxLocals := 3, code := method_3_code, exceptionTable := #[], attributes := #[] }
def k1m2 : Method := { name := "tailMatches", desc := "(Ljava/lang/String;Ljava/lang/String;)Z", sig := { parameters := [(.object "java/lang/String"), (.object "java/lang/String")], returnType := some .boolean }, accessFlags := 10, code := some k1c2 }
/-- com/example/sinete/sinete/pki/VerdictInvalidPinLaw -/
def k1 : Class := { plain "com/example/sinete/sinete/pki/VerdictInvalidPinLaw" (some 0) with
  accessFlags := 49
  interfaces := #[]
  cf := some (fileOf pool1 54 #[] #[{ accessFlags := 1, nameIndex := 5, descriptorIndex := 6, attributes := #[] }, { accessFlags := 9, nameIndex := 61, descriptorIndex := 62, attributes := #[] }, { accessFlags := 10, nameIndex := 57, descriptorIndex := 58, attributes := #[] }] 49 2 #[] #[])
  fields := #[]
  methods := #[k1m0, k1m1, k1m2]
  instanceTypes := #[]
  staticTypes := #[]
  resolved := Array.replicate 66 none
  statics := none }

def pool2 : Array CpInfo := pool [(1, .class_ 2), (0, u "java/io/Serializable"), (0, .class_ 4), (0, u "java/lang/Object")] 2

/-- java/io/Serializable -/
def k2 : Class := { plain "java/io/Serializable" (some 0) with
  accessFlags := 1537
  interfaces := #[]
  cf := some (fileOf pool2 1 #[] #[] 1537 3 #[] #[])
  fields := #[]
  methods := #[]
  instanceTypes := #[]
  staticTypes := #[]
  resolved := Array.replicate 7 none
  statics := none }

def pool3 : Array CpInfo := pool [(1, .class_ 2), (0, u "java/lang/Comparable"), (0, .class_ 4), (0, u "java/lang/Object")] 7

/-- java/lang/Comparable -/
def k3 : Class := { plain "java/lang/Comparable" (some 0) with
  accessFlags := 1537
  interfaces := #[]
  cf := some (fileOf pool3 1 #[] #[] 1537 3 #[] #[])
  fields := #[]
  methods := #[]
  instanceTypes := #[]
  staticTypes := #[]
  resolved := Array.replicate 12 none
  statics := none }

def pool4 : Array CpInfo := pool [(2, .class_ 4), (1, u "java/lang/CharSequence"), (42, .class_ 48), (0, u "java/lang/CharSequence$1CodePointIterator"), (10, .class_ 60), (0, u "java/lang/CharSequence$1CharIterator"), (5, .class_ 67), (0, u "java/lang/Object")] 63

/-- java/lang/CharSequence -/
def k4 : Class := { plain "java/lang/CharSequence" (some 0) with
  accessFlags := 1537
  interfaces := #[]
  cf := some (fileOf pool4 2 #[.nestMembers #[47, 59]] #[] 1537 66 #[] #[])
  fields := #[]
  methods := #[]
  instanceTypes := #[]
  staticTypes := #[]
  resolved := Array.replicate 131 none
  statics := none }

def pool5 : Array CpInfo := pool [(1, .class_ 2), (0, u "java/lang/constant/Constable"), (0, .class_ 4), (0, u "java/lang/Object")] 6

/-- java/lang/constant/Constable -/
def k5 : Class := { plain "java/lang/constant/Constable" (some 0) with
  accessFlags := 1537
  interfaces := #[]
  cf := some (fileOf pool5 1 #[] #[] 1537 3 #[] #[])
  fields := #[]
  methods := #[]
  instanceTypes := #[]
  staticTypes := #[]
  resolved := Array.replicate 11 none
  statics := none }

def pool6 : Array CpInfo := pool [(1, .class_ 2), (0, u "java/lang/constant/ConstantDesc"), (0, .class_ 4), (0, u "java/lang/Object")] 32

/-- java/lang/constant/ConstantDesc -/
def k6 : Class := { plain "java/lang/constant/ConstantDesc" (some 0) with
  accessFlags := 1537
  interfaces := #[]
  cf := some (fileOf pool6 1 #[] #[] 1537 3 #[] #[])
  fields := #[]
  methods := #[]
  instanceTypes := #[]
  staticTypes := #[]
  resolved := Array.replicate 37 none
  statics := none }

def pool7 : Array CpInfo := pool [(1, .methodref 2 3), (0, .class_ 4), (0, .nameAndType 5 6), (0, u "java/lang/Object"), (0, u "<init>"), (0, u "()V"), (2, .fieldref 10 11), (0, .class_ 12), (0, .nameAndType 13 14), (0, u "java/lang/String"), (0, u "value"), (0, u "[B"), (0, .fieldref 10 16), (0, .nameAndType 17 18), (0, u "coder"), (0, u "B"), (2, u "hash"), (0, u "I"), (2, u "hashIsZero"), (0, u "Z"), (0, .methodref 10 28), (0, .nameAndType 5 29), (0, u "([CIILjava/lang/Void;)V"), (8, .fieldref 10 39), (0, .nameAndType 40 26), (0, u "COMPACT_STRINGS"), (1, .class_ 44), (1, u "java/lang/StringUTF16"), (0, u "compress"), (1, .methodref 42 48), (0, .nameAndType 49 50), (0, u "coderFromArrayLen"), (0, u "([BI)B"), (2, u "toBytes"), (0, .methodref 55 56), (0, .class_ 57), (0, .nameAndType 58 59), (0, u "java/util/Arrays"), (0, u "copyOfRange"), (0, u "([BII)[B"), (47, .class_ 109), (1, u "java/lang/StringLatin1"), (32, u "()Z"), (34, .methodref 42 178), (0, .nameAndType 45 179), (0, u "([CII)[B"), (13, .class_ 195), (1, u "java/lang/System"), (13, .methodref 10 210), (0, .nameAndType 5 211), (0, u "([BB)V"), (0, .methodref 193 213), (0, .nameAndType 214 215), (0, u "arraycopy"), (0, u "(Ljava/lang/Object;ILjava/lang/Object;II)V"), (118, u "()I"), (0, .methodref 10 336), (0, .nameAndType 17 337), (0, u "()B"), (2, u "()[B"), (22, u "([BI)C"), (5, u "(C)Z"), (21, u "(II)V"), (35, u "(I)C"), (61, .methodref 10 490), (0, .nameAndType 5 491), (0, u "(Ljava/lang/AbstractStringBuilder;Ljava/lang/Void;)V"), (0, .methodref 10 493), (0, .nameAndType 494 142), (0, u "isLatin1"), (0, .methodref 107 496), (0, .nameAndType 497 363), (0, u "charAt"), (3, u "checkIndex"), (4, .nameAndType 507 334), (0, u "length"), (24, u "getBytes"), (8, .methodref 107 542), (0, .nameAndType 543 544), (0, u "equals"), (0, u "([B[B)Z"), (4, .methodref 550 506), (0, .class_ 551), (0, u "java/lang/AbstractStringBuilder"), (0, .methodref 550 553), (0, .nameAndType 554 340), (0, u "getValue"), (18, u "(Ljava/lang/Object;)Z"), (1, .class_ 576), (0, u "java/lang/CharSequence"), (22, u "CASE_INSENSITIVE_ORDER"), (0, u "Ljava/util/Comparator;"), (181, u "valueOf"), (0, u "(C)Ljava/lang/String;"), (37, u "([BIB)V"), (188, u "([C)V"), (4, .methodref 107 1016), (0, .nameAndType 1017 369), (0, u "canEncode"), (0, .methodref 107 1019), (0, .nameAndType 53 1020), (0, u "(C)[B"), (26, .methodref 550 493), (5, .fieldref 1054 1055), (0, .class_ 1056), (0, .nameAndType 1057 1058), (0, u "jdk/internal/util/Preconditions"), (0, u "SIOOBE_FORMATTER"), (0, u "Ljava/util/function/BiFunction;"), (0, .methodref 1054 1060), (0, .nameAndType 501 1061), (0, u "(IILjava/util/function/BiFunction;)I"), (39, u "serialPersistentFields"), (0, u "[Ljava/io/ObjectStreamField;"), (0, .class_ 1104), (0, u "java/lang/String$CaseInsensitiveComparator"), (1, .class_ 1107), (0, u "java/io/Serializable"), (0, .class_ 1109), (0, u "java/lang/Comparable"), (0, .class_ 1111), (0, u "java/lang/constant/Constable"), (0, .class_ 1113), (0, u "java/lang/constant/ConstantDesc"), (2, u "serialVersionUID"), (0, u "J"), (3, u "REPL"), (0, u "C"), (2, u "LATIN1"), (1, u "UTF16"), (105, u "(Ljava/lang/StringBuilder;)V")] 217

def k7m0 : Method := { name := "<init>", desc := "()V", sig := { parameters := [], returnType := none }, accessFlags := 1, code := none }
def k7c1 : Code := { maxStack := 5, maxLocals := 2, code := jdk_42_method_3_code, exceptionTable := #[], attributes := #[] }
def k7m1 : Method := { name := "<init>", desc := "([C)V", sig := { parameters := [(.array .char)], returnType := none }, accessFlags := 1, code := some k7c1 }
def k7c2 : Code := { maxStack := 3, maxLocals := 2, code := jdk_42_method_53_code, exceptionTable := #[], attributes := #[] }
def k7m2 : Method := { name := "<init>", desc := "(Ljava/lang/StringBuilder;)V", sig := { parameters := [(.object "java/lang/StringBuilder")], returnType := none }, accessFlags := 1, code := some k7c2 }
def k7c3 : Code := { maxStack := 2, maxLocals := 1, code := jdk_42_method_54_code, exceptionTable := #[], attributes := #[] }
def k7m3 : Method := { name := "length", desc := "()I", sig := { parameters := [], returnType := some .int }, accessFlags := 1, code := some k7c3 }
def k7c4 : Code := { maxStack := 2, maxLocals := 2, code := jdk_42_method_56_code, exceptionTable := #[], attributes := #[] }
def k7m4 : Method := { name := "charAt", desc := "(I)C", sig := { parameters := [.int], returnType := some .char }, accessFlags := 1, code := some k7c4 }
def k7c5 : Code := { maxStack := 2, maxLocals := 3, code := jdk_42_method_66_code, exceptionTable := #[], attributes := #[] }
def k7m5 : Method := { name := "equals", desc := "(Ljava/lang/Object;)Z", sig := { parameters := [(.object "java/lang/Object")], returnType := some .boolean }, accessFlags := 1, code := some k7c5 }
def k7c6 : Code := { maxStack := 4, maxLocals := 1, code := jdk_42_method_139_code, exceptionTable := #[], attributes := #[] }
def k7m6 : Method := { name := "valueOf", desc := "(C)Ljava/lang/String;", sig := { parameters := [.char], returnType := some (.object "java/lang/String") }, accessFlags := 9, code := some k7c6 }
def k7c7 : Code := { maxStack := 5, maxLocals := 4, code := jdk_42_method_147_code, exceptionTable := #[], attributes := #[] }
def k7m7 : Method := { name := "getBytes", desc := "([BIB)V", sig := { parameters := [(.array .byte), .int, .byte], returnType := none }, accessFlags := 0, code := some k7c7 }
def k7c8 : Code := { maxStack := 4, maxLocals := 6, code := jdk_42_method_149_code, exceptionTable := #[], attributes := #[] }
def k7m8 : Method := { name := "<init>", desc := "([CIILjava/lang/Void;)V", sig := { parameters := [(.array .char), .int, .int, (.object "java/lang/Void")], returnType := none }, accessFlags := 2, code := some k7c8 }
def k7c9 : Code := { maxStack := 5, maxLocals := 5, code := jdk_42_method_150_code, exceptionTable := #[], attributes := #[] }
def k7m9 : Method := { name := "<init>", desc := "(Ljava/lang/AbstractStringBuilder;Ljava/lang/Void;)V", sig := { parameters := [(.object "java/lang/AbstractStringBuilder"), (.object "java/lang/Void")], returnType := none }, accessFlags := 0, code := some k7c9 }
def k7c10 : Code := { maxStack := 2, maxLocals := 3, code := jdk_42_method_151_code, exceptionTable := #[], attributes := #[] }
def k7m10 : Method := { name := "<init>", desc := "([BB)V", sig := { parameters := [(.array .byte), .byte], returnType := none }, accessFlags := 0, code := some k7c10 }
def k7c11 : Code := { maxStack := 1, maxLocals := 1, code := jdk_42_method_152_code, exceptionTable := #[], attributes := #[] }
def k7m11 : Method := { name := "coder", desc := "()B", sig := { parameters := [], returnType := some .byte }, accessFlags := 0, code := some k7c11 }
def k7c12 : Code := { maxStack := 1, maxLocals := 1, code := jdk_42_method_154_code, exceptionTable := #[], attributes := #[] }
def k7m12 : Method := { name := "isLatin1", desc := "()Z", sig := { parameters := [], returnType := some .boolean }, accessFlags := 0, code := some k7c12 }
def k7c13 : Code := { maxStack := 3, maxLocals := 2, code := jdk_42_method_155_code, exceptionTable := #[], attributes := #[] }
def k7m13 : Method := { name := "checkIndex", desc := "(II)V", sig := { parameters := [.int, .int], returnType := none }, accessFlags := 8, code := some k7c13 }
/-- java/lang/String -/
def k7 : Class := { plain "java/lang/String" (some 0) with
  accessFlags := 49
  interfaces := #[2, 3, 4, 5, 6]
  cf := some (fileOf pool7 10 #[.nestMembers #[1103]] #[{ accessFlags := 1, nameIndex := 5, descriptorIndex := 6, attributes := #[] }, { accessFlags := 1, nameIndex := 5, descriptorIndex := 1010, attributes := #[] }, { accessFlags := 1, nameIndex := 5, descriptorIndex := 1233, attributes := #[] }, { accessFlags := 1, nameIndex := 507, descriptorIndex := 334, attributes := #[] }, { accessFlags := 1, nameIndex := 497, descriptorIndex := 427, attributes := #[] }, { accessFlags := 1, nameIndex := 543, descriptorIndex := 573, attributes := #[] }, { accessFlags := 9, nameIndex := 782, descriptorIndex := 783, attributes := #[] }, { accessFlags := 0, nameIndex := 532, descriptorIndex := 821, attributes := #[] }, { accessFlags := 2, nameIndex := 5, descriptorIndex := 29, attributes := #[] }, { accessFlags := 0, nameIndex := 5, descriptorIndex := 491, attributes := #[] }, { accessFlags := 0, nameIndex := 5, descriptorIndex := 211, attributes := #[] }, { accessFlags := 0, nameIndex := 17, descriptorIndex := 337, attributes := #[] }, { accessFlags := 0, nameIndex := 494, descriptorIndex := 142, attributes := #[] }, { accessFlags := 8, nameIndex := 501, descriptorIndex := 391, attributes := #[] }] 49 2 #[1106, 1108, 575, 1110, 1112] #[{ accessFlags := 18, nameIndex := 13, descriptorIndex := 14, attributes := #[] }, { accessFlags := 18, nameIndex := 17, descriptorIndex := 18, attributes := #[] }, { accessFlags := 2, nameIndex := 21, descriptorIndex := 22, attributes := #[] }, { accessFlags := 2, nameIndex := 25, descriptorIndex := 26, attributes := #[] }, { accessFlags := 26, nameIndex := 1116, descriptorIndex := 1117, attributes := #[] }, { accessFlags := 24, nameIndex := 40, descriptorIndex := 26, attributes := #[] }, { accessFlags := 26, nameIndex := 1101, descriptorIndex := 1102, attributes := #[] }, { accessFlags := 26, nameIndex := 1121, descriptorIndex := 1122, attributes := #[] }, { accessFlags := 25, nameIndex := 599, descriptorIndex := 600, attributes := #[] }, { accessFlags := 24, nameIndex := 1125, descriptorIndex := 18, attributes := #[] }, { accessFlags := 24, nameIndex := 1127, descriptorIndex := 18, attributes := #[] }])
  fields := #[{ name := "value", type := (.array .byte), accessFlags := 18, slot := 0, constantValue := 0 }, { name := "coder", type := .byte, accessFlags := 18, slot := 1, constantValue := 0 }, { name := "hash", type := .int, accessFlags := 2, slot := 2, constantValue := 0 }, { name := "hashIsZero", type := .boolean, accessFlags := 2, slot := 3, constantValue := 0 }, { name := "serialVersionUID", type := .long, accessFlags := 26, slot := 0, constantValue := 0 }, { name := "COMPACT_STRINGS", type := .boolean, accessFlags := 24, slot := 1, constantValue := 0 }, { name := "serialPersistentFields", type := (.array (.object "java/io/ObjectStreamField")), accessFlags := 26, slot := 2, constantValue := 0 }, { name := "REPL", type := .char, accessFlags := 26, slot := 3, constantValue := 0 }, { name := "CASE_INSENSITIVE_ORDER", type := (.object "java/util/Comparator"), accessFlags := 25, slot := 4, constantValue := 0 }, { name := "LATIN1", type := .byte, accessFlags := 24, slot := 5, constantValue := 0 }, { name := "UTF16", type := .byte, accessFlags := 24, slot := 6, constantValue := 0 }]
  methods := #[k7m0, k7m1, k7m2, k7m3, k7m4, k7m5, k7m6, k7m7, k7m8, k7m9, k7m10, k7m11, k7m12, k7m13]
  instanceTypes := #[(.array .byte), .byte, .int, .boolean]
  staticTypes := #[.long, .boolean, (.array (.object "java/io/ObjectStreamField")), .char, (.object "java/util/Comparator"), .byte, .byte]
  resolved := Array.replicate 1451 none
  statics := some 0 }

def pool8 : Array CpInfo := pool [(1, .methodref 2 3), (0, .class_ 4), (0, .nameAndType 5 6), (0, u "java/lang/Object"), (0, u "<init>"), (0, u "()V"), (0, .fieldref 8 9), (0, .class_ 10), (0, .nameAndType 11 12), (0, u "com/example/sinete/sinete/pki/Verdict"), (0, u "reason"), (0, u "Ljava/lang/String;"), (0, .fieldref 8 14), (0, .nameAndType 15 16), (0, u "signatureChecks"), (0, u "I"), (0, .methodref 8 18), (0, .nameAndType 5 19), (0, u "(Ljava/lang/String;I)V"), (0, .string 11), (0, .methodref 22 23), (0, .class_ 24), (0, .nameAndType 25 26), (0, u "java/util/Objects"), (0, u "requireNonNull"), (0, u "(Ljava/lang/Object;Ljava/lang/String;)Ljava/lang/Object;"), (0, .class_ 28), (0, u "java/lang/String"), (0, .methodref 8 30), (0, .nameAndType 31 32), (0, u "isValid"), (0, u "()Z"), (1, u "VALID"), (0, .class_ 36), (0, u "java/lang/StringBuilder"), (0, .methodref 35 3), (0, .string 39), (0, u "INVALID: "), (0, .methodref 35 41), (0, .nameAndType 42 43), (0, u "append"), (0, u "(Ljava/lang/String;)Ljava/lang/StringBuilder;"), (0, .methodref 35 45), (0, .nameAndType 46 47), (0, u "toString"), (0, u "()Ljava/lang/String;"), (2, u "Lcom/example/sinete/sinete/pki/Verdict;"), (4, u "invalid"), (0, u "(Ljava/lang/String;)Lcom/example/sinete/sinete/pki/Verdict;"), (1, u "()I")] 3

def k8c0 : Code := { maxStack := 2, maxLocals := 3, code := prog_12_method_1_code, exceptionTable := #[], attributes := #[] }
def k8m0 : Method := { name := "<init>", desc := "(Ljava/lang/String;I)V", sig := { parameters := [(.object "java/lang/String"), .int], returnType := none }, accessFlags := 2, code := some k8c0 }
def k8c1 : Code := { maxStack := 4, maxLocals := 1, code := prog_12_method_3_code, exceptionTable := #[], attributes := #[] }
def k8m1 : Method := { name := "invalid", desc := "(Ljava/lang/String;)Lcom/example/sinete/sinete/pki/Verdict;", sig := { parameters := [(.object "java/lang/String")], returnType := some (.object "com/example/sinete/sinete/pki/Verdict") }, accessFlags := 9, code := some k8c1 }
def k8c2 : Code := { maxStack := 1, maxLocals := 1, code := prog_12_method_4_code, exceptionTable := #[], attributes := #[] }
def k8m2 : Method := { name := "isValid", desc := "()Z", sig := { parameters := [], returnType := some .boolean }, accessFlags := 1, code := some k8c2 }
def k8c3 : Code := { maxStack := 1, maxLocals := 1, code := prog_12_method_5_code, exceptionTable := #[], attributes := #[] }
def k8m3 : Method := { name := "reason", desc := "()Ljava/lang/String;", sig := { parameters := [], returnType := some (.object "java/lang/String") }, accessFlags := 1, code := some k8c3 }
def k8c4 : Code := { maxStack := 1, maxLocals := 1, code := prog_12_method_6_code, exceptionTable := #[], attributes := #[] }
def k8m4 : Method := { name := "signatureChecks", desc := "()I", sig := { parameters := [], returnType := some .int }, accessFlags := 1, code := some k8c4 }
def k8c5 : Code := { maxStack := 2, maxLocals := 1, code := prog_12_method_7_code, exceptionTable := #[], attributes := #[] }
def k8m5 : Method := { name := "toString", desc := "()Ljava/lang/String;", sig := { parameters := [], returnType := some (.object "java/lang/String") }, accessFlags := 1, code := some k8c5 }
/-- com/example/sinete/sinete/pki/Verdict -/
def k8 : Class := { plain "com/example/sinete/sinete/pki/Verdict" (some 0) with
  accessFlags := 49
  interfaces := #[]
  cf := some (fileOf pool8 8 #[] #[{ accessFlags := 2, nameIndex := 5, descriptorIndex := 19, attributes := #[] }, { accessFlags := 9, nameIndex := 55, descriptorIndex := 56, attributes := #[] }, { accessFlags := 1, nameIndex := 31, descriptorIndex := 32, attributes := #[] }, { accessFlags := 1, nameIndex := 11, descriptorIndex := 47, attributes := #[] }, { accessFlags := 1, nameIndex := 15, descriptorIndex := 58, attributes := #[] }, { accessFlags := 1, nameIndex := 46, descriptorIndex := 47, attributes := #[] }] 49 2 #[] #[{ accessFlags := 25, nameIndex := 34, descriptorIndex := 50, attributes := #[] }, { accessFlags := 18, nameIndex := 11, descriptorIndex := 12, attributes := #[] }, { accessFlags := 18, nameIndex := 15, descriptorIndex := 16, attributes := #[] }])
  fields := #[{ name := "VALID", type := (.object "com/example/sinete/sinete/pki/Verdict"), accessFlags := 25, slot := 0, constantValue := 0 }, { name := "reason", type := (.object "java/lang/String"), accessFlags := 18, slot := 0, constantValue := 0 }, { name := "signatureChecks", type := .int, accessFlags := 18, slot := 1, constantValue := 0 }]
  methods := #[k8m0, k8m1, k8m2, k8m3, k8m4, k8m5]
  instanceTypes := #[(.object "java/lang/String"), .int]
  staticTypes := #[(.object "com/example/sinete/sinete/pki/Verdict")]
  resolved := Array.replicate 62 none
  statics := none }

def pool9 : Array CpInfo := pool [(2, .class_ 4), (1, u "java/lang/Object"), (0, u "<init>"), (0, u "()V"), (35, .class_ 44), (1, u "java/util/Objects"), (0, u "requireNonNull"), (48, u "(Ljava/lang/Object;Ljava/lang/String;)Ljava/lang/Object;")] 89

def k9m0 : Method := { name := "<init>", desc := "()V", sig := { parameters := [], returnType := none }, accessFlags := 2, code := none }
def k9c1 : Code := { maxStack := 3, maxLocals := 2, code := jdk_31_method_11_code, exceptionTable := #[], attributes := #[] }
def k9m1 : Method := { name := "requireNonNull", desc := "(Ljava/lang/Object;Ljava/lang/String;)Ljava/lang/Object;", sig := { parameters := [(.object "java/lang/Object"), (.object "java/lang/String")], returnType := some (.object "java/lang/Object") }, accessFlags := 9, code := some k9c1 }
/-- java/util/Objects -/
def k9 : Class := { plain "java/util/Objects" (some 0) with
  accessFlags := 49
  interfaces := #[]
  cf := some (fileOf pool9 42 #[] #[{ accessFlags := 2, nameIndex := 5, descriptorIndex := 6, attributes := #[] }, { accessFlags := 9, nameIndex := 45, descriptorIndex := 94, attributes := #[] }] 49 2 #[] #[])
  fields := #[]
  methods := #[k9m0, k9m1]
  instanceTypes := #[]
  staticTypes := #[]
  resolved := Array.replicate 184 none
  statics := none }

def pool10 : Array CpInfo := pool [(1, .class_ 2), (0, u "java/lang/Appendable"), (0, .class_ 4), (0, u "java/lang/Object")] 9

/-- java/lang/Appendable -/
def k10 : Class := { plain "java/lang/Appendable" (some 0) with
  accessFlags := 1537
  interfaces := #[]
  cf := some (fileOf pool10 1 #[] #[] 1537 3 #[] #[])
  fields := #[]
  methods := #[]
  instanceTypes := #[]
  staticTypes := #[]
  resolved := Array.replicate 14 none
  statics := none }

def pool11 : Array CpInfo := pool [(1, .class_ 2), (0, u "java/lang/String"), (0, .methodref 4 5), (0, .class_ 6), (0, .nameAndType 7 8), (0, u "java/lang/Object"), (0, u "<init>"), (0, u "()V"), (1, .class_ 12), (1, u "java/lang/AbstractStringBuilder"), (0, u "EMPTYVALUE"), (0, u "[B"), (0, .fieldref 10 16), (0, .nameAndType 17 14), (0, u "value"), (0, .fieldref 1 19), (0, .nameAndType 20 21), (0, u "COMPACT_STRINGS"), (0, u "Z"), (0, .fieldref 10 23), (0, .nameAndType 24 25), (0, u "coder"), (0, u "B"), (6, .methodref 1 33), (0, .nameAndType 34 35), (0, u "length"), (0, u "()I"), (4, .methodref 1 41), (0, .nameAndType 24 42), (0, u "()B"), (2, u "append"), (0, u "(Ljava/lang/String;)Ljava/lang/AbstractStringBuilder;"), (1, .class_ 49), (0, u "java/lang/CharSequence"), (19, u "(Ljava/lang/String;)V"), (5, u "maybeLatin1"), (3, .fieldref 10 80), (0, .nameAndType 81 82), (0, u "count"), (0, u "I"), (2, u "isLatin1"), (0, u "()Z"), (13, .methodref 10 101), (0, .nameAndType 102 103), (0, u "ensureCapacityInternal"), (0, u "(I)V"), (104, .methodref 10 209), (0, .nameAndType 210 211), (0, u "putStringAt"), (0, u "(ILjava/lang/String;)V"), (5, u "inflateIfNeededFor"), (2, .nameAndType 221 222), (0, u "getBytes"), (0, u "([BIB)V"), (174, .methodref 10 398), (0, .nameAndType 217 69), (0, .methodref 1 220), (3, u "()[B"), (40, .class_ 445), (0, u "java/lang/Appendable"), (106, u "getValue")] 56

def k11m0 : Method := { name := "<init>", desc := "()V", sig := { parameters := [], returnType := none }, accessFlags := 0, code := none }
def k11c1 : Code := { maxStack := 2, maxLocals := 2, code := jdk_68_method_2_code, exceptionTable := #[], attributes := #[] }
def k11m1 : Method := { name := "<init>", desc := "(I)V", sig := { parameters := [.int], returnType := none }, accessFlags := 0, code := some k11c1 }
def k11c2 : Code := { maxStack := 1, maxLocals := 1, code := jdk_68_method_6_code, exceptionTable := #[], attributes := #[] }
def k11m2 : Method := { name := "length", desc := "()I", sig := { parameters := [], returnType := some .int }, accessFlags := 1, code := some k11c2 }
def k11c3 : Code := { maxStack := 4, maxLocals := 3, code := jdk_68_method_9_code, exceptionTable := #[], attributes := #[] }
def k11m3 : Method := { name := "ensureCapacityInternal", desc := "(I)V", sig := { parameters := [.int], returnType := none }, accessFlags := 2, code := some k11c3 }
def k11c4 : Code := { maxStack := 3, maxLocals := 3, code := jdk_68_method_22_code, exceptionTable := #[], attributes := #[] }
def k11m4 : Method := { name := "append", desc := "(Ljava/lang/String;)Ljava/lang/AbstractStringBuilder;", sig := { parameters := [(.object "java/lang/String")], returnType := some (.object "java/lang/AbstractStringBuilder") }, accessFlags := 1, code := some k11c4 }
def k11c5 : Code := { maxStack := 1, maxLocals := 1, code := jdk_68_method_64_code, exceptionTable := #[], attributes := #[] }
def k11m5 : Method := { name := "getValue", desc := "()[B", sig := { parameters := [], returnType := some (.array .byte) }, accessFlags := 16, code := some k11c5 }
def k11c6 : Code := { maxStack := 1, maxLocals := 1, code := jdk_68_method_68_code, exceptionTable := #[], attributes := #[] }
def k11m6 : Method := { name := "isLatin1", desc := "()Z", sig := { parameters := [], returnType := some .boolean }, accessFlags := 16, code := some k11c6 }
def k11c7 : Code := { maxStack := 2, maxLocals := 2, code := jdk_68_method_71_code, exceptionTable := #[], attributes := #[] }
def k11m7 : Method := { name := "inflateIfNeededFor", desc := "(Ljava/lang/String;)V", sig := { parameters := [(.object "java/lang/String")], returnType := none }, accessFlags := 2, code := some k11c7 }
def k11c8 : Code := { maxStack := 4, maxLocals := 3, code := jdk_68_method_73_code, exceptionTable := #[], attributes := #[] }
def k11m8 : Method := { name := "putStringAt", desc := "(ILjava/lang/String;)V", sig := { parameters := [.int, (.object "java/lang/String")], returnType := none }, accessFlags := 2, code := some k11c8 }
/-- java/lang/AbstractStringBuilder -/
def k11 : Class := { plain "java/lang/AbstractStringBuilder" (some 0) with
  accessFlags := 1056
  interfaces := #[10, 4]
  cf := some (fileOf pool11 10 #[] #[{ accessFlags := 0, nameIndex := 7, descriptorIndex := 8, attributes := #[] }, { accessFlags := 0, nameIndex := 7, descriptorIndex := 103, attributes := #[] }, { accessFlags := 1, nameIndex := 34, descriptorIndex := 35, attributes := #[] }, { accessFlags := 2, nameIndex := 102, descriptorIndex := 103, attributes := #[] }, { accessFlags := 1, nameIndex := 45, descriptorIndex := 46, attributes := #[] }, { accessFlags := 16, nameIndex := 552, descriptorIndex := 403, attributes := #[] }, { accessFlags := 16, nameIndex := 85, descriptorIndex := 86, attributes := #[] }, { accessFlags := 2, nameIndex := 217, descriptorIndex := 69, attributes := #[] }, { accessFlags := 2, nameIndex := 210, descriptorIndex := 211, attributes := #[] }] 1056 4 #[444, 48] #[{ accessFlags := 0, nameIndex := 17, descriptorIndex := 14, attributes := #[] }, { accessFlags := 0, nameIndex := 24, descriptorIndex := 25, attributes := #[] }, { accessFlags := 0, nameIndex := 75, descriptorIndex := 21, attributes := #[] }, { accessFlags := 0, nameIndex := 81, descriptorIndex := 82, attributes := #[] }, { accessFlags := 26, nameIndex := 13, descriptorIndex := 14, attributes := #[] }])
  fields := #[{ name := "value", type := (.array .byte), accessFlags := 0, slot := 0, constantValue := 0 }, { name := "coder", type := .byte, accessFlags := 0, slot := 1, constantValue := 0 }, { name := "maybeLatin1", type := .boolean, accessFlags := 0, slot := 2, constantValue := 0 }, { name := "count", type := .int, accessFlags := 0, slot := 3, constantValue := 0 }, { name := "EMPTYVALUE", type := (.array .byte), accessFlags := 26, slot := 0, constantValue := 0 }]
  methods := #[k11m0, k11m1, k11m2, k11m3, k11m4, k11m5, k11m6, k11m7, k11m8]
  instanceTypes := #[(.array .byte), .byte, .boolean, .int]
  staticTypes := #[(.array .byte)]
  resolved := Array.replicate 609 none
  statics := none }

def pool12 : Array CpInfo := pool [(1, .methodref 2 3), (0, .class_ 4), (0, .nameAndType 5 6), (0, u "java/lang/AbstractStringBuilder"), (0, u "<init>"), (0, u "(I)V"), (11, .class_ 20), (1, u "java/lang/String"), (3, .class_ 26), (1, u "java/lang/StringBuilder"), (0, u "append"), (0, u "(Ljava/lang/String;)Ljava/lang/StringBuilder;"), (0, .methodref 2 30), (0, .nameAndType 27 31), (0, u "(Ljava/lang/String;)Ljava/lang/AbstractStringBuilder;"), (105, .methodref 18 138), (0, .nameAndType 5 139), (0, u "(Ljava/lang/StringBuilder;)V"), (5, u "()V"), (10, u "()I"), (186, .methodref 2 344), (0, .nameAndType 345 156), (0, u "length"), (3, .class_ 350), (0, u "java/lang/Appendable"), (0, .class_ 352), (0, u "java/io/Serializable"), (0, .class_ 354), (0, u "java/lang/Comparable"), (0, .class_ 356), (0, u "java/lang/CharSequence"), (0, u "serialVersionUID"), (0, u "J"), (40, u "toString"), (0, u "()Ljava/lang/String;")] 21

def k12c0 : Code := { maxStack := 2, maxLocals := 1, code := jdk_67_method_1_code, exceptionTable := #[], attributes := #[] }
def k12m0 : Method := { name := "<init>", desc := "()V", sig := { parameters := [], returnType := none }, accessFlags := 1, code := some k12c0 }
def k12c1 : Code := { maxStack := 2, maxLocals := 2, code := jdk_67_method_7_code, exceptionTable := #[], attributes := #[] }
def k12m1 : Method := { name := "append", desc := "(Ljava/lang/String;)Ljava/lang/StringBuilder;", sig := { parameters := [(.object "java/lang/String")], returnType := some (.object "java/lang/StringBuilder") }, accessFlags := 1, code := some k12c1 }
def k12c2 : Code := { maxStack := 3, maxLocals := 1, code := jdk_67_method_42_code, exceptionTable := #[], attributes := #[] }
def k12m2 : Method := { name := "toString", desc := "()Ljava/lang/String;", sig := { parameters := [], returnType := some (.object "java/lang/String") }, accessFlags := 1, code := some k12c2 }
def k12c3 : Code := { maxStack := 1, maxLocals := 1, code := jdk_67_method_93_code, exceptionTable := #[], attributes := #[] }
def k12m3 : Method := { name := "length", desc := "()I", sig := { parameters := [], returnType := some .int }, accessFlags := 4161, code := some k12c3 }
/-- java/lang/StringBuilder -/
def k12 : Class := { plain "java/lang/StringBuilder" (some 11) with
  accessFlags := 49
  interfaces := #[10, 2, 3, 4]
  cf := some (fileOf pool12 24 #[] #[{ accessFlags := 1, nameIndex := 5, descriptorIndex := 145, attributes := #[] }, { accessFlags := 1, nameIndex := 27, descriptorIndex := 28, attributes := #[] }, { accessFlags := 1, nameIndex := 399, descriptorIndex := 400, attributes := #[] }, { accessFlags := 4161, nameIndex := 345, descriptorIndex := 156, attributes := #[] }] 49 2 #[349, 351, 353, 355] #[{ accessFlags := 24, nameIndex := 357, descriptorIndex := 358, attributes := #[] }])
  fields := #[{ name := "serialVersionUID", type := .long, accessFlags := 24, slot := 0, constantValue := 0 }]
  methods := #[k12m0, k12m1, k12m2, k12m3]
  instanceTypes := #[(.array .byte), .byte, .boolean, .int]
  staticTypes := #[.long]
  resolved := Array.replicate 422 none
  statics := none }

def pool13 : Array CpInfo := pool [(2, .class_ 4), (1, u "java/lang/Object"), (0, u "<init>"), (0, u "()V"), (1, .class_ 10), (1, u "java/lang/System"), (0, u "allowSecurityManager"), (0, u "I"), (16, u "cons"), (0, u "Ljava/io/Console;"), (77, .class_ 110), (1, u "java/lang/System$CallersHolder"), (43, u "initialErrStream"), (0, u "Ljava/io/PrintStream;"), (19, u "security"), (0, u "Ljava/lang/SecurityManager;"), (31, .class_ 209), (0, u "java/lang/System$1"), (7, u "props"), (0, u "Ljava/util/Properties;"), (2, u "lineSeparator"), (0, u "Ljava/lang/String;"), (96, .class_ 321), (1, u "java/lang/System$LoggerFinder"), (5, .class_ 328), (0, u "java/lang/System$Logger"), (67, u "err"), (2, u "out"), (91, u "notSupportedJnuEncoding"), (15, u "in"), (17, u "initialIn"), (0, u "Ljava/io/InputStream;"), (35, u "bootLayer"), (0, u "Ljava/lang/ModuleLayer;"), (99, .class_ 664), (0, u "java/lang/System$2"), (9, u "NEVER"), (2, u "MAYBE"), (49, u "arraycopy"), (0, u "(Ljava/lang/Object;ILjava/lang/Object;II)V"), (72, .class_ 802), (0, u "java/lang/System$Logger$Level")] 31

def k13m0 : Method := { name := "<init>", desc := "()V", sig := { parameters := [], returnType := none }, accessFlags := 2, code := none }
def k13m1 : Method := { name := "arraycopy", desc := "(Ljava/lang/Object;ILjava/lang/Object;II)V", sig := { parameters := [(.object "java/lang/Object"), .int, (.object "java/lang/Object"), .int, .int], returnType := none }, accessFlags := 265, code := none }
/-- java/lang/System -/
def k13 : Class := { plain "java/lang/System" (some 0) with
  accessFlags := 49
  interfaces := #[]
  cf := some (fileOf pool13 8 #[.nestMembers #[319, 327, 801, 108, 663, 208]] #[{ accessFlags := 2, nameIndex := 5, descriptorIndex := 6, attributes := #[] }, { accessFlags := 265, nameIndex := 727, descriptorIndex := 728, attributes := #[] }] 49 2 #[] #[{ accessFlags := 25, nameIndex := 507, descriptorIndex := 526, attributes := #[] }, { accessFlags := 25, nameIndex := 399, descriptorIndex := 155, attributes := #[] }, { accessFlags := 25, nameIndex := 396, descriptorIndex := 155, attributes := #[] }, { accessFlags := 10, nameIndex := 525, descriptorIndex := 526, attributes := #[] }, { accessFlags := 26, nameIndex := 674, descriptorIndex := 12, attributes := #[] }, { accessFlags := 26, nameIndex := 677, descriptorIndex := 12, attributes := #[] }, { accessFlags := 10, nameIndex := 11, descriptorIndex := 12, attributes := #[] }, { accessFlags := 74, nameIndex := 175, descriptorIndex := 176, attributes := #[] }, { accessFlags := 10, nameIndex := 491, descriptorIndex := 222, attributes := #[] }, { accessFlags := 74, nameIndex := 29, descriptorIndex := 30, attributes := #[] }, { accessFlags := 74, nameIndex := 154, descriptorIndex := 155, attributes := #[] }, { accessFlags := 10, nameIndex := 217, descriptorIndex := 218, attributes := #[] }, { accessFlags := 10, nameIndex := 221, descriptorIndex := 222, attributes := #[] }, { accessFlags := 8, nameIndex := 562, descriptorIndex := 563, attributes := #[] }])
  fields := #[{ name := "in", type := (.object "java/io/InputStream"), accessFlags := 25, slot := 0, constantValue := 0 }, { name := "out", type := (.object "java/io/PrintStream"), accessFlags := 25, slot := 1, constantValue := 0 }, { name := "err", type := (.object "java/io/PrintStream"), accessFlags := 25, slot := 2, constantValue := 0 }, { name := "initialIn", type := (.object "java/io/InputStream"), accessFlags := 10, slot := 3, constantValue := 0 }, { name := "NEVER", type := .int, accessFlags := 26, slot := 4, constantValue := 0 }, { name := "MAYBE", type := .int, accessFlags := 26, slot := 5, constantValue := 0 }, { name := "allowSecurityManager", type := .int, accessFlags := 10, slot := 6, constantValue := 0 }, { name := "security", type := (.object "java/lang/SecurityManager"), accessFlags := 74, slot := 7, constantValue := 0 }, { name := "notSupportedJnuEncoding", type := (.object "java/lang/String"), accessFlags := 10, slot := 8, constantValue := 0 }, { name := "cons", type := (.object "java/io/Console"), accessFlags := 74, slot := 9, constantValue := 0 }, { name := "initialErrStream", type := (.object "java/io/PrintStream"), accessFlags := 74, slot := 10, constantValue := 0 }, { name := "props", type := (.object "java/util/Properties"), accessFlags := 10, slot := 11, constantValue := 0 }, { name := "lineSeparator", type := (.object "java/lang/String"), accessFlags := 10, slot := 12, constantValue := 0 }, { name := "bootLayer", type := (.object "java/lang/ModuleLayer"), accessFlags := 8, slot := 13, constantValue := 0 }]
  methods := #[k13m0, k13m1]
  instanceTypes := #[]
  staticTypes := #[(.object "java/io/InputStream"), (.object "java/io/PrintStream"), (.object "java/io/PrintStream"), (.object "java/io/InputStream"), .int, .int, .int, (.object "java/lang/SecurityManager"), (.object "java/lang/String"), (.object "java/io/Console"), (.object "java/io/PrintStream"), (.object "java/util/Properties"), (.object "java/lang/String"), (.object "java/lang/ModuleLayer")]
  resolved := Array.replicate 834 none
  statics := none }

def pool14 : Array CpInfo := pool [(2, .class_ 4), (1, u "java/lang/Object"), (0, u "<init>"), (0, u "()V"), (7, .class_ 16), (1, u "java/util/Arrays"), (57, .class_ 76), (1, u "java/util/Arrays$NaturalOrder"), (36, .class_ 115), (1, u "java/util/Arrays$LegacyMergeSort"), (1, u "Z"), (21, u "copyOfRange"), (10, .methodref 151 152), (0, .class_ 153), (0, .nameAndType 154 155), (0, u "java/lang/System"), (0, u "arraycopy"), (0, u "(Ljava/lang/Object;ILjava/lang/Object;II)V"), (148, .methodref 305 306), (0, .class_ 307), (0, .nameAndType 308 309), (0, u "java/lang/Math"), (0, u "min"), (0, u "(II)I"), (29, .methodref 14 340), (0, .nameAndType 341 342), (0, u "copyOfRangeByte"), (0, u "([BII)[B"), (0, .methodref 14 344), (0, .nameAndType 345 346), (0, u "checkLength"), (0, u "(II)V"), (28, .class_ 376), (0, u "java/util/Arrays$ArrayList"), (68, u "$assertionsDisabled"), (269, u "MIN_ARRAY_SORT_GRAN"), (0, u "I"), (2, u "INSERTIONSORT_THRESHOLD"), (255, .class_ 976), (0, u "java/util/Arrays$ArrayItr")] 52

def k14m0 : Method := { name := "<init>", desc := "()V", sig := { parameters := [], returnType := none }, accessFlags := 2, code := none }
def k14c1 : Code := { maxStack := 4, maxLocals := 2, code := jdk_65_method_131_code, exceptionTable := #[], attributes := #[] }
def k14m1 : Method := { name := "checkLength", desc := "(II)V", sig := { parameters := [.int, .int], returnType := none }, accessFlags := 10, code := some k14c1 }
def k14c2 : Code := { maxStack := 3, maxLocals := 3, code := jdk_65_method_132_code, exceptionTable := #[], attributes := #[] }
def k14m2 : Method := { name := "copyOfRange", desc := "([BII)[B", sig := { parameters := [(.array .byte), .int, .int], returnType := some (.array .byte) }, accessFlags := 9, code := some k14c2 }
def k14c3 : Code := { maxStack := 6, maxLocals := 5, code := jdk_65_method_133_code, exceptionTable := #[], attributes := #[] }
def k14m3 : Method := { name := "copyOfRangeByte", desc := "([BII)[B", sig := { parameters := [(.array .byte), .int, .int], returnType := some (.array .byte) }, accessFlags := 10, code := some k14c3 }
/-- java/util/Arrays -/
def k14 : Class := { plain "java/util/Arrays" (some 0) with
  accessFlags := 49
  interfaces := #[]
  cf := some (fileOf pool14 14 #[.nestMembers #[975, 375, 113, 74]] #[{ accessFlags := 2, nameIndex := 5, descriptorIndex := 6, attributes := #[] }, { accessFlags := 10, nameIndex := 345, descriptorIndex := 346, attributes := #[] }, { accessFlags := 9, nameIndex := 139, descriptorIndex := 342, attributes := #[] }, { accessFlags := 10, nameIndex := 341, descriptorIndex := 342, attributes := #[] }] 49 2 #[] #[{ accessFlags := 26, nameIndex := 715, descriptorIndex := 716, attributes := #[] }, { accessFlags := 26, nameIndex := 719, descriptorIndex := 716, attributes := #[] }, { accessFlags := 4120, nameIndex := 445, descriptorIndex := 117, attributes := #[] }])
  fields := #[{ name := "MIN_ARRAY_SORT_GRAN", type := .int, accessFlags := 26, slot := 0, constantValue := 0 }, { name := "INSERTIONSORT_THRESHOLD", type := .int, accessFlags := 26, slot := 1, constantValue := 0 }, { name := "$assertionsDisabled", type := .boolean, accessFlags := 4120, slot := 2, constantValue := 0 }]
  methods := #[k14m0, k14m1, k14m2, k14m3]
  instanceTypes := #[]
  staticTypes := #[.int, .int, .boolean]
  resolved := Array.replicate 1029 none
  statics := none }

def pool15 : Array CpInfo := pool [(1, .class_ 2), (0, u "java/lang/Math"), (1, .class_ 6), (1, u "java/lang/Object"), (0, u "<init>"), (0, u "()V"), (89, .class_ 100), (1, u "java/lang/Math$RandomNumberGeneratorHolder"), (71, u "negativeZeroFloatBits"), (0, u "J"), (2, u "negativeZeroDoubleBits"), (24, u "min"), (43, u "$assertionsDisabled"), (0, u "Z"), (88, u "(II)I"), (2, u "twoToTheDoubleScaleDown"), (0, u "D"), (4, u "twoToTheDoubleScaleUp"), (9, u "E"), (3, u "PI"), (2, u "TAU"), (2, u "DEGREES_TO_RADIANS"), (0, u "RADIANS_TO_DEGREES")] 94

def k15m0 : Method := { name := "<init>", desc := "()V", sig := { parameters := [], returnType := none }, accessFlags := 2, code := none }
def k15c1 : Code := { maxStack := 2, maxLocals := 2, code := jdk_29_method_69_code, exceptionTable := #[], attributes := #[] }
def k15m1 : Method := { name := "min", desc := "(II)I", sig := { parameters := [.int, .int], returnType := some .int }, accessFlags := 9, code := some k15c1 }
/-- java/lang/Math -/
def k15 : Class := { plain "java/lang/Math" (some 0) with
  accessFlags := 49
  interfaces := #[]
  cf := some (fileOf pool15 1 #[.nestMembers #[98]] #[{ accessFlags := 2, nameIndex := 7, descriptorIndex := 8, attributes := #[] }, { accessFlags := 9, nameIndex := 201, descriptorIndex := 335, attributes := #[] }] 49 4 #[] #[{ accessFlags := 25, nameIndex := 354, descriptorIndex := 339, attributes := #[] }, { accessFlags := 25, nameIndex := 358, descriptorIndex := 339, attributes := #[] }, { accessFlags := 25, nameIndex := 361, descriptorIndex := 339, attributes := #[] }, { accessFlags := 26, nameIndex := 364, descriptorIndex := 339, attributes := #[] }, { accessFlags := 26, nameIndex := 365, descriptorIndex := 339, attributes := #[] }, { accessFlags := 26, nameIndex := 172, descriptorIndex := 173, attributes := #[] }, { accessFlags := 26, nameIndex := 176, descriptorIndex := 173, attributes := #[] }, { accessFlags := 8, nameIndex := 344, descriptorIndex := 339, attributes := #[] }, { accessFlags := 8, nameIndex := 338, descriptorIndex := 339, attributes := #[] }, { accessFlags := 4120, nameIndex := 245, descriptorIndex := 246, attributes := #[] }])
  fields := #[{ name := "E", type := .double, accessFlags := 25, slot := 0, constantValue := 0 }, { name := "PI", type := .double, accessFlags := 25, slot := 1, constantValue := 0 }, { name := "TAU", type := .double, accessFlags := 25, slot := 2, constantValue := 0 }, { name := "DEGREES_TO_RADIANS", type := .double, accessFlags := 26, slot := 3, constantValue := 0 }, { name := "RADIANS_TO_DEGREES", type := .double, accessFlags := 26, slot := 4, constantValue := 0 }, { name := "negativeZeroFloatBits", type := .long, accessFlags := 26, slot := 5, constantValue := 0 }, { name := "negativeZeroDoubleBits", type := .long, accessFlags := 26, slot := 6, constantValue := 0 }, { name := "twoToTheDoubleScaleUp", type := .double, accessFlags := 8, slot := 7, constantValue := 0 }, { name := "twoToTheDoubleScaleDown", type := .double, accessFlags := 8, slot := 8, constantValue := 0 }, { name := "$assertionsDisabled", type := .boolean, accessFlags := 4120, slot := 9, constantValue := 0 }]
  methods := #[k15m0, k15m1]
  instanceTypes := #[]
  staticTypes := #[.double, .double, .double, .double, .double, .long, .long, .double, .double, .boolean]
  resolved := Array.replicate 460 none
  statics := none }

def pool16 : Array CpInfo := pool [(1, .class_ 2), (0, u "java/lang/String"), (1, .class_ 6), (1, u "java/lang/Object"), (0, u "<init>"), (0, u "()V"), (0, .methodref 1 10), (0, .nameAndType 11 12), (0, u "checkIndex"), (0, u "(II)V"), (1, .class_ 16), (1, u "java/lang/StringLatin1"), (36, u "([BI)C"), (36, u "canEncode"), (14, u "(C)Z"), (15, u "$assertionsDisabled"), (0, u "Z"), (98, .class_ 223), (1, u "java/lang/StringLatin1$LinesSpliterator"), (28, u "charAt"), (28, u "equals"), (0, u "([B[B)Z"), (97, u "toBytes"), (1, u "(C)[B"), (7, .class_ 391), (0, u "java/lang/StringLatin1$CharsSpliterator")] 3

def k16m0 : Method := { name := "<init>", desc := "()V", sig := { parameters := [], returnType := none }, accessFlags := 0, code := none }
def k16c1 : Code := { maxStack := 2, maxLocals := 2, code := jdk_43_method_2_code, exceptionTable := #[], attributes := #[] }
def k16m1 : Method := { name := "charAt", desc := "([BI)C", sig := { parameters := [(.array .byte), .int], returnType := some .char }, accessFlags := 9, code := some k16c1 }
def k16c2 : Code := { maxStack := 2, maxLocals := 1, code := jdk_43_method_3_code, exceptionTable := #[], attributes := #[] }
def k16m2 : Method := { name := "canEncode", desc := "(C)Z", sig := { parameters := [.char], returnType := some .boolean }, accessFlags := 9, code := some k16c2 }
def k16c3 : Code := { maxStack := 3, maxLocals := 3, code := jdk_43_method_13_code, exceptionTable := #[], attributes := #[] }
def k16m3 : Method := { name := "equals", desc := "([B[B)Z", sig := { parameters := [(.array .byte), (.array .byte)], returnType := some .boolean }, accessFlags := 9, code := some k16c3 }
def k16c4 : Code := { maxStack := 4, maxLocals := 1, code := jdk_43_method_46_code, exceptionTable := #[], attributes := #[] }
def k16m4 : Method := { name := "toBytes", desc := "(C)[B", sig := { parameters := [.char], returnType := some (.array .byte) }, accessFlags := 9, code := some k16c4 }
/-- java/lang/StringLatin1 -/
def k16 : Class := { plain "java/lang/StringLatin1" (some 0) with
  accessFlags := 48
  interfaces := #[]
  cf := some (fileOf pool16 14 #[.nestMembers #[390, 221]] #[{ accessFlags := 0, nameIndex := 7, descriptorIndex := 8, attributes := #[] }, { accessFlags := 9, nameIndex := 252, descriptorIndex := 53, attributes := #[] }, { accessFlags := 9, nameIndex := 90, descriptorIndex := 105, attributes := #[] }, { accessFlags := 9, nameIndex := 281, descriptorIndex := 282, attributes := #[] }, { accessFlags := 9, nameIndex := 380, descriptorIndex := 382, attributes := #[] }] 48 4 #[] #[{ accessFlags := 4120, nameIndex := 121, descriptorIndex := 122, attributes := #[] }])
  fields := #[{ name := "$assertionsDisabled", type := .boolean, accessFlags := 4120, slot := 0, constantValue := 0 }]
  methods := #[k16m0, k16m1, k16m2, k16m3, k16m4]
  instanceTypes := #[]
  staticTypes := #[.boolean]
  resolved := Array.replicate 395 none
  statics := none }

def pool17 : Array CpInfo := pool [(2, .class_ 4), (1, u "java/lang/Object"), (0, u "<init>"), (0, u "()V"), (17, .class_ 26), (1, u "jdk/internal/util/Preconditions"), (6, u "checkIndex"), (21, .class_ 56), (0, u "jdk/internal/util/Preconditions$4"), (57, .class_ 115), (0, u "jdk/internal/util/Preconditions$1"), (7, u "SIOOBE_FORMATTER"), (0, u "Ljava/util/function/BiFunction;"), (0, .class_ 126), (0, u "jdk/internal/util/Preconditions$2"), (3, u "AIOOBE_FORMATTER"), (0, .class_ 132), (0, u "jdk/internal/util/Preconditions$3"), (3, u "IOOBE_FORMATTER"), (41, u "(IILjava/util/function/BiFunction;)I")] 15

def k17m0 : Method := { name := "<init>", desc := "()V", sig := { parameters := [], returnType := none }, accessFlags := 1, code := none }
def k17c1 : Code := { maxStack := 3, maxLocals := 3, code := jdk_41_method_11_code, exceptionTable := #[], attributes := #[] }
def k17m1 : Method := { name := "checkIndex", desc := "(IILjava/util/function/BiFunction;)I", sig := { parameters := [.int, .int, (.object "java/util/function/BiFunction")], returnType := some .int }, accessFlags := 9, code := some k17c1 }
/-- jdk/internal/util/Preconditions -/
def k17 : Class := { plain "jdk/internal/util/Preconditions" (some 0) with
  accessFlags := 33
  interfaces := #[]
  cf := some (fileOf pool17 24 #[.nestMembers #[55, 131, 125, 114]] #[{ accessFlags := 1, nameIndex := 5, descriptorIndex := 6, attributes := #[] }, { accessFlags := 9, nameIndex := 33, descriptorIndex := 178, attributes := #[] }] 33 2 #[] #[{ accessFlags := 25, nameIndex := 123, descriptorIndex := 124, attributes := #[] }, { accessFlags := 25, nameIndex := 130, descriptorIndex := 124, attributes := #[] }, { accessFlags := 25, nameIndex := 136, descriptorIndex := 124, attributes := #[] }])
  fields := #[{ name := "SIOOBE_FORMATTER", type := (.object "java/util/function/BiFunction"), accessFlags := 25, slot := 0, constantValue := 0 }, { name := "AIOOBE_FORMATTER", type := (.object "java/util/function/BiFunction"), accessFlags := 25, slot := 1, constantValue := 0 }, { name := "IOOBE_FORMATTER", type := (.object "java/util/function/BiFunction"), accessFlags := 25, slot := 2, constantValue := 0 }]
  methods := #[k17m0, k17m1]
  instanceTypes := #[]
  staticTypes := #[(.object "java/util/function/BiFunction"), (.object "java/util/function/BiFunction"), (.object "java/util/function/BiFunction")]
  resolved := Array.replicate 194 none
  statics := some 1 }

def pool18 : Array CpInfo := pool [(6, .class_ 8), (1, u "java/lang/Object"), (0, u "<init>"), (0, u "()V"), (1, .class_ 14), (1, u "java/lang/StringUTF16"), (31, u "$assertionsDisabled"), (0, u "Z"), (13, u "HI_BYTE_SHIFT"), (0, u "I"), (2, u "LO_BYTE_SHIFT"), (49, .methodref 12 116), (0, .nameAndType 117 118), (0, u "compress"), (0, u "([CI[BII)I"), (3, u "([CII)[B"), (138, u "coderFromArrayLen"), (0, u "([BI)B"), (106, .class_ 371), (1, u "java/lang/StringUTF16$LinesSpliterator"), (58, u "MAX_LENGTH"), (196, .class_ 628), (0, u "java/lang/StringUTF16$CodePointsSpliterator"), (0, .class_ 630), (0, u "java/lang/StringUTF16$CharsSpliterator")] 4

def k18m0 : Method := { name := "<init>", desc := "()V", sig := { parameters := [], returnType := none }, accessFlags := 0, code := none }
def k18c1 : Code := { maxStack := 2, maxLocals := 2, code := jdk_52_method_15_code, exceptionTable := #[], attributes := #[] }
def k18m1 : Method := { name := "coderFromArrayLen", desc := "([BI)B", sig := { parameters := [(.array .byte), .int], returnType := some .byte }, accessFlags := 8, code := some k18c1 }
def k18c2 : Code := { maxStack := 5, maxLocals := 6, code := jdk_52_method_16_code, exceptionTable := #[], attributes := #[] }
def k18m2 : Method := { name := "compress", desc := "([CII)[B", sig := { parameters := [(.array .char), .int, .int], returnType := some (.array .byte) }, accessFlags := 9, code := some k18c2 }
def k18c3 : Code := { maxStack := 3, maxLocals := 7, code := jdk_52_method_21_code, exceptionTable := #[], attributes := #[] }
def k18m3 : Method := { name := "compress", desc := "([CI[BII)I", sig := { parameters := [(.array .char), .int, (.array .byte), .int, .int], returnType := some .int }, accessFlags := 9, code := some k18c3 }
/-- java/lang/StringUTF16 -/
def k18 : Class := { plain "java/lang/StringUTF16" (some 0) with
  accessFlags := 48
  interfaces := #[]
  cf := some (fileOf pool18 12 #[.nestMembers #[627, 629, 369]] #[{ accessFlags := 0, nameIndex := 9, descriptorIndex := 10, attributes := #[] }, { accessFlags := 8, nameIndex := 261, descriptorIndex := 262, attributes := #[] }, { accessFlags := 9, nameIndex := 117, descriptorIndex := 122, attributes := #[] }, { accessFlags := 9, nameIndex := 117, descriptorIndex := 118, attributes := #[] }] 48 6 #[] #[{ accessFlags := 26, nameIndex := 61, descriptorIndex := 62, attributes := #[] }, { accessFlags := 26, nameIndex := 65, descriptorIndex := 62, attributes := #[] }, { accessFlags := 24, nameIndex := 430, descriptorIndex := 62, attributes := #[] }, { accessFlags := 4120, nameIndex := 46, descriptorIndex := 47, attributes := #[] }])
  fields := #[{ name := "HI_BYTE_SHIFT", type := .int, accessFlags := 26, slot := 0, constantValue := 0 }, { name := "LO_BYTE_SHIFT", type := .int, accessFlags := 26, slot := 1, constantValue := 0 }, { name := "MAX_LENGTH", type := .int, accessFlags := 24, slot := 2, constantValue := 0 }, { name := "$assertionsDisabled", type := .boolean, accessFlags := 4120, slot := 3, constantValue := 0 }]
  methods := #[k18m0, k18m1, k18m2, k18m3]
  instanceTypes := #[]
  staticTypes := #[.int, .int, .int, .boolean]
  resolved := Array.replicate 635 none
  statics := none }

def pool19 : Array CpInfo := pool [(9, u "<init>"), (6, .class_ 18), (1, u "java/lang/Object"), (0, u "()V"), (1, .class_ 23), (1, u "jdk/internal/util/ArraysSupport"), (0, u "LOG2_ARRAY_LONG_INDEX_SCALE"), (0, u "I"), (2, u "U"), (0, u "Ljdk/internal/misc/Unsafe;"), (8, u "BIG_ENDIAN"), (0, u "Z"), (8, u "LOG2_BYTE_BIT_SIZE"), (4, u "LOG2_ARRAY_INT_INDEX_SCALE"), (54, u "JLA"), (0, u "Ljdk/internal/access/JavaLangAccess;"), (11, u "LOG2_ARRAY_BOOLEAN_INDEX_SCALE"), (9, u "LOG2_ARRAY_BYTE_INDEX_SCALE"), (5, u "LOG2_ARRAY_CHAR_INDEX_SCALE"), (5, u "LOG2_ARRAY_SHORT_INDEX_SCALE"), (18, u "LOG2_ARRAY_FLOAT_INDEX_SCALE"), (24, u "LOG2_ARRAY_DOUBLE_INDEX_SCALE"), (89, u "T_BOOLEAN"), (2, u "T_CHAR"), (1, u "T_FLOAT"), (1, u "T_DOUBLE"), (1, u "T_BYTE"), (1, u "T_SHORT"), (1, u "T_INT"), (1, u "T_LONG"), (1, u "SOFT_MAX_ARRAY_LENGTH")] 83

def k19m0 : Method := { name := "<init>", desc := "()V", sig := { parameters := [], returnType := none }, accessFlags := 2, code := none }
/-- jdk/internal/util/ArraysSupport -/
def k19 : Class := { plain "jdk/internal/util/ArraysSupport" (some 0) with
  accessFlags := 33
  interfaces := #[]
  cf := some (fileOf pool19 21 #[] #[{ accessFlags := 2, nameIndex := 9, descriptorIndex := 19, attributes := #[] }] 33 16 #[] #[{ accessFlags := 24, nameIndex := 28, descriptorIndex := 29, attributes := #[] }, { accessFlags := 26, nameIndex := 38, descriptorIndex := 39, attributes := #[] }, { accessFlags := 25, nameIndex := 121, descriptorIndex := 25, attributes := #[] }, { accessFlags := 25, nameIndex := 131, descriptorIndex := 25, attributes := #[] }, { accessFlags := 25, nameIndex := 137, descriptorIndex := 25, attributes := #[] }, { accessFlags := 25, nameIndex := 143, descriptorIndex := 25, attributes := #[] }, { accessFlags := 25, nameIndex := 53, descriptorIndex := 25, attributes := #[] }, { accessFlags := 25, nameIndex := 24, descriptorIndex := 25, attributes := #[] }, { accessFlags := 25, nameIndex := 162, descriptorIndex := 25, attributes := #[] }, { accessFlags := 25, nameIndex := 187, descriptorIndex := 25, attributes := #[] }, { accessFlags := 26, nameIndex := 48, descriptorIndex := 25, attributes := #[] }, { accessFlags := 25, nameIndex := 277, descriptorIndex := 25, attributes := #[] }, { accessFlags := 25, nameIndex := 280, descriptorIndex := 25, attributes := #[] }, { accessFlags := 25, nameIndex := 282, descriptorIndex := 25, attributes := #[] }, { accessFlags := 25, nameIndex := 284, descriptorIndex := 25, attributes := #[] }, { accessFlags := 25, nameIndex := 286, descriptorIndex := 25, attributes := #[] }, { accessFlags := 25, nameIndex := 288, descriptorIndex := 25, attributes := #[] }, { accessFlags := 25, nameIndex := 290, descriptorIndex := 25, attributes := #[] }, { accessFlags := 25, nameIndex := 292, descriptorIndex := 25, attributes := #[] }, { accessFlags := 26, nameIndex := 108, descriptorIndex := 109, attributes := #[] }, { accessFlags := 25, nameIndex := 294, descriptorIndex := 25, attributes := #[] }])
  fields := #[{ name := "U", type := (.object "jdk/internal/misc/Unsafe"), accessFlags := 24, slot := 0, constantValue := 0 }, { name := "BIG_ENDIAN", type := .boolean, accessFlags := 26, slot := 1, constantValue := 0 }, { name := "LOG2_ARRAY_BOOLEAN_INDEX_SCALE", type := .int, accessFlags := 25, slot := 2, constantValue := 0 }, { name := "LOG2_ARRAY_BYTE_INDEX_SCALE", type := .int, accessFlags := 25, slot := 3, constantValue := 0 }, { name := "LOG2_ARRAY_CHAR_INDEX_SCALE", type := .int, accessFlags := 25, slot := 4, constantValue := 0 }, { name := "LOG2_ARRAY_SHORT_INDEX_SCALE", type := .int, accessFlags := 25, slot := 5, constantValue := 0 }, { name := "LOG2_ARRAY_INT_INDEX_SCALE", type := .int, accessFlags := 25, slot := 6, constantValue := 0 }, { name := "LOG2_ARRAY_LONG_INDEX_SCALE", type := .int, accessFlags := 25, slot := 7, constantValue := 0 }, { name := "LOG2_ARRAY_FLOAT_INDEX_SCALE", type := .int, accessFlags := 25, slot := 8, constantValue := 0 }, { name := "LOG2_ARRAY_DOUBLE_INDEX_SCALE", type := .int, accessFlags := 25, slot := 9, constantValue := 0 }, { name := "LOG2_BYTE_BIT_SIZE", type := .int, accessFlags := 26, slot := 10, constantValue := 0 }, { name := "T_BOOLEAN", type := .int, accessFlags := 25, slot := 11, constantValue := 0 }, { name := "T_CHAR", type := .int, accessFlags := 25, slot := 12, constantValue := 0 }, { name := "T_FLOAT", type := .int, accessFlags := 25, slot := 13, constantValue := 0 }, { name := "T_DOUBLE", type := .int, accessFlags := 25, slot := 14, constantValue := 0 }, { name := "T_BYTE", type := .int, accessFlags := 25, slot := 15, constantValue := 0 }, { name := "T_SHORT", type := .int, accessFlags := 25, slot := 16, constantValue := 0 }, { name := "T_INT", type := .int, accessFlags := 25, slot := 17, constantValue := 0 }, { name := "T_LONG", type := .int, accessFlags := 25, slot := 18, constantValue := 0 }, { name := "JLA", type := (.object "jdk/internal/access/JavaLangAccess"), accessFlags := 26, slot := 19, constantValue := 0 }, { name := "SOFT_MAX_ARRAY_LENGTH", type := .int, accessFlags := 25, slot := 20, constantValue := 0 }]
  methods := #[k19m0]
  instanceTypes := #[]
  staticTypes := #[(.object "jdk/internal/misc/Unsafe"), .boolean, .int, .int, .int, .int, .int, .int, .int, .int, .int, .int, .int, .int, .int, .int, .int, .int, .int, (.object "jdk/internal/access/JavaLangAccess"), .int]
  resolved := Array.replicate 378 none
  statics := none }

def pool20 : Array CpInfo := pool [(1, u "java/lang/Cloneable"), (0, .class_ 1), (0, u "java/lang/Object"), (0, .class_ 3)] 3

/-- java/lang/Cloneable -/
def k20 : Class := { plain "java/lang/Cloneable" (some 0) with
  accessFlags := 1537
  interfaces := #[]
  cf := some (fileOf pool20 2 #[] #[] 1537 4 #[] #[])
  fields := #[]
  methods := #[]
  instanceTypes := #[]
  staticTypes := #[]
  resolved := Array.replicate 8 none
  statics := none }

/-- the primitive byte -/
def k21 : Class := { plain "byte" none with kind := .primitive 'B', accessFlags := 0x411 }
/-- [B -/
def k22 : Class := { plain "[B" (some 0) with kind := .array 21 .byte, interfaces := #[20, 2], accessFlags := 1041 }

/-- the primitive char -/
def k23 : Class := { plain "char" none with kind := .primitive 'C', accessFlags := 0x411 }
/-- [C -/
def k24 : Class := { plain "[C" (some 0) with kind := .array 23 .char, interfaces := #[20, 2], accessFlags := 1041 }

/-- the primitive int -/
def k25 : Class := { plain "int" none with kind := .primitive 'I', accessFlags := 0x411 }
/-- [I -/
def k26 : Class := { plain "[I" (some 0) with kind := .array 25 .int, interfaces := #[20, 2], accessFlags := 1041 }

def heap : Heap := #[{ cls := 7, slots := #[.long 0, .int 1, .null, .int 0, .null, .int 0, .int 0], vm := .statics 7 },
  { cls := 17, slots := #[.null, .null, .null], vm := .statics 17 }]
def classes : Array Class := #[k0, k1, k2, k3, k4, k5, k6, k7, k8, k9, k10, k11, k12, k13, k14, k15, k16, k17, k18, k19, k20, k21, k22, k23, k24, k25, k26]
def interned : List (Array UInt16 × Addr) := []
def slotsUsed : Nat := 10
def theMethod : MethodId := ⟨1, 1⟩
def args0 : Array Value := #[.int 2, .int 65, .int 66, .int 67]
def aboutOver (below : List Frame) : State where
  vm := { classes := classes, interned := interned.toArray }
  heap := heap
  slotsUsed := slotsUsed
  threads := #[{ frames := .invoking theMethod args0 :: below }]
def below0 : List Frame := [.native { method := ⟨0, 0⟩, args := #[] }]
def about1 : State := aboutOver below0
def p0 : Program := .bare "" "" ""
def e0 : Env := launch0.env 0 0 0
theorem w_frames : about1.frames = Frame.invoking theMethod args0 :: below0 := rfl
set_option maxRecDepth 65536 in
theorem w_args : argsFit about1.vm theMethod args0 = true := by decide +kernel
set_option maxRecDepth 65536 in
theorem w_heap : heapFits about1 = true := by decide +kernel
set_option maxRecDepth 65536 in
theorem w_runnable : about1.curStatus? = some .runnable := by decide +kernel
set_option maxRecDepth 65536 in
theorem w_alone : about1.alone = true := by decide +kernel
set_option maxRecDepth 65536 in
theorem w_named : about1.methodNamed? x = some theMethod := by decide +kernel
set_option maxRecDepth 65536 in
theorem w_hears : about1.hears theMethod below0 = true := by decide +kernel
set_option maxRecDepth 65536 in
theorem w_ripe : about1.ripe theMethod args0 below0 = true := by decide +kernel
theorem w_running : about1.status = .running := rfl
set_option maxRecDepth 65536 in
theorem w_room : about1.hasRoom e0.platform room_1 = true :=
  launch0.hasRoom_least _ room_1 (by decide +kernel) (by decide +kernel) (by decide +kernel) (by decide +kernel) (by decide +kernel) (by decide +kernel)
theorem allAtoms_all (ts : List Jvm.Cond) (a : Array Jvm.Value) (st : Jvm.State) : (allAtoms ts).before a st = ts.all (fun c => c.before a st) := by
  induction ts with
  | nil => rfl
  | cons c t ih =>
    show (Jvm.Cond.and c (allAtoms t)).before a st = _
    rw [Jvm.Cond.before_and, ih, List.all_cons]
def words1 : List Jvm.Cond := Jvm.Cond.code x code maxLocals ret :: tables_1
/-- a 'code' word, met by the world's own term for the bytes: nothing is compared byte by byte -/
theorem code_word {y : MethodName} {bytes : ByteArray} {mx : Nat} {rt : Option FieldType} {a : Array Value} {s : State} {m : MethodId} {meth : Method} {c : Code} (h1 : s.methodNamed? y = some m) (h2 : s.vm.method? m = some meth) (h3 : meth.code = some c) (h4 : c.code = bytes)
    (h5 : (c.maxLocals == mx && c.exceptionTable.isEmpty && decide (c.maxStack ≤ mostOperands) && decide (meth.sig.returnType = rt) && !meth.locks && decide (parseMethodDescriptor y.desc = some meth.sig)) = true) : (Jvm.Cond.code y bytes mx rt).before a s = true := by
  simp only [Bool.and_eq_true, beq_iff_eq, Bool.not_eq_true', decide_eq_true_eq] at h5
  obtain ⟨⟨⟨⟨⟨g1, g2⟩, g3⟩, g4⟩, g5⟩, g6⟩ := h5
  simp [Cond.before, Cond.holds, Cond.value, h1, h2, h3, h4, g1, g2, g3, g4, g5, g6]
def isCode : Jvm.Cond → Bool
  | .code _ _ _ _ => true
  | _ => false
theorem all_split {L : List Jvm.Cond} {P : Jvm.Cond → Bool} (h1 : L.all (fun c => isCode c || P c) = true) (h2 : ∀ c ∈ L.filter isCode, P c = true) : L.all P = true := by
  refine List.all_eq_true.mpr fun c hc => ?_
  have h := List.all_eq_true.mp h1 c hc
  rcases Bool.eq_false_or_eq_true (isCode c) with hi | hi
  · exact h2 c (List.mem_filter.mpr ⟨hc, hi⟩)
  · simpa [hi] using h
set_option maxRecDepth 65536 in
theorem w_c0 : (Jvm.Cond.code x code maxLocals ret).before args0 about1 = true := code_word (m := ⟨1, 1⟩) (meth := k1m1) (c := k1c1) (by decide +kernel) rfl rfl rfl (by decide +kernel)
set_option maxRecDepth 65536 in
theorem w_c1 : (Jvm.Cond.code ({ cls := "com/example/sinete/sinete/pki/Verdict", name := "invalid", desc := "(Ljava/lang/String;)Lcom/example/sinete/sinete/pki/Verdict;" } : Jvm.MethodName) prog_12_method_3_code (1 : Nat) (Option.some (Jvm.ClassFile.FieldType.object "com/example/sinete/sinete/pki/Verdict"))).before args0 about1 = true := code_word (m := ⟨8, 1⟩) (meth := k8m1) (c := k8c1) (by decide +kernel) rfl rfl rfl (by decide +kernel)
set_option maxRecDepth 65536 in
theorem w_c2 : (Jvm.Cond.code ({ cls := "java/util/Objects", name := "requireNonNull", desc := "(Ljava/lang/Object;Ljava/lang/String;)Ljava/lang/Object;" } : Jvm.MethodName) jdk_31_method_11_code (2 : Nat) (Option.some (Jvm.ClassFile.FieldType.object "java/lang/Object"))).before args0 about1 = true := code_word (m := ⟨9, 1⟩) (meth := k9m1) (c := k9c1) (by decide +kernel) rfl rfl rfl (by decide +kernel)
set_option maxRecDepth 65536 in
theorem w_c3 : (Jvm.Cond.code ({ cls := "com/example/sinete/sinete/pki/Verdict", name := "<init>", desc := "(Ljava/lang/String;I)V" } : Jvm.MethodName) prog_12_method_1_code (3 : Nat) (Option.none : Option Jvm.ClassFile.FieldType)).before args0 about1 = true := code_word (m := ⟨8, 0⟩) (meth := k8m0) (c := k8c0) (by decide +kernel) rfl rfl rfl (by decide +kernel)
set_option maxRecDepth 65536 in
theorem w_c4 : (Jvm.Cond.code ({ cls := "java/lang/Object", name := "<init>", desc := "()V" } : Jvm.MethodName) object_method_1_code (1 : Nat) (Option.none : Option Jvm.ClassFile.FieldType)).before args0 about1 = true := code_word (m := ⟨0, 0⟩) (meth := k0m0) (c := k0c0) (by decide +kernel) rfl rfl rfl (by decide +kernel)
set_option maxRecDepth 65536 in
theorem w_c5 : (Jvm.Cond.code ({ cls := "com/example/sinete/sinete/pki/Verdict", name := "isValid", desc := "()Z" } : Jvm.MethodName) prog_12_method_4_code (1 : Nat) (Option.some Jvm.ClassFile.FieldType.boolean)).before args0 about1 = true := code_word (m := ⟨8, 2⟩) (meth := k8m2) (c := k8c2) (by decide +kernel) rfl rfl rfl (by decide +kernel)
set_option maxRecDepth 65536 in
theorem w_c6 : (Jvm.Cond.code ({ cls := "com/example/sinete/sinete/pki/Verdict", name := "reason", desc := "()Ljava/lang/String;" } : Jvm.MethodName) prog_12_method_5_code (1 : Nat) (Option.some (Jvm.ClassFile.FieldType.object "java/lang/String"))).before args0 about1 = true := code_word (m := ⟨8, 3⟩) (meth := k8m3) (c := k8c3) (by decide +kernel) rfl rfl rfl (by decide +kernel)
set_option maxRecDepth 65536 in
theorem w_c7 : (Jvm.Cond.code ({ cls := "java/lang/String", name := "equals", desc := "(Ljava/lang/Object;)Z" } : Jvm.MethodName) jdk_42_method_66_code (3 : Nat) (Option.some Jvm.ClassFile.FieldType.boolean)).before args0 about1 = true := code_word (m := ⟨7, 5⟩) (meth := k7m5) (c := k7c5) (by decide +kernel) rfl rfl rfl (by decide +kernel)
set_option maxRecDepth 65536 in
theorem w_c8 : (Jvm.Cond.code ({ cls := "com/example/sinete/sinete/pki/Verdict", name := "signatureChecks", desc := "()I" } : Jvm.MethodName) prog_12_method_6_code (1 : Nat) (Option.some Jvm.ClassFile.FieldType.int)).before args0 about1 = true := code_word (m := ⟨8, 4⟩) (meth := k8m4) (c := k8c4) (by decide +kernel) rfl rfl rfl (by decide +kernel)
set_option maxRecDepth 65536 in
theorem w_c9 : (Jvm.Cond.code ({ cls := "com/example/sinete/sinete/pki/Verdict", name := "toString", desc := "()Ljava/lang/String;" } : Jvm.MethodName) prog_12_method_7_code (1 : Nat) (Option.some (Jvm.ClassFile.FieldType.object "java/lang/String"))).before args0 about1 = true := code_word (m := ⟨8, 5⟩) (meth := k8m5) (c := k8c5) (by decide +kernel) rfl rfl rfl (by decide +kernel)
set_option maxRecDepth 65536 in
theorem w_c10 : (Jvm.Cond.code ({ cls := "java/lang/StringBuilder", name := "<init>", desc := "()V" } : Jvm.MethodName) jdk_67_method_1_code (1 : Nat) (Option.none : Option Jvm.ClassFile.FieldType)).before args0 about1 = true := code_word (m := ⟨12, 0⟩) (meth := k12m0) (c := k12c0) (by decide +kernel) rfl rfl rfl (by decide +kernel)
set_option maxRecDepth 65536 in
theorem w_c11 : (Jvm.Cond.code ({ cls := "java/lang/AbstractStringBuilder", name := "<init>", desc := "(I)V" } : Jvm.MethodName) jdk_68_method_2_code (2 : Nat) (Option.none : Option Jvm.ClassFile.FieldType)).before args0 about1 = true := code_word (m := ⟨11, 1⟩) (meth := k11m1) (c := k11c1) (by decide +kernel) rfl rfl rfl (by decide +kernel)
set_option maxRecDepth 65536 in
theorem w_c12 : (Jvm.Cond.code ({ cls := "java/lang/StringBuilder", name := "append", desc := "(Ljava/lang/String;)Ljava/lang/StringBuilder;" } : Jvm.MethodName) jdk_67_method_7_code (2 : Nat) (Option.some (Jvm.ClassFile.FieldType.object "java/lang/StringBuilder"))).before args0 about1 = true := code_word (m := ⟨12, 1⟩) (meth := k12m1) (c := k12c1) (by decide +kernel) rfl rfl rfl (by decide +kernel)
set_option maxRecDepth 65536 in
theorem w_c13 : (Jvm.Cond.code ({ cls := "java/lang/AbstractStringBuilder", name := "append", desc := "(Ljava/lang/String;)Ljava/lang/AbstractStringBuilder;" } : Jvm.MethodName) jdk_68_method_22_code (3 : Nat) (Option.some (Jvm.ClassFile.FieldType.object "java/lang/AbstractStringBuilder"))).before args0 about1 = true := code_word (m := ⟨11, 4⟩) (meth := k11m4) (c := k11c4) (by decide +kernel) rfl rfl rfl (by decide +kernel)
set_option maxRecDepth 65536 in
theorem w_c14 : (Jvm.Cond.code ({ cls := "java/lang/String", name := "length", desc := "()I" } : Jvm.MethodName) jdk_42_method_54_code (1 : Nat) (Option.some Jvm.ClassFile.FieldType.int)).before args0 about1 = true := code_word (m := ⟨7, 3⟩) (meth := k7m3) (c := k7c3) (by decide +kernel) rfl rfl rfl (by decide +kernel)
set_option maxRecDepth 65536 in
theorem w_c15 : (Jvm.Cond.code ({ cls := "java/lang/String", name := "coder", desc := "()B" } : Jvm.MethodName) jdk_42_method_152_code (1 : Nat) (Option.some Jvm.ClassFile.FieldType.byte)).before args0 about1 = true := code_word (m := ⟨7, 11⟩) (meth := k7m11) (c := k7c11) (by decide +kernel) rfl rfl rfl (by decide +kernel)
set_option maxRecDepth 65536 in
theorem w_c16 : (Jvm.Cond.code ({ cls := "java/lang/AbstractStringBuilder", name := "ensureCapacityInternal", desc := "(I)V" } : Jvm.MethodName) jdk_68_method_9_code (3 : Nat) (Option.none : Option Jvm.ClassFile.FieldType)).before args0 about1 = true := code_word (m := ⟨11, 3⟩) (meth := k11m3) (c := k11c3) (by decide +kernel) rfl rfl rfl (by decide +kernel)
set_option maxRecDepth 65536 in
theorem w_c17 : (Jvm.Cond.code ({ cls := "java/lang/AbstractStringBuilder", name := "putStringAt", desc := "(ILjava/lang/String;)V" } : Jvm.MethodName) jdk_68_method_73_code (3 : Nat) (Option.none : Option Jvm.ClassFile.FieldType)).before args0 about1 = true := code_word (m := ⟨11, 8⟩) (meth := k11m8) (c := k11c8) (by decide +kernel) rfl rfl rfl (by decide +kernel)
set_option maxRecDepth 65536 in
theorem w_c18 : (Jvm.Cond.code ({ cls := "java/lang/AbstractStringBuilder", name := "inflateIfNeededFor", desc := "(Ljava/lang/String;)V" } : Jvm.MethodName) jdk_68_method_71_code (2 : Nat) (Option.none : Option Jvm.ClassFile.FieldType)).before args0 about1 = true := code_word (m := ⟨11, 7⟩) (meth := k11m7) (c := k11c7) (by decide +kernel) rfl rfl rfl (by decide +kernel)
set_option maxRecDepth 65536 in
theorem w_c19 : (Jvm.Cond.code ({ cls := "java/lang/String", name := "getBytes", desc := "([BIB)V" } : Jvm.MethodName) jdk_42_method_147_code (4 : Nat) (Option.none : Option Jvm.ClassFile.FieldType)).before args0 about1 = true := code_word (m := ⟨7, 7⟩) (meth := k7m7) (c := k7c7) (by decide +kernel) rfl rfl rfl (by decide +kernel)
set_option maxRecDepth 65536 in
theorem w_c20 : (Jvm.Cond.code ({ cls := "java/lang/StringBuilder", name := "toString", desc := "()Ljava/lang/String;" } : Jvm.MethodName) jdk_67_method_42_code (1 : Nat) (Option.some (Jvm.ClassFile.FieldType.object "java/lang/String"))).before args0 about1 = true := code_word (m := ⟨12, 2⟩) (meth := k12m2) (c := k12c2) (by decide +kernel) rfl rfl rfl (by decide +kernel)
set_option maxRecDepth 65536 in
theorem w_c21 : (Jvm.Cond.code ({ cls := "java/lang/String", name := "<init>", desc := "(Ljava/lang/StringBuilder;)V" } : Jvm.MethodName) jdk_42_method_53_code (2 : Nat) (Option.none : Option Jvm.ClassFile.FieldType)).before args0 about1 = true := code_word (m := ⟨7, 2⟩) (meth := k7m2) (c := k7c2) (by decide +kernel) rfl rfl rfl (by decide +kernel)
set_option maxRecDepth 65536 in
theorem w_c22 : (Jvm.Cond.code ({ cls := "java/lang/String", name := "<init>", desc := "(Ljava/lang/AbstractStringBuilder;Ljava/lang/Void;)V" } : Jvm.MethodName) jdk_42_method_150_code (5 : Nat) (Option.none : Option Jvm.ClassFile.FieldType)).before args0 about1 = true := code_word (m := ⟨7, 9⟩) (meth := k7m9) (c := k7c9) (by decide +kernel) rfl rfl rfl (by decide +kernel)
set_option maxRecDepth 65536 in
theorem w_c23 : (Jvm.Cond.code ({ cls := "java/lang/AbstractStringBuilder", name := "getValue", desc := "()[B" } : Jvm.MethodName) jdk_68_method_64_code (1 : Nat) (Option.some (Jvm.ClassFile.FieldType.array Jvm.ClassFile.FieldType.byte))).before args0 about1 = true := code_word (m := ⟨11, 5⟩) (meth := k11m5) (c := k11c5) (by decide +kernel) rfl rfl rfl (by decide +kernel)
set_option maxRecDepth 65536 in
theorem w_c24 : (Jvm.Cond.code ({ cls := "java/lang/StringBuilder", name := "length", desc := "()I" } : Jvm.MethodName) jdk_67_method_93_code (1 : Nat) (Option.some Jvm.ClassFile.FieldType.int)).before args0 about1 = true := code_word (m := ⟨12, 3⟩) (meth := k12m3) (c := k12c3) (by decide +kernel) rfl rfl rfl (by decide +kernel)
set_option maxRecDepth 65536 in
theorem w_c25 : (Jvm.Cond.code ({ cls := "java/lang/AbstractStringBuilder", name := "length", desc := "()I" } : Jvm.MethodName) jdk_68_method_6_code (1 : Nat) (Option.some Jvm.ClassFile.FieldType.int)).before args0 about1 = true := code_word (m := ⟨11, 2⟩) (meth := k11m2) (c := k11c2) (by decide +kernel) rfl rfl rfl (by decide +kernel)
set_option maxRecDepth 65536 in
theorem w_c26 : (Jvm.Cond.code ({ cls := "java/lang/AbstractStringBuilder", name := "isLatin1", desc := "()Z" } : Jvm.MethodName) jdk_68_method_68_code (1 : Nat) (Option.some Jvm.ClassFile.FieldType.boolean)).before args0 about1 = true := code_word (m := ⟨11, 6⟩) (meth := k11m6) (c := k11c6) (by decide +kernel) rfl rfl rfl (by decide +kernel)
set_option maxRecDepth 65536 in
theorem w_c27 : (Jvm.Cond.code ({ cls := "java/util/Arrays", name := "copyOfRange", desc := "([BII)[B" } : Jvm.MethodName) jdk_65_method_132_code (3 : Nat) (Option.some (Jvm.ClassFile.FieldType.array Jvm.ClassFile.FieldType.byte))).before args0 about1 = true := code_word (m := ⟨14, 2⟩) (meth := k14m2) (c := k14c2) (by decide +kernel) rfl rfl rfl (by decide +kernel)
set_option maxRecDepth 65536 in
theorem w_c28 : (Jvm.Cond.code ({ cls := "java/util/Arrays", name := "copyOfRangeByte", desc := "([BII)[B" } : Jvm.MethodName) jdk_65_method_133_code (5 : Nat) (Option.some (Jvm.ClassFile.FieldType.array Jvm.ClassFile.FieldType.byte))).before args0 about1 = true := code_word (m := ⟨14, 3⟩) (meth := k14m3) (c := k14c3) (by decide +kernel) rfl rfl rfl (by decide +kernel)
set_option maxRecDepth 65536 in
theorem w_c29 : (Jvm.Cond.code ({ cls := "java/util/Arrays", name := "checkLength", desc := "(II)V" } : Jvm.MethodName) jdk_65_method_131_code (2 : Nat) (Option.none : Option Jvm.ClassFile.FieldType)).before args0 about1 = true := code_word (m := ⟨14, 1⟩) (meth := k14m1) (c := k14c1) (by decide +kernel) rfl rfl rfl (by decide +kernel)
set_option maxRecDepth 65536 in
theorem w_c30 : (Jvm.Cond.code ({ cls := "java/lang/Math", name := "min", desc := "(II)I" } : Jvm.MethodName) jdk_29_method_69_code (2 : Nat) (Option.some Jvm.ClassFile.FieldType.int)).before args0 about1 = true := code_word (m := ⟨15, 1⟩) (meth := k15m1) (c := k15c1) (by decide +kernel) rfl rfl rfl (by decide +kernel)
set_option maxRecDepth 65536 in
theorem w_c31 : (Jvm.Cond.code ({ cls := "java/lang/String", name := "charAt", desc := "(I)C" } : Jvm.MethodName) jdk_42_method_56_code (2 : Nat) (Option.some Jvm.ClassFile.FieldType.char)).before args0 about1 = true := code_word (m := ⟨7, 4⟩) (meth := k7m4) (c := k7c4) (by decide +kernel) rfl rfl rfl (by decide +kernel)
set_option maxRecDepth 65536 in
theorem w_c32 : (Jvm.Cond.code ({ cls := "java/lang/String", name := "isLatin1", desc := "()Z" } : Jvm.MethodName) jdk_42_method_154_code (1 : Nat) (Option.some Jvm.ClassFile.FieldType.boolean)).before args0 about1 = true := code_word (m := ⟨7, 12⟩) (meth := k7m12) (c := k7c12) (by decide +kernel) rfl rfl rfl (by decide +kernel)
set_option maxRecDepth 65536 in
theorem w_c33 : (Jvm.Cond.code ({ cls := "java/lang/StringLatin1", name := "charAt", desc := "([BI)C" } : Jvm.MethodName) jdk_43_method_2_code (2 : Nat) (Option.some Jvm.ClassFile.FieldType.char)).before args0 about1 = true := code_word (m := ⟨16, 1⟩) (meth := k16m1) (c := k16c1) (by decide +kernel) rfl rfl rfl (by decide +kernel)
set_option maxRecDepth 65536 in
theorem w_c34 : (Jvm.Cond.code ({ cls := "java/lang/String", name := "checkIndex", desc := "(II)V" } : Jvm.MethodName) jdk_42_method_155_code (2 : Nat) (Option.none : Option Jvm.ClassFile.FieldType)).before args0 about1 = true := code_word (m := ⟨7, 13⟩) (meth := k7m13) (c := k7c13) (by decide +kernel) rfl rfl rfl (by decide +kernel)
set_option maxRecDepth 65536 in
theorem w_c35 : (Jvm.Cond.code ({ cls := "jdk/internal/util/Preconditions", name := "checkIndex", desc := "(IILjava/util/function/BiFunction;)I" } : Jvm.MethodName) jdk_41_method_11_code (3 : Nat) (Option.some Jvm.ClassFile.FieldType.int)).before args0 about1 = true := code_word (m := ⟨17, 1⟩) (meth := k17m1) (c := k17c1) (by decide +kernel) rfl rfl rfl (by decide +kernel)
set_option maxRecDepth 65536 in
theorem w_c36 : (Jvm.Cond.code ({ cls := "java/lang/String", name := "<init>", desc := "([C)V" } : Jvm.MethodName) jdk_42_method_3_code (2 : Nat) (Option.none : Option Jvm.ClassFile.FieldType)).before args0 about1 = true := code_word (m := ⟨7, 1⟩) (meth := k7m1) (c := k7c1) (by decide +kernel) rfl rfl rfl (by decide +kernel)
set_option maxRecDepth 65536 in
theorem w_c37 : (Jvm.Cond.code ({ cls := "java/lang/String", name := "<init>", desc := "([CIILjava/lang/Void;)V" } : Jvm.MethodName) jdk_42_method_149_code (6 : Nat) (Option.none : Option Jvm.ClassFile.FieldType)).before args0 about1 = true := code_word (m := ⟨7, 8⟩) (meth := k7m8) (c := k7c8) (by decide +kernel) rfl rfl rfl (by decide +kernel)
set_option maxRecDepth 65536 in
theorem w_c38 : (Jvm.Cond.code ({ cls := "java/lang/StringUTF16", name := "compress", desc := "([CII)[B" } : Jvm.MethodName) jdk_52_method_16_code (6 : Nat) (Option.some (Jvm.ClassFile.FieldType.array Jvm.ClassFile.FieldType.byte))).before args0 about1 = true := code_word (m := ⟨18, 2⟩) (meth := k18m2) (c := k18c2) (by decide +kernel) rfl rfl rfl (by decide +kernel)
set_option maxRecDepth 65536 in
theorem w_c39 : (Jvm.Cond.code ({ cls := "java/lang/StringUTF16", name := "compress", desc := "([CI[BII)I" } : Jvm.MethodName) jdk_52_method_21_code (7 : Nat) (Option.some Jvm.ClassFile.FieldType.int)).before args0 about1 = true := code_word (m := ⟨18, 3⟩) (meth := k18m3) (c := k18c3) (by decide +kernel) rfl rfl rfl (by decide +kernel)
set_option maxRecDepth 65536 in
theorem w_c40 : (Jvm.Cond.code ({ cls := "java/lang/StringUTF16", name := "coderFromArrayLen", desc := "([BI)B" } : Jvm.MethodName) jdk_52_method_15_code (2 : Nat) (Option.some Jvm.ClassFile.FieldType.byte)).before args0 about1 = true := code_word (m := ⟨18, 1⟩) (meth := k18m1) (c := k18c1) (by decide +kernel) rfl rfl rfl (by decide +kernel)
set_option maxRecDepth 65536 in
theorem w_c41 : (Jvm.Cond.code ({ cls := "java/lang/StringLatin1", name := "equals", desc := "([B[B)Z" } : Jvm.MethodName) jdk_43_method_13_code (3 : Nat) (Option.some Jvm.ClassFile.FieldType.boolean)).before args0 about1 = true := code_word (m := ⟨16, 3⟩) (meth := k16m3) (c := k16c3) (by decide +kernel) rfl rfl rfl (by decide +kernel)
set_option maxRecDepth 65536 in
theorem w_c42 : (Jvm.Cond.code ({ cls := "com/example/sinete/sinete/pki/VerdictInvalidPinLaw", name := "tailMatches", desc := "(Ljava/lang/String;Ljava/lang/String;)Z" } : Jvm.MethodName) method_3_code (3 : Nat) (Option.some Jvm.ClassFile.FieldType.boolean)).before args0 about1 = true := code_word (m := ⟨1, 2⟩) (meth := k1m2) (c := k1c2) (by decide +kernel) rfl rfl rfl (by decide +kernel)
set_option maxRecDepth 65536 in
theorem w_c43 : (Jvm.Cond.code ({ cls := "java/lang/String", name := "valueOf", desc := "(C)Ljava/lang/String;" } : Jvm.MethodName) jdk_42_method_139_code (1 : Nat) (Option.some (Jvm.ClassFile.FieldType.object "java/lang/String"))).before args0 about1 = true := code_word (m := ⟨7, 6⟩) (meth := k7m6) (c := k7c6) (by decide +kernel) rfl rfl rfl (by decide +kernel)
set_option maxRecDepth 65536 in
theorem w_c44 : (Jvm.Cond.code ({ cls := "java/lang/StringLatin1", name := "canEncode", desc := "(C)Z" } : Jvm.MethodName) jdk_43_method_3_code (1 : Nat) (Option.some Jvm.ClassFile.FieldType.boolean)).before args0 about1 = true := code_word (m := ⟨16, 2⟩) (meth := k16m2) (c := k16c2) (by decide +kernel) rfl rfl rfl (by decide +kernel)
set_option maxRecDepth 65536 in
theorem w_c45 : (Jvm.Cond.code ({ cls := "java/lang/StringLatin1", name := "toBytes", desc := "(C)[B" } : Jvm.MethodName) jdk_43_method_46_code (1 : Nat) (Option.some (Jvm.ClassFile.FieldType.array Jvm.ClassFile.FieldType.byte))).before args0 about1 = true := code_word (m := ⟨16, 4⟩) (meth := k16m4) (c := k16c4) (by decide +kernel) rfl rfl rfl (by decide +kernel)
set_option maxRecDepth 65536 in
theorem w_c46 : (Jvm.Cond.code ({ cls := "java/lang/String", name := "<init>", desc := "([BB)V" } : Jvm.MethodName) jdk_42_method_151_code (3 : Nat) (Option.none : Option Jvm.ClassFile.FieldType)).before args0 about1 = true := code_word (m := ⟨7, 10⟩) (meth := k7m10) (c := k7c10) (by decide +kernel) rfl rfl rfl (by decide +kernel)
def codes1 : List Jvm.Cond := [Jvm.Cond.code x code maxLocals ret, Jvm.Cond.code ({ cls := "com/example/sinete/sinete/pki/Verdict", name := "invalid", desc := "(Ljava/lang/String;)Lcom/example/sinete/sinete/pki/Verdict;" } : Jvm.MethodName) prog_12_method_3_code (1 : Nat) (Option.some (Jvm.ClassFile.FieldType.object "com/example/sinete/sinete/pki/Verdict")), Jvm.Cond.code ({ cls := "java/util/Objects", name := "requireNonNull", desc := "(Ljava/lang/Object;Ljava/lang/String;)Ljava/lang/Object;" } : Jvm.MethodName) jdk_31_method_11_code (2 : Nat) (Option.some (Jvm.ClassFile.FieldType.object "java/lang/Object")), Jvm.Cond.code ({ cls := "com/example/sinete/sinete/pki/Verdict", name := "<init>", desc := "(Ljava/lang/String;I)V" } : Jvm.MethodName) prog_12_method_1_code (3 : Nat) (Option.none : Option Jvm.ClassFile.FieldType), Jvm.Cond.code ({ cls := "java/lang/Object", name := "<init>", desc := "()V" } : Jvm.MethodName) object_method_1_code (1 : Nat) (Option.none : Option Jvm.ClassFile.FieldType), Jvm.Cond.code ({ cls := "com/example/sinete/sinete/pki/Verdict", name := "isValid", desc := "()Z" } : Jvm.MethodName) prog_12_method_4_code (1 : Nat) (Option.some Jvm.ClassFile.FieldType.boolean), Jvm.Cond.code ({ cls := "com/example/sinete/sinete/pki/Verdict", name := "reason", desc := "()Ljava/lang/String;" } : Jvm.MethodName) prog_12_method_5_code (1 : Nat) (Option.some (Jvm.ClassFile.FieldType.object "java/lang/String")), Jvm.Cond.code ({ cls := "java/lang/String", name := "equals", desc := "(Ljava/lang/Object;)Z" } : Jvm.MethodName) jdk_42_method_66_code (3 : Nat) (Option.some Jvm.ClassFile.FieldType.boolean), Jvm.Cond.code ({ cls := "com/example/sinete/sinete/pki/Verdict", name := "signatureChecks", desc := "()I" } : Jvm.MethodName) prog_12_method_6_code (1 : Nat) (Option.some Jvm.ClassFile.FieldType.int), Jvm.Cond.code ({ cls := "com/example/sinete/sinete/pki/Verdict", name := "toString", desc := "()Ljava/lang/String;" } : Jvm.MethodName) prog_12_method_7_code (1 : Nat) (Option.some (Jvm.ClassFile.FieldType.object "java/lang/String")), Jvm.Cond.code ({ cls := "java/lang/StringBuilder", name := "<init>", desc := "()V" } : Jvm.MethodName) jdk_67_method_1_code (1 : Nat) (Option.none : Option Jvm.ClassFile.FieldType), Jvm.Cond.code ({ cls := "java/lang/AbstractStringBuilder", name := "<init>", desc := "(I)V" } : Jvm.MethodName) jdk_68_method_2_code (2 : Nat) (Option.none : Option Jvm.ClassFile.FieldType), Jvm.Cond.code ({ cls := "java/lang/StringBuilder", name := "append", desc := "(Ljava/lang/String;)Ljava/lang/StringBuilder;" } : Jvm.MethodName) jdk_67_method_7_code (2 : Nat) (Option.some (Jvm.ClassFile.FieldType.object "java/lang/StringBuilder")), Jvm.Cond.code ({ cls := "java/lang/AbstractStringBuilder", name := "append", desc := "(Ljava/lang/String;)Ljava/lang/AbstractStringBuilder;" } : Jvm.MethodName) jdk_68_method_22_code (3 : Nat) (Option.some (Jvm.ClassFile.FieldType.object "java/lang/AbstractStringBuilder")), Jvm.Cond.code ({ cls := "java/lang/String", name := "length", desc := "()I" } : Jvm.MethodName) jdk_42_method_54_code (1 : Nat) (Option.some Jvm.ClassFile.FieldType.int), Jvm.Cond.code ({ cls := "java/lang/String", name := "coder", desc := "()B" } : Jvm.MethodName) jdk_42_method_152_code (1 : Nat) (Option.some Jvm.ClassFile.FieldType.byte), Jvm.Cond.code ({ cls := "java/lang/AbstractStringBuilder", name := "ensureCapacityInternal", desc := "(I)V" } : Jvm.MethodName) jdk_68_method_9_code (3 : Nat) (Option.none : Option Jvm.ClassFile.FieldType), Jvm.Cond.code ({ cls := "java/lang/AbstractStringBuilder", name := "putStringAt", desc := "(ILjava/lang/String;)V" } : Jvm.MethodName) jdk_68_method_73_code (3 : Nat) (Option.none : Option Jvm.ClassFile.FieldType), Jvm.Cond.code ({ cls := "java/lang/AbstractStringBuilder", name := "inflateIfNeededFor", desc := "(Ljava/lang/String;)V" } : Jvm.MethodName) jdk_68_method_71_code (2 : Nat) (Option.none : Option Jvm.ClassFile.FieldType), Jvm.Cond.code ({ cls := "java/lang/String", name := "getBytes", desc := "([BIB)V" } : Jvm.MethodName) jdk_42_method_147_code (4 : Nat) (Option.none : Option Jvm.ClassFile.FieldType), Jvm.Cond.code ({ cls := "java/lang/StringBuilder", name := "toString", desc := "()Ljava/lang/String;" } : Jvm.MethodName) jdk_67_method_42_code (1 : Nat) (Option.some (Jvm.ClassFile.FieldType.object "java/lang/String")), Jvm.Cond.code ({ cls := "java/lang/String", name := "<init>", desc := "(Ljava/lang/StringBuilder;)V" } : Jvm.MethodName) jdk_42_method_53_code (2 : Nat) (Option.none : Option Jvm.ClassFile.FieldType), Jvm.Cond.code ({ cls := "java/lang/String", name := "<init>", desc := "(Ljava/lang/AbstractStringBuilder;Ljava/lang/Void;)V" } : Jvm.MethodName) jdk_42_method_150_code (5 : Nat) (Option.none : Option Jvm.ClassFile.FieldType), Jvm.Cond.code ({ cls := "java/lang/AbstractStringBuilder", name := "getValue", desc := "()[B" } : Jvm.MethodName) jdk_68_method_64_code (1 : Nat) (Option.some (Jvm.ClassFile.FieldType.array Jvm.ClassFile.FieldType.byte)), Jvm.Cond.code ({ cls := "java/lang/StringBuilder", name := "length", desc := "()I" } : Jvm.MethodName) jdk_67_method_93_code (1 : Nat) (Option.some Jvm.ClassFile.FieldType.int), Jvm.Cond.code ({ cls := "java/lang/AbstractStringBuilder", name := "length", desc := "()I" } : Jvm.MethodName) jdk_68_method_6_code (1 : Nat) (Option.some Jvm.ClassFile.FieldType.int), Jvm.Cond.code ({ cls := "java/lang/AbstractStringBuilder", name := "isLatin1", desc := "()Z" } : Jvm.MethodName) jdk_68_method_68_code (1 : Nat) (Option.some Jvm.ClassFile.FieldType.boolean), Jvm.Cond.code ({ cls := "java/util/Arrays", name := "copyOfRange", desc := "([BII)[B" } : Jvm.MethodName) jdk_65_method_132_code (3 : Nat) (Option.some (Jvm.ClassFile.FieldType.array Jvm.ClassFile.FieldType.byte)), Jvm.Cond.code ({ cls := "java/util/Arrays", name := "copyOfRangeByte", desc := "([BII)[B" } : Jvm.MethodName) jdk_65_method_133_code (5 : Nat) (Option.some (Jvm.ClassFile.FieldType.array Jvm.ClassFile.FieldType.byte)), Jvm.Cond.code ({ cls := "java/util/Arrays", name := "checkLength", desc := "(II)V" } : Jvm.MethodName) jdk_65_method_131_code (2 : Nat) (Option.none : Option Jvm.ClassFile.FieldType), Jvm.Cond.code ({ cls := "java/lang/Math", name := "min", desc := "(II)I" } : Jvm.MethodName) jdk_29_method_69_code (2 : Nat) (Option.some Jvm.ClassFile.FieldType.int), Jvm.Cond.code ({ cls := "java/lang/String", name := "charAt", desc := "(I)C" } : Jvm.MethodName) jdk_42_method_56_code (2 : Nat) (Option.some Jvm.ClassFile.FieldType.char), Jvm.Cond.code ({ cls := "java/lang/String", name := "isLatin1", desc := "()Z" } : Jvm.MethodName) jdk_42_method_154_code (1 : Nat) (Option.some Jvm.ClassFile.FieldType.boolean), Jvm.Cond.code ({ cls := "java/lang/StringLatin1", name := "charAt", desc := "([BI)C" } : Jvm.MethodName) jdk_43_method_2_code (2 : Nat) (Option.some Jvm.ClassFile.FieldType.char), Jvm.Cond.code ({ cls := "java/lang/String", name := "checkIndex", desc := "(II)V" } : Jvm.MethodName) jdk_42_method_155_code (2 : Nat) (Option.none : Option Jvm.ClassFile.FieldType), Jvm.Cond.code ({ cls := "jdk/internal/util/Preconditions", name := "checkIndex", desc := "(IILjava/util/function/BiFunction;)I" } : Jvm.MethodName) jdk_41_method_11_code (3 : Nat) (Option.some Jvm.ClassFile.FieldType.int), Jvm.Cond.code ({ cls := "java/lang/String", name := "<init>", desc := "([C)V" } : Jvm.MethodName) jdk_42_method_3_code (2 : Nat) (Option.none : Option Jvm.ClassFile.FieldType), Jvm.Cond.code ({ cls := "java/lang/String", name := "<init>", desc := "([CIILjava/lang/Void;)V" } : Jvm.MethodName) jdk_42_method_149_code (6 : Nat) (Option.none : Option Jvm.ClassFile.FieldType), Jvm.Cond.code ({ cls := "java/lang/StringUTF16", name := "compress", desc := "([CII)[B" } : Jvm.MethodName) jdk_52_method_16_code (6 : Nat) (Option.some (Jvm.ClassFile.FieldType.array Jvm.ClassFile.FieldType.byte)), Jvm.Cond.code ({ cls := "java/lang/StringUTF16", name := "compress", desc := "([CI[BII)I" } : Jvm.MethodName) jdk_52_method_21_code (7 : Nat) (Option.some Jvm.ClassFile.FieldType.int), Jvm.Cond.code ({ cls := "java/lang/StringUTF16", name := "coderFromArrayLen", desc := "([BI)B" } : Jvm.MethodName) jdk_52_method_15_code (2 : Nat) (Option.some Jvm.ClassFile.FieldType.byte), Jvm.Cond.code ({ cls := "java/lang/StringLatin1", name := "equals", desc := "([B[B)Z" } : Jvm.MethodName) jdk_43_method_13_code (3 : Nat) (Option.some Jvm.ClassFile.FieldType.boolean), Jvm.Cond.code ({ cls := "com/example/sinete/sinete/pki/VerdictInvalidPinLaw", name := "tailMatches", desc := "(Ljava/lang/String;Ljava/lang/String;)Z" } : Jvm.MethodName) method_3_code (3 : Nat) (Option.some Jvm.ClassFile.FieldType.boolean), Jvm.Cond.code ({ cls := "java/lang/String", name := "valueOf", desc := "(C)Ljava/lang/String;" } : Jvm.MethodName) jdk_42_method_139_code (1 : Nat) (Option.some (Jvm.ClassFile.FieldType.object "java/lang/String")), Jvm.Cond.code ({ cls := "java/lang/StringLatin1", name := "canEncode", desc := "(C)Z" } : Jvm.MethodName) jdk_43_method_3_code (1 : Nat) (Option.some Jvm.ClassFile.FieldType.boolean), Jvm.Cond.code ({ cls := "java/lang/StringLatin1", name := "toBytes", desc := "(C)[B" } : Jvm.MethodName) jdk_43_method_46_code (1 : Nat) (Option.some (Jvm.ClassFile.FieldType.array Jvm.ClassFile.FieldType.byte)), Jvm.Cond.code ({ cls := "java/lang/String", name := "<init>", desc := "([BB)V" } : Jvm.MethodName) jdk_42_method_151_code (3 : Nat) (Option.none : Option Jvm.ClassFile.FieldType)]
set_option maxRecDepth 65536 in
theorem codes_eq : words1.filter isCode = codes1 := rfl
theorem w_codes : ∀ c ∈ words1.filter isCode, c.before args0 about1 = true := by
  rw [codes_eq]
  intro c hc
  simp only [codes1, List.mem_cons, List.not_mem_nil, or_false] at hc
  rcases hc with rfl | rfl | rfl | rfl | rfl | rfl | rfl | rfl | rfl | rfl | rfl | rfl | rfl | rfl | rfl | rfl | rfl | rfl | rfl | rfl | rfl | rfl | rfl | rfl | rfl | rfl | rfl | rfl | rfl | rfl | rfl | rfl | rfl | rfl | rfl | rfl | rfl | rfl | rfl | rfl | rfl | rfl | rfl | rfl | rfl | rfl | rfl
  · exact w_c0
  · exact w_c1
  · exact w_c2
  · exact w_c3
  · exact w_c4
  · exact w_c5
  · exact w_c6
  · exact w_c7
  · exact w_c8
  · exact w_c9
  · exact w_c10
  · exact w_c11
  · exact w_c12
  · exact w_c13
  · exact w_c14
  · exact w_c15
  · exact w_c16
  · exact w_c17
  · exact w_c18
  · exact w_c19
  · exact w_c20
  · exact w_c21
  · exact w_c22
  · exact w_c23
  · exact w_c24
  · exact w_c25
  · exact w_c26
  · exact w_c27
  · exact w_c28
  · exact w_c29
  · exact w_c30
  · exact w_c31
  · exact w_c32
  · exact w_c33
  · exact w_c34
  · exact w_c35
  · exact w_c36
  · exact w_c37
  · exact w_c38
  · exact w_c39
  · exact w_c40
  · exact w_c41
  · exact w_c42
  · exact w_c43
  · exact w_c44
  · exact w_c45
  · exact w_c46
set_option maxRecDepth 65536 in
theorem w_t1 : (words1.take 24).all (fun c => isCode c || c.before args0 about1) = true := by decide +kernel
set_option maxRecDepth 65536 in
theorem w_t2 : ((words1.drop 24).take 24).all (fun c => isCode c || c.before args0 about1) = true := by decide +kernel
set_option maxRecDepth 65536 in
theorem w_t3 : (((words1.drop 24).drop 24).take 24).all (fun c => isCode c || c.before args0 about1) = true := by decide +kernel
set_option maxRecDepth 65536 in
theorem w_t4 : ((((words1.drop 24).drop 24).drop 24).take 24).all (fun c => isCode c || c.before args0 about1) = true := by decide +kernel
set_option maxRecDepth 65536 in
theorem w_t5 : (((((words1.drop 24).drop 24).drop 24).drop 24).take 24).all (fun c => isCode c || c.before args0 about1) = true := by decide +kernel
set_option maxRecDepth 65536 in
theorem w_t6 : ((((((words1.drop 24).drop 24).drop 24).drop 24).drop 24).take 24).all (fun c => isCode c || c.before args0 about1) = true := by decide +kernel
set_option maxRecDepth 65536 in
theorem w_t7 : (((((((words1.drop 24).drop 24).drop 24).drop 24).drop 24).drop 24).take 24).all (fun c => isCode c || c.before args0 about1) = true := by decide +kernel
set_option maxRecDepth 65536 in
theorem w_t8 : ((((((((words1.drop 24).drop 24).drop 24).drop 24).drop 24).drop 24).drop 24).take 24).all (fun c => isCode c || c.before args0 about1) = true := by decide +kernel
set_option maxRecDepth 65536 in
theorem w_t9 : (((((((((words1.drop 24).drop 24).drop 24).drop 24).drop 24).drop 24).drop 24).drop 24).take 24).all (fun c => isCode c || c.before args0 about1) = true := by decide +kernel
set_option maxRecDepth 65536 in
theorem w_t10 : (((((((((words1.drop 24).drop 24).drop 24).drop 24).drop 24).drop 24).drop 24).drop 24).drop 24).all (fun c => isCode c || c.before args0 about1) = true := by decide +kernel
theorem w_tables : (allAtoms (Jvm.Cond.code x code maxLocals ret :: tables_1)).before args0 about1 = true := by
  rw [allAtoms_all]
  show words1.all (fun c => c.before args0 about1) = true
  refine all_split ?_ w_codes
  rw [← List.take_append_drop 24 words1, List.all_append, w_t1, ← List.take_append_drop 24 (words1.drop 24), List.all_append, w_t2, ← List.take_append_drop 24 ((words1.drop 24).drop 24), List.all_append, w_t3, ← List.take_append_drop 24 (((words1.drop 24).drop 24).drop 24), List.all_append, w_t4, ← List.take_append_drop 24 ((((words1.drop 24).drop 24).drop 24).drop 24), List.all_append, w_t5, ← List.take_append_drop 24 (((((words1.drop 24).drop 24).drop 24).drop 24).drop 24), List.all_append, w_t6, ← List.take_append_drop 24 ((((((words1.drop 24).drop 24).drop 24).drop 24).drop 24).drop 24), List.all_append, w_t7, ← List.take_append_drop 24 (((((((words1.drop 24).drop 24).drop 24).drop 24).drop 24).drop 24).drop 24), List.all_append, w_t8, ← List.take_append_drop 24 ((((((((words1.drop 24).drop 24).drop 24).drop 24).drop 24).drop 24).drop 24).drop 24), List.all_append, w_t9, w_t10]
  rfl
set_option maxRecDepth 65536 in
theorem w_rest : rest_1_c.before args0 about1 = true := by decide +kernel
set_option maxRecDepth 65536 in
theorem w_case : (Jvm.Cond.and given_1 narrow_1).before args0 about1 = true := by decide +kernel
set_option maxRecDepth 65536 in
theorem w_consts : constsHeld consts_1 about1 := Jvm.Lit.constsHeldB_iff.mp (by decide +kernel)
theorem w_applies : (headSpec (Jvm.Cond.code x code maxLocals ret :: tables_1) room_1).applies x e0.platform about1 = true :=
  (Spec.applies_iff w_frames).mpr ⟨w_running, w_runnable, w_alone, w_named, w_hears, w_ripe, w_room, w_tables⟩
theorem atStart : AtStart classFile x code maxLocals ret World_1 tables_1 room_1 Calls_1 rest_1 Pre_1 launch0 p0 e0 about1 theMethod args0 below0 :=
  ⟨lists_1, trivial, launch0.admits_env _ _ _, launch0.least_env, fairChoices_fair.cas, fairChoices_fair.clock, w_frames, w_args, w_heap, w_applies, ⟨w_consts, trivial⟩, w_rest, w_case⟩
end start1
theorem witness_1 : WitnessClaimed_1 := ⟨start1.p0, start1.e0, start1.about1, start1.theMethod, start1.args0, start1.below0, start1.atStart⟩
end Jvm.Pilot.@@N@@
