import JvmDerived
import JvmDerived.Pilot.@@N@@Statement
import JvmDerived.Pilot.@@N@@Code
set_option linter.unusedVariables false
set_option linter.unusedSimpArgs false
namespace Jvm.OwnKit
open Jvm Jvm.ClassFile Sem Op Lib Jvm.Free Jvm.Stand Jvm.LawKit Jvm.RoadKit
/-- from the frame f at T the invocation comes to an end of which P holds -/
def Goes (p : Program) (e : Env) (below : List Frame) (P : Outcome → State → Prop) (T : State) (f : JFrame) : Prop :=
  ∃ s₂ o, Steps p.tables e below (T.setTop f) s₂ ∧ s₂.status = .running ∧ Ended s₂ below o ∧ P o s₂
theorem Goes.step {p : Program} {e : Env} {below : List Frame} {P : Outcome → State → Prop} {T T' : State} {f f' : JFrame} (K : Goes p e below P T' f') (q : ∀ t, Steps p.tables e below (T'.setTop f') t → Steps p.tables e below (T.setTop f) t) : Goes p e below P T f := by
  obtain ⟨s₂, o, h1, h2⟩ := K; exact ⟨s₂, o, q _ h1, h2⟩
/-- THE WALK STANDS at T over the heap h: what was written lies above n0; at most k cells of n slots were made; over h0 only the cells of ws have turned -/
def Wk (p : Program) (l : Launch) (e : Env) (R : Room) (s : State) (m : MethodId) (args : Array Value) (below : List Frame) (meth : Method) (c : Code)
    (Z : State) (own : String) (bytes : ByteArray) (maxL : Nat) (ret : Option FieldType) (mn : String) (n0 : Nat) (h0 : Heap) (ws : List Addr) (T : State) (h : Heap) (k n : Nat) : Prop :=
  (p.tables.exec = Jvm.exec ∧ c.code = bytes ∧ c.maxLocals = maxL ∧ Z.Warmed39 s.vm ∧ s.vm.findClass own = some m.cls ∧ meth.sig.returnType = ret ∧ meth.locks = false ∧ meth.name = mn ∧ (∀ x ∈ ws, n0 ≤ x) ∧ n0 ≤ h0.size) ∧
  ∃ locs cells slots, Stand p l e R s m args below meth c T locs cells slots ∧ T.heap = h ∧ Fr n0 locs ∧ cells ≤ k ∧ slots ≤ n ∧ Old Z n0 h ∧ Keep h0 h ws
section Steps
variable {p : Program} {l : Launch} {e : Env} {R : Room} {s : State} {m : MethodId} {args : Array Value} {below : List Frame} {meth : Method} {c : Code} {Z : State} {own : String} {bytes : ByteArray} {maxL : Nat} {ret : Option FieldType} {mn : String} {n0 : Nat} {h0 : Heap} {ws : List Addr} {T : State} {h : Heap} {k n : Nat} {P : Outcome → State → Prop} {Ls : Array Slot} {st : List Value} {pc pc' : Nat} {a0 : Array Value}
theorem Wk.mono (w : Wk p l e R s m args below meth c Z own bytes maxL ret mn n0 h0 ws T h k n) {k' n' : Nat} (hk : k ≤ k') (hn : n ≤ n') : Wk p l e R s m args below meth c Z own bytes maxL ret mn n0 h0 ws T h k' n' := by
  obtain ⟨cx, locs, cells, slots, X, e1, N, a, b, r⟩ := w; exact ⟨cx, locs, cells, slots, X, e1, N, Nat.le_trans a hk, Nat.le_trans b hn, r⟩
theorem Wk.kp (w : Wk p l e R s m args below meth c Z own bytes maxL ret mn n0 h0 ws T h k n) : Keep h0 h ws := w.2.choose_spec.choose_spec.choose_spec.2.2.2.2.2.2
theorem Wk.old (w : Wk p l e R s m args below meth c Z own bytes maxL ret mn n0 h0 ws T h k n) : Old Z n0 h := w.2.choose_spec.choose_spec.choose_spec.2.2.2.2.2.1
theorem Wk.le0 (w : Wk p l e R s m args below meth c Z own bytes maxL ret mn n0 h0 ws T h k n) : h0.size ≤ h.size := w.kp.1
theorem Wk.n0h0 (w : Wk p l e R s m args below meth c Z own bytes maxL ret mn n0 h0 ws T h k n) : n0 ≤ h0.size := w.1.2.2.2.2.2.2.2.2.2
theorem Wk.le (w : Wk p l e R s m args below meth c Z own bytes maxL ret mn n0 h0 ws T h k n) : n0 ≤ h.size := Nat.le_trans w.n0h0 w.le0
theorem Wk.hZ (w : Wk p l e R s m args below meth c Z own bytes maxL ret mn n0 h0 ws T h k n) : Z.Warmed39 s.vm := w.1.2.2.2.1
theorem Wk.heap (w : Wk p l e R s m args below meth c Z own bytes maxL ret mn n0 h0 ws T h k n) : T.heap = h := w.2.choose_spec.choose_spec.choose_spec.2.1
theorem Wk.sta (w : Wk p l e R s m args below meth c Z own bytes maxL ret mn n0 h0 ws T h k n) {C nm d : String} {v : Value} (S : Sta Z Z.heap C nm d v) : Sta Z h C nm d v := S.ext w.old.2
theorem Wk.wsn {a : Addr} (w : Wk p l e R s m args below meth c Z own bytes maxL ret mn n0 h0 ws T h k n) (q : a ∈ ws ∨ h0.size ≤ a) : n0 ≤ a := q.elim (w.1.2.2.2.2.2.2.2.2.1 a) (Nat.le_trans w.n0h0)
theorem i_aload (w : Wk p l e R s m args below meth c Z own bytes maxL ret mn n0 h0 ws T h k n) {i : Nat} {v : Value} (d : decode bytes pc = .ok (.aload i, 2)) (hl : Ls[i]? = some (.val v)) (hv : v.isRef = true) (hp : pc + 2 = pc') (K : Goes p e below P T (mkF m pc' Ls (v :: st))) : Goes p e below P T (mkF m pc Ls (st)) := by
  obtain ⟨⟨hx, hb', -⟩, locs, cells, slots, X, -⟩ := w
  subst hp
  exact K.step fun t q => XS.aload X.here hx rfl (hb hb' d) hl hv q
theorem i_aloadN (w : Wk p l e R s m args below meth c Z own bytes maxL ret mn n0 h0 ws T h k n) {i : Fin 4} {v : Value} (d : decode bytes pc = .ok (.aload_n i, 1)) (hl : Ls[i.val]? = some (.val v)) (hv : v.isRef = true) (hp : pc + 1 = pc') (K : Goes p e below P T (mkF m pc' Ls (v :: st))) : Goes p e below P T (mkF m pc Ls (st)) := by
  obtain ⟨⟨hx, hb', -⟩, locs, cells, slots, X, -⟩ := w
  subst hp
  exact K.step fun t q => XS.aloadN X.here hx rfl (hb hb' d) hl hv q
theorem i_iload (w : Wk p l e R s m args below meth c Z own bytes maxL ret mn n0 h0 ws T h k n) {i : Nat} {z : Int32} (d : decode bytes pc = .ok (.iload i, 2)) (hl : Ls[i]? = some (.val (.int z))) (hp : pc + 2 = pc') (K : Goes p e below P T (mkF m pc' Ls (.int z :: st))) : Goes p e below P T (mkF m pc Ls (st)) := by
  obtain ⟨⟨hx, hb', -⟩, locs, cells, slots, X, -⟩ := w
  subst hp
  exact K.step fun t q => XS.iload X.here hx rfl (hb hb' d) hl q
theorem i_iloadN (w : Wk p l e R s m args below meth c Z own bytes maxL ret mn n0 h0 ws T h k n) {i : Fin 4} {z : Int32} (d : decode bytes pc = .ok (.iload_n i, 1)) (hl : Ls[i.val]? = some (.val (.int z))) (hp : pc + 1 = pc') (K : Goes p e below P T (mkF m pc' Ls (.int z :: st))) : Goes p e below P T (mkF m pc Ls (st)) := by
  obtain ⟨⟨hx, hb', -⟩, locs, cells, slots, X, -⟩ := w
  subst hp
  exact K.step fun t q => XS.iloadN X.here hx rfl (hb hb' d) hl q
theorem i_lload (w : Wk p l e R s m args below meth c Z own bytes maxL ret mn n0 h0 ws T h k n) {i : Nat} {z : Int64} (d : decode bytes pc = .ok (.lload i, 2)) (hl : Ls[i]? = some (.val (.long z))) (hp : pc + 2 = pc') (K : Goes p e below P T (mkF m pc' Ls (.long z :: st))) : Goes p e below P T (mkF m pc Ls (st)) := by
  obtain ⟨⟨hx, hb', -⟩, locs, cells, slots, X, -⟩ := w
  subst hp
  exact K.step fun t q => XT.lload X.here hx rfl (hb hb' d) hl q
theorem i_lloadN (w : Wk p l e R s m args below meth c Z own bytes maxL ret mn n0 h0 ws T h k n) {i : Fin 4} {z : Int64} (d : decode bytes pc = .ok (.lload_n i, 1)) (hl : Ls[i.val]? = some (.val (.long z))) (hp : pc + 1 = pc') (K : Goes p e below P T (mkF m pc' Ls (.long z :: st))) : Goes p e below P T (mkF m pc Ls (st)) := by
  obtain ⟨⟨hx, hb', -⟩, locs, cells, slots, X, -⟩ := w
  subst hp
  exact K.step fun t q => XT.lloadN X.here hx rfl (hb hb' d) hl q
theorem i_iconst (w : Wk p l e R s m args below meth c Z own bytes maxL ret mn n0 h0 ws T h k n) {i : Int} {z : Int32} (d : decode bytes pc = .ok (.iconst i, 1)) (hz : Int32.ofInt i = z) (hp : pc + 1 = pc') (K : Goes p e below P T (mkF m pc' Ls (.int z :: st))) : Goes p e below P T (mkF m pc Ls (st)) := by
  obtain ⟨⟨hx, hb', -⟩, locs, cells, slots, X, -⟩ := w
  subst hp
  exact K.step fun t q => XS.iconst X.here hx rfl (hb hb' d) (hz ▸ q)
theorem i_bipush (w : Wk p l e R s m args below meth c Z own bytes maxL ret mn n0 h0 ws T h k n) {i : Int} {z : Int32} (d : decode bytes pc = .ok (.bipush i, 2)) (hz : (Int8.ofInt i).toInt32 = z) (hp : pc + 2 = pc') (K : Goes p e below P T (mkF m pc' Ls (.int z :: st))) : Goes p e below P T (mkF m pc Ls (st)) := by
  obtain ⟨⟨hx, hb', -⟩, locs, cells, slots, X, -⟩ := w
  subst hp
  exact K.step fun t q => XS.bipush X.here hx rfl (hb hb' d) (hz ▸ q)
theorem i_sipush (w : Wk p l e R s m args below meth c Z own bytes maxL ret mn n0 h0 ws T h k n) {i : Int} {z : Int32} (d : decode bytes pc = .ok (.sipush i, 3)) (hz : (Int16.ofInt i).toInt32 = z) (hp : pc + 3 = pc') (K : Goes p e below P T (mkF m pc' Ls (.int z :: st))) : Goes p e below P T (mkF m pc Ls (st)) := by
  obtain ⟨⟨hx, hb', -⟩, locs, cells, slots, X, -⟩ := w
  subst hp
  exact K.step fun t q => XS.sipush X.here hx rfl (hb hb' d) (hz ▸ q)
theorem i_lconst (w : Wk p l e R s m args below meth c Z own bytes maxL ret mn n0 h0 ws T h k n) {i : Fin 2} {z : Int64} (d : decode bytes pc = .ok (.lconst i, 1)) (hz : Int64.ofNat i = z) (hp : pc + 1 = pc') (K : Goes p e below P T (mkF m pc' Ls (.long z :: st))) : Goes p e below P T (mkF m pc Ls (st)) := by
  obtain ⟨⟨hx, hb', -⟩, locs, cells, slots, X, -⟩ := w
  subst hp
  exact K.step fun t q => XT.lconst X.here hx rfl (hb hb' d) (hz ▸ q)
theorem i_aconstNull (w : Wk p l e R s m args below meth c Z own bytes maxL ret mn n0 h0 ws T h k n)  (d : decode bytes pc = .ok (.aconst_null, 1))  (hp : pc + 1 = pc') (K : Goes p e below P T (mkF m pc' Ls (.null :: st))) : Goes p e below P T (mkF m pc Ls (st)) := by
  obtain ⟨⟨hx, hb', -⟩, locs, cells, slots, X, -⟩ := w
  subst hp
  exact K.step fun t q => XS.aconstNull X.here hx rfl (hb hb' d) q
theorem i_iadd (w : Wk p l e R s m args below meth c Z own bytes maxL ret mn n0 h0 ws T h k n) {x y : Int32} (d : decode bytes pc = .ok (.iadd, 1))  (hp : pc + 1 = pc') (K : Goes p e below P T (mkF m pc' Ls (.int (x + y) :: st))) : Goes p e below P T (mkF m pc Ls (.int y :: .int x :: st)) := by
  obtain ⟨⟨hx, hb', -⟩, locs, cells, slots, X, -⟩ := w
  subst hp
  exact K.step fun t q => XS.iadd X.here hx rfl (hb hb' d) rfl q
theorem i_isub (w : Wk p l e R s m args below meth c Z own bytes maxL ret mn n0 h0 ws T h k n) {x y : Int32} (d : decode bytes pc = .ok (.isub, 1))  (hp : pc + 1 = pc') (K : Goes p e below P T (mkF m pc' Ls (.int (x - y) :: st))) : Goes p e below P T (mkF m pc Ls (.int y :: .int x :: st)) := by
  obtain ⟨⟨hx, hb', -⟩, locs, cells, slots, X, -⟩ := w
  subst hp
  exact K.step fun t q => XS.isub X.here hx rfl (hb hb' d) rfl q
theorem i_imul (w : Wk p l e R s m args below meth c Z own bytes maxL ret mn n0 h0 ws T h k n) {x y : Int32} (d : decode bytes pc = .ok (.imul, 1))  (hp : pc + 1 = pc') (K : Goes p e below P T (mkF m pc' Ls (.int (x * y) :: st))) : Goes p e below P T (mkF m pc Ls (.int y :: .int x :: st)) := by
  obtain ⟨⟨hx, hb', -⟩, locs, cells, slots, X, -⟩ := w
  subst hp
  exact K.step fun t q => XS.imul X.here hx rfl (hb hb' d) rfl q
theorem i_iand (w : Wk p l e R s m args below meth c Z own bytes maxL ret mn n0 h0 ws T h k n) {x y : Int32} (d : decode bytes pc = .ok (.iand, 1))  (hp : pc + 1 = pc') (K : Goes p e below P T (mkF m pc' Ls (.int (x &&& y) :: st))) : Goes p e below P T (mkF m pc Ls (.int y :: .int x :: st)) := by
  obtain ⟨⟨hx, hb', -⟩, locs, cells, slots, X, -⟩ := w
  subst hp
  exact K.step fun t q => XS.iand X.here hx rfl (hb hb' d) rfl q
theorem i_ior (w : Wk p l e R s m args below meth c Z own bytes maxL ret mn n0 h0 ws T h k n) {x y : Int32} (d : decode bytes pc = .ok (.ior, 1))  (hp : pc + 1 = pc') (K : Goes p e below P T (mkF m pc' Ls (.int (x ||| y) :: st))) : Goes p e below P T (mkF m pc Ls (.int y :: .int x :: st)) := by
  obtain ⟨⟨hx, hb', -⟩, locs, cells, slots, X, -⟩ := w
  subst hp
  exact K.step fun t q => XT.ior X.here hx rfl (hb hb' d) rfl q
theorem i_ixor (w : Wk p l e R s m args below meth c Z own bytes maxL ret mn n0 h0 ws T h k n) {x y : Int32} (d : decode bytes pc = .ok (.ixor, 1))  (hp : pc + 1 = pc') (K : Goes p e below P T (mkF m pc' Ls (.int (x ^^^ y) :: st))) : Goes p e below P T (mkF m pc Ls (.int y :: .int x :: st)) := by
  obtain ⟨⟨hx, hb', -⟩, locs, cells, slots, X, -⟩ := w
  subst hp
  exact K.step fun t q => XT.ixor X.here hx rfl (hb hb' d) rfl q
theorem i_ishl (w : Wk p l e R s m args below meth c Z own bytes maxL ret mn n0 h0 ws T h k n) {x y : Int32} (d : decode bytes pc = .ok (.ishl, 1))  (hp : pc + 1 = pc') (K : Goes p e below P T (mkF m pc' Ls (.int (x <<< (y &&& 31)) :: st))) : Goes p e below P T (mkF m pc Ls (.int y :: .int x :: st)) := by
  obtain ⟨⟨hx, hb', -⟩, locs, cells, slots, X, -⟩ := w
  subst hp
  exact K.step fun t q => XT.ishl X.here hx rfl (hb hb' d) rfl q
theorem i_ishr (w : Wk p l e R s m args below meth c Z own bytes maxL ret mn n0 h0 ws T h k n) {x y : Int32} (d : decode bytes pc = .ok (.ishr, 1))  (hp : pc + 1 = pc') (K : Goes p e below P T (mkF m pc' Ls (.int (x >>> (y &&& 31)) :: st))) : Goes p e below P T (mkF m pc Ls (.int y :: .int x :: st)) := by
  obtain ⟨⟨hx, hb', -⟩, locs, cells, slots, X, -⟩ := w
  subst hp
  exact K.step fun t q => XT.ishr X.here hx rfl (hb hb' d) rfl q
theorem i_iushr (w : Wk p l e R s m args below meth c Z own bytes maxL ret mn n0 h0 ws T h k n) {x y : Int32} (d : decode bytes pc = .ok (.iushr, 1))  (hp : pc + 1 = pc') (K : Goes p e below P T (mkF m pc' Ls (.int (XT.ushr x y) :: st))) : Goes p e below P T (mkF m pc Ls (.int y :: .int x :: st)) := by
  obtain ⟨⟨hx, hb', -⟩, locs, cells, slots, X, -⟩ := w
  subst hp
  exact K.step fun t q => XT.iushr X.here hx rfl (hb hb' d) rfl q
theorem i_ladd (w : Wk p l e R s m args below meth c Z own bytes maxL ret mn n0 h0 ws T h k n) {x y : Int64} (d : decode bytes pc = .ok (.ladd, 1))  (hp : pc + 1 = pc') (K : Goes p e below P T (mkF m pc' Ls (.long (x + y) :: st))) : Goes p e below P T (mkF m pc Ls (.long y :: .long x :: st)) := by
  obtain ⟨⟨hx, hb', -⟩, locs, cells, slots, X, -⟩ := w
  subst hp
  exact K.step fun t q => XT.ladd X.here hx rfl (hb hb' d) rfl q
theorem i_lsub (w : Wk p l e R s m args below meth c Z own bytes maxL ret mn n0 h0 ws T h k n) {x y : Int64} (d : decode bytes pc = .ok (.lsub, 1))  (hp : pc + 1 = pc') (K : Goes p e below P T (mkF m pc' Ls (.long (x - y) :: st))) : Goes p e below P T (mkF m pc Ls (.long y :: .long x :: st)) := by
  obtain ⟨⟨hx, hb', -⟩, locs, cells, slots, X, -⟩ := w
  subst hp
  exact K.step fun t q => XT.lsub X.here hx rfl (hb hb' d) rfl q
theorem i_lmul (w : Wk p l e R s m args below meth c Z own bytes maxL ret mn n0 h0 ws T h k n) {x y : Int64} (d : decode bytes pc = .ok (.lmul, 1))  (hp : pc + 1 = pc') (K : Goes p e below P T (mkF m pc' Ls (.long (x * y) :: st))) : Goes p e below P T (mkF m pc Ls (.long y :: .long x :: st)) := by
  obtain ⟨⟨hx, hb', -⟩, locs, cells, slots, X, -⟩ := w
  subst hp
  exact K.step fun t q => XT.lmul X.here hx rfl (hb hb' d) rfl q
theorem i_land (w : Wk p l e R s m args below meth c Z own bytes maxL ret mn n0 h0 ws T h k n) {x y : Int64} (d : decode bytes pc = .ok (.land, 1))  (hp : pc + 1 = pc') (K : Goes p e below P T (mkF m pc' Ls (.long (x &&& y) :: st))) : Goes p e below P T (mkF m pc Ls (.long y :: .long x :: st)) := by
  obtain ⟨⟨hx, hb', -⟩, locs, cells, slots, X, -⟩ := w
  subst hp
  exact K.step fun t q => XT.land X.here hx rfl (hb hb' d) rfl q
theorem i_lor (w : Wk p l e R s m args below meth c Z own bytes maxL ret mn n0 h0 ws T h k n) {x y : Int64} (d : decode bytes pc = .ok (.lor, 1))  (hp : pc + 1 = pc') (K : Goes p e below P T (mkF m pc' Ls (.long (x ||| y) :: st))) : Goes p e below P T (mkF m pc Ls (.long y :: .long x :: st)) := by
  obtain ⟨⟨hx, hb', -⟩, locs, cells, slots, X, -⟩ := w
  subst hp
  exact K.step fun t q => XT.lor X.here hx rfl (hb hb' d) rfl q
theorem i_lxor (w : Wk p l e R s m args below meth c Z own bytes maxL ret mn n0 h0 ws T h k n) {x y : Int64} (d : decode bytes pc = .ok (.lxor, 1))  (hp : pc + 1 = pc') (K : Goes p e below P T (mkF m pc' Ls (.long (x ^^^ y) :: st))) : Goes p e below P T (mkF m pc Ls (.long y :: .long x :: st)) := by
  obtain ⟨⟨hx, hb', -⟩, locs, cells, slots, X, -⟩ := w
  subst hp
  exact K.step fun t q => XT.lxor X.here hx rfl (hb hb' d) rfl q
theorem i_lshl (w : Wk p l e R s m args below meth c Z own bytes maxL ret mn n0 h0 ws T h k n) {x : Int64} {y : Int32} (d : decode bytes pc = .ok (.lshl, 1))  (hp : pc + 1 = pc') (K : Goes p e below P T (mkF m pc' Ls (.long (x <<< (y.toInt64 &&& 63)) :: st))) : Goes p e below P T (mkF m pc Ls (.int y :: .long x :: st)) := by
  obtain ⟨⟨hx, hb', -⟩, locs, cells, slots, X, -⟩ := w
  subst hp
  exact K.step fun t q => XT.lshl X.here hx rfl (hb hb' d) rfl q
theorem i_lshr (w : Wk p l e R s m args below meth c Z own bytes maxL ret mn n0 h0 ws T h k n) {x : Int64} {y : Int32} (d : decode bytes pc = .ok (.lshr, 1))  (hp : pc + 1 = pc') (K : Goes p e below P T (mkF m pc' Ls (.long (x >>> (y.toInt64 &&& 63)) :: st))) : Goes p e below P T (mkF m pc Ls (.int y :: .long x :: st)) := by
  obtain ⟨⟨hx, hb', -⟩, locs, cells, slots, X, -⟩ := w
  subst hp
  exact K.step fun t q => XT.lshr X.here hx rfl (hb hb' d) rfl q
theorem i_lushr (w : Wk p l e R s m args below meth c Z own bytes maxL ret mn n0 h0 ws T h k n) {x : Int64} {y : Int32} (d : decode bytes pc = .ok (.lushr, 1))  (hp : pc + 1 = pc') (K : Goes p e below P T (mkF m pc' Ls (.long (XT.ushrL x y) :: st))) : Goes p e below P T (mkF m pc Ls (.int y :: .long x :: st)) := by
  obtain ⟨⟨hx, hb', -⟩, locs, cells, slots, X, -⟩ := w
  subst hp
  exact K.step fun t q => XT.lushr X.here hx rfl (hb hb' d) rfl q
theorem i_idiv (w : Wk p l e R s m args below meth c Z own bytes maxL ret mn n0 h0 ws T h k n) {x y : Int32} (d : decode bytes pc = .ok (.idiv, 1)) (hy : y ≠ 0) (hp : pc + 1 = pc') (K : Goes p e below P T (mkF m pc' Ls (.int (x / y) :: st))) : Goes p e below P T (mkF m pc Ls (.int y :: .int x :: st)) := by
  obtain ⟨⟨hx, hb', -⟩, locs, cells, slots, X, -⟩ := w
  subst hp
  exact K.step fun t q => XS.idiv X.here hx rfl (hb hb' d) rfl hy q
theorem i_irem (w : Wk p l e R s m args below meth c Z own bytes maxL ret mn n0 h0 ws T h k n) {x y : Int32} (d : decode bytes pc = .ok (.irem, 1)) (hy : y ≠ 0) (hp : pc + 1 = pc') (K : Goes p e below P T (mkF m pc' Ls (.int (x % y) :: st))) : Goes p e below P T (mkF m pc Ls (.int y :: .int x :: st)) := by
  obtain ⟨⟨hx, hb', -⟩, locs, cells, slots, X, -⟩ := w
  subst hp
  exact K.step fun t q => iremM X hx rfl (hb hb' d) rfl hy q
theorem i_lrem (w : Wk p l e R s m args below meth c Z own bytes maxL ret mn n0 h0 ws T h k n) {x y : Int64} (d : decode bytes pc = .ok (.lrem, 1)) (hy : y ≠ 0) (hp : pc + 1 = pc') (K : Goes p e below P T (mkF m pc' Ls (.long (x - (x / y) * y) :: st))) : Goes p e below P T (mkF m pc Ls (.long y :: .long x :: st)) := by
  obtain ⟨⟨hx, hb', -⟩, locs, cells, slots, X, -⟩ := w
  subst hp
  exact K.step fun t q => XT.lrem X.here hx rfl (hb hb' d) rfl hy q
theorem i_ineg (w : Wk p l e R s m args below meth c Z own bytes maxL ret mn n0 h0 ws T h k n) {x : Int32} (d : decode bytes pc = .ok (.ineg, 1))  (hp : pc + 1 = pc') (K : Goes p e below P T (mkF m pc' Ls (.int (-x) :: st))) : Goes p e below P T (mkF m pc Ls (.int x :: st)) := by
  obtain ⟨⟨hx, hb', -⟩, locs, cells, slots, X, -⟩ := w
  subst hp
  exact K.step fun t q => XS.ineg X.here hx rfl (hb hb' d) rfl q
theorem i_i2l (w : Wk p l e R s m args below meth c Z own bytes maxL ret mn n0 h0 ws T h k n) {x : Int32} (d : decode bytes pc = .ok (.i2l, 1))  (hp : pc + 1 = pc') (K : Goes p e below P T (mkF m pc' Ls (.long x.toInt64 :: st))) : Goes p e below P T (mkF m pc Ls (.int x :: st)) := by
  obtain ⟨⟨hx, hb', -⟩, locs, cells, slots, X, -⟩ := w
  subst hp
  exact K.step fun t q => XT.i2l X.here hx rfl (hb hb' d) rfl q
theorem i_l2i (w : Wk p l e R s m args below meth c Z own bytes maxL ret mn n0 h0 ws T h k n) {x : Int64} (d : decode bytes pc = .ok (.l2i, 1))  (hp : pc + 1 = pc') (K : Goes p e below P T (mkF m pc' Ls (.int x.toInt32 :: st))) : Goes p e below P T (mkF m pc Ls (.long x :: st)) := by
  obtain ⟨⟨hx, hb', -⟩, locs, cells, slots, X, -⟩ := w
  subst hp
  exact K.step fun t q => XT.l2i X.here hx rfl (hb hb' d) rfl q
theorem i_i2b (w : Wk p l e R s m args below meth c Z own bytes maxL ret mn n0 h0 ws T h k n) {x : Int32} (d : decode bytes pc = .ok (.i2b, 1))  (hp : pc + 1 = pc') (K : Goes p e below P T (mkF m pc' Ls (.int x.toInt8.toInt32 :: st))) : Goes p e below P T (mkF m pc Ls (.int x :: st)) := by
  obtain ⟨⟨hx, hb', -⟩, locs, cells, slots, X, -⟩ := w
  subst hp
  exact K.step fun t q => XT.i2b X.here hx rfl (hb hb' d) rfl q
theorem i_i2c (w : Wk p l e R s m args below meth c Z own bytes maxL ret mn n0 h0 ws T h k n) {x : Int32} (d : decode bytes pc = .ok (.i2c, 1))  (hp : pc + 1 = pc') (K : Goes p e below P T (mkF m pc' Ls (.int (nar .char x) :: st))) : Goes p e below P T (mkF m pc Ls (.int x :: st)) := by
  obtain ⟨⟨hx, hb', -⟩, locs, cells, slots, X, -⟩ := w
  subst hp
  exact K.step fun t q => XT.i2c X.here hx rfl (hb hb' d) rfl q
theorem i_lcmp (w : Wk p l e R s m args below meth c Z own bytes maxL ret mn n0 h0 ws T h k n) {x y : Int64} (d : decode bytes pc = .ok (.lcmp, 1))  (hp : pc + 1 = pc') (K : Goes p e below P T (mkF m pc' Ls (.int (XT.cmpL x y) :: st))) : Goes p e below P T (mkF m pc Ls (.long y :: .long x :: st)) := by
  obtain ⟨⟨hx, hb', -⟩, locs, cells, slots, X, -⟩ := w
  subst hp
  exact K.step fun t q => XT.lcmp X.here hx rfl (hb hb' d) rfl q
theorem i_pop (w : Wk p l e R s m args below meth c Z own bytes maxL ret mn n0 h0 ws T h k n) {x : Value} (d : decode bytes pc = .ok (.pop, 1)) (hc : x.category = 1) (hp : pc + 1 = pc') (K : Goes p e below P T (mkF m pc' Ls (st))) : Goes p e below P T (mkF m pc Ls (x :: st)) := by
  obtain ⟨⟨hx, hb', -⟩, locs, cells, slots, X, -⟩ := w
  subst hp
  exact K.step fun t q => XT.pop X.here hx rfl (hb hb' d) rfl hc q
theorem i_dup (w : Wk p l e R s m args below meth c Z own bytes maxL ret mn n0 h0 ws T h k n) {x : Value} (d : decode bytes pc = .ok (.dup, 1)) (hc : x.category = 1) (hp : pc + 1 = pc') (K : Goes p e below P T (mkF m pc' Ls (x :: x :: st))) : Goes p e below P T (mkF m pc Ls (x :: st)) := by
  obtain ⟨⟨hx, hb', -⟩, locs, cells, slots, X, -⟩ := w
  subst hp
  exact K.step fun t q => XS.dup X.here hx rfl (hb hb' d) rfl hc q
theorem i_dupX1 (w : Wk p l e R s m args below meth c Z own bytes maxL ret mn n0 h0 ws T h k n) {x y : Value} (d : decode bytes pc = .ok (.dup_x1, 1)) (hc : x.category = 1) (hc' : y.category = 1) (hp : pc + 1 = pc') (K : Goes p e below P T (mkF m pc' Ls (x :: y :: x :: st))) : Goes p e below P T (mkF m pc Ls (x :: y :: st)) := by
  obtain ⟨⟨hx, hb', -⟩, locs, cells, slots, X, -⟩ := w
  subst hp
  exact K.step fun t q => XT.dupX1 X.here hx rfl (hb hb' d) rfl hc hc' q
theorem i_dup2 (w : Wk p l e R s m args below meth c Z own bytes maxL ret mn n0 h0 ws T h k n) {x y : Value} (d : decode bytes pc = .ok (.dup2, 1)) (hc : x.category = 1) (hc' : y.category = 1) (hp : pc + 1 = pc') (K : Goes p e below P T (mkF m pc' Ls (x :: y :: x :: y :: st))) : Goes p e below P T (mkF m pc Ls (x :: y :: st)) := by
  obtain ⟨⟨hx, hb', -⟩, locs, cells, slots, X, -⟩ := w
  subst hp
  exact K.step fun t q => XT.dup2 X.here hx rfl (hb hb' d) rfl hc hc' q
theorem i_istore (w : Wk p l e R s m args below meth c Z own bytes maxL ret mn n0 h0 ws T h k n) {i : Nat} {z : Int32} {l' : Array Slot} (d : decode bytes pc = .ok (.istore i, 2)) (hl : storeLocals Ls i (.int z) = some l') (hp : pc + 2 = pc') (K : Goes p e below P T (mkF m pc' l' (st))) : Goes p e below P T (mkF m pc Ls (.int z :: st)) := by
  obtain ⟨⟨hx, hb', -⟩, locs, cells, slots, X, -⟩ := w
  subst hp
  exact K.step fun t q => XS.istore X.here hx rfl (hb hb' d) rfl hl q
theorem i_istoreN (w : Wk p l e R s m args below meth c Z own bytes maxL ret mn n0 h0 ws T h k n) {i : Fin 4} {z : Int32} {l' : Array Slot} (d : decode bytes pc = .ok (.istore_n i, 1)) (hl : storeLocals Ls i.val (.int z) = some l') (hp : pc + 1 = pc') (K : Goes p e below P T (mkF m pc' l' (st))) : Goes p e below P T (mkF m pc Ls (.int z :: st)) := by
  obtain ⟨⟨hx, hb', -⟩, locs, cells, slots, X, -⟩ := w
  subst hp
  exact K.step fun t q => XS.istoreN X.here hx rfl (hb hb' d) rfl hl q
theorem i_lstore (w : Wk p l e R s m args below meth c Z own bytes maxL ret mn n0 h0 ws T h k n) {i : Nat} {z : Int64} {l' : Array Slot} (d : decode bytes pc = .ok (.lstore i, 2)) (hl : storeLocals Ls i (.long z) = some l') (hp : pc + 2 = pc') (K : Goes p e below P T (mkF m pc' l' (st))) : Goes p e below P T (mkF m pc Ls (.long z :: st)) := by
  obtain ⟨⟨hx, hb', -⟩, locs, cells, slots, X, -⟩ := w
  subst hp
  exact K.step fun t q => XT.lstore X.here hx rfl (hb hb' d) rfl hl q
theorem i_lstoreN (w : Wk p l e R s m args below meth c Z own bytes maxL ret mn n0 h0 ws T h k n) {i : Fin 4} {z : Int64} {l' : Array Slot} (d : decode bytes pc = .ok (.lstore_n i, 1)) (hl : storeLocals Ls i.val (.long z) = some l') (hp : pc + 1 = pc') (K : Goes p e below P T (mkF m pc' l' (st))) : Goes p e below P T (mkF m pc Ls (.long z :: st)) := by
  obtain ⟨⟨hx, hb', -⟩, locs, cells, slots, X, -⟩ := w
  subst hp
  exact K.step fun t q => XT.lstoreN X.here hx rfl (hb hb' d) rfl hl q
theorem i_astore (w : Wk p l e R s m args below meth c Z own bytes maxL ret mn n0 h0 ws T h k n) {i : Nat} {v : Value} {l' : Array Slot} (d : decode bytes pc = .ok (.astore i, 2)) (hv : v.isRef = true) (hl : storeLocals Ls i v = some l') (hp : pc + 2 = pc') (K : Goes p e below P T (mkF m pc' l' (st))) : Goes p e below P T (mkF m pc Ls (v :: st)) := by
  obtain ⟨⟨hx, hb', -⟩, locs, cells, slots, X, -⟩ := w
  subst hp
  exact K.step fun t q => XS.astore X.here hx rfl (hb hb' d) rfl hv hl q
theorem i_astoreN (w : Wk p l e R s m args below meth c Z own bytes maxL ret mn n0 h0 ws T h k n) {i : Fin 4} {v : Value} {l' : Array Slot} (d : decode bytes pc = .ok (.astore_n i, 1)) (hv : v.isRef = true) (hl : storeLocals Ls i.val v = some l') (hp : pc + 1 = pc') (K : Goes p e below P T (mkF m pc' l' (st))) : Goes p e below P T (mkF m pc Ls (v :: st)) := by
  obtain ⟨⟨hx, hb', -⟩, locs, cells, slots, X, -⟩ := w
  subst hp
  exact K.step fun t q => XS.astoreN X.here hx rfl (hb hb' d) rfl hv hl q
theorem i_iinc (w : Wk p l e R s m args below meth c Z own bytes maxL ret mn n0 h0 ws T h k n) {i : Nat} {cst : Int} {x z : Int32} {l' : Array Slot} (d : decode bytes pc = .ok (.iinc i cst, 3)) (hl : Ls[i]? = some (.val (.int x))) (hz : x + Int32.ofInt cst = z) (hl' : storeLocals Ls i (.int z) = some l') (hp : pc + 3 = pc') (K : Goes p e below P T (mkF m pc' l' (st))) : Goes p e below P T (mkF m pc Ls (st)) := by
  obtain ⟨⟨hx, hb', -⟩, locs, cells, slots, X, -⟩ := w
  subst hp
  exact K.step fun t q => XS.iinc X.here hx rfl (hb hb' d) hl (by rw [hz]; exact hl') q
theorem i_goto (w : Wk p l e R s m args below meth c Z own bytes maxL ret mn n0 h0 ws T h k n) {o : Int} (d : decode bytes pc = .ok (.goto o, 3)) (hp : (pc : Int) + o = (pc' : Int)) (K : Goes p e below P T (mkF m pc' Ls (st))) : Goes p e below P T (mkF m pc Ls (st)) := by
  obtain ⟨⟨hx, hb', -⟩, locs, cells, slots, X, -⟩ := w
  exact K.step fun t q => XS.goto X.here hx rfl (pc0 := pc) (pc' := pc') rfl (hb hb' d) (by omega) (by omega) q
theorem i_icmp_eq_Y (w : Wk p l e R s m args below meth c Z own bytes maxL ret mn n0 h0 ws T h k n) {x y : Int32} {o : Int} (hc : x = y) (d : decode bytes pc = .ok (.if_icmp .eq o, 3)) (hp : (pc : Int) + o = (pc' : Int)) (K : Goes p e below P T (mkF m pc' Ls (st))) : Goes p e below P T (mkF m pc Ls (.int y :: .int x :: st)) := by
  obtain ⟨⟨hx, hb', -⟩, locs, cells, slots, X, -⟩ := w
  exact K.step fun t q => XS.icmpYes X.here hx rfl (pc0 := pc) (pc' := pc') rfl (hb hb' d) rfl (teq hc).1 (by omega) (by omega) q
theorem i_icmp_eq_N (w : Wk p l e R s m args below meth c Z own bytes maxL ret mn n0 h0 ws T h k n) {x y : Int32} {o : Int} (hc : ¬ x = y) (d : decode bytes pc = .ok (.if_icmp .eq o, 3)) (hp : pc + 3 = pc') (K : Goes p e below P T (mkF m pc' Ls (st))) : Goes p e below P T (mkF m pc Ls (.int y :: .int x :: st)) := by
  obtain ⟨⟨hx, hb', -⟩, locs, cells, slots, X, -⟩ := w
  subst hp
  exact K.step fun t q => XS.icmpNo X.here hx rfl (hb hb' d) rfl (feq hc).1 q
theorem i_icmp_eq (w : Wk p l e R s m args below meth c Z own bytes maxL ret mn n0 h0 ws T h k n) {x y : Int32} {o : Int} {pcY : Nat} (d : decode bytes pc = .ok (.if_icmp .eq o, 3)) (hy : (pc : Int) + o = (pcY : Int)) (hp : pc + 3 = pc') (KY : x = y → Goes p e below P T (mkF m pcY Ls (st))) (KN : ¬ x = y → Goes p e below P T (mkF m pc' Ls (st))) : Goes p e below P T (mkF m pc Ls (.int y :: .int x :: st)) :=
  Decidable.byCases (fun hc : x = y => i_icmp_eq_Y w hc d hy (KY hc)) (fun hc => i_icmp_eq_N w (hc) d hp (KN (hc)))
theorem i_if_eq_Y (w : Wk p l e R s m args below meth c Z own bytes maxL ret mn n0 h0 ws T h k n) {x : Int32} {o : Int} (hc : x = 0) (d : decode bytes pc = .ok (.ifCond .eq o, 3)) (hp : (pc : Int) + o = (pc' : Int)) (K : Goes p e below P T (mkF m pc' Ls (st))) : Goes p e below P T (mkF m pc Ls (.int x :: st)) := by
  obtain ⟨⟨hx, hb', -⟩, locs, cells, slots, X, -⟩ := w
  exact K.step fun t q => XS.ifYes X.here hx rfl (pc0 := pc) (pc' := pc') rfl (hb hb' d) rfl ((if0 _ _).trans (teq hc).1) (by omega) (by omega) q
theorem i_if_eq_N (w : Wk p l e R s m args below meth c Z own bytes maxL ret mn n0 h0 ws T h k n) {x : Int32} {o : Int} (hc : ¬ x = 0) (d : decode bytes pc = .ok (.ifCond .eq o, 3)) (hp : pc + 3 = pc') (K : Goes p e below P T (mkF m pc' Ls (st))) : Goes p e below P T (mkF m pc Ls (.int x :: st)) := by
  obtain ⟨⟨hx, hb', -⟩, locs, cells, slots, X, -⟩ := w
  subst hp
  exact K.step fun t q => XS.ifNo X.here hx rfl (hb hb' d) rfl ((if0 _ _).trans (feq hc).1) q
theorem i_if_eq (w : Wk p l e R s m args below meth c Z own bytes maxL ret mn n0 h0 ws T h k n) {x : Int32} {o : Int} {pcY : Nat} (d : decode bytes pc = .ok (.ifCond .eq o, 3)) (hy : (pc : Int) + o = (pcY : Int)) (hp : pc + 3 = pc') (KY : x = 0 → Goes p e below P T (mkF m pcY Ls (st))) (KN : ¬ x = 0 → Goes p e below P T (mkF m pc' Ls (st))) : Goes p e below P T (mkF m pc Ls (.int x :: st)) :=
  Decidable.byCases (fun hc : x = 0 => i_if_eq_Y w hc d hy (KY hc)) (fun hc => i_if_eq_N w (hc) d hp (KN (hc)))
theorem i_icmp_ne_Y (w : Wk p l e R s m args below meth c Z own bytes maxL ret mn n0 h0 ws T h k n) {x y : Int32} {o : Int} (hc : ¬ x = y) (d : decode bytes pc = .ok (.if_icmp .ne o, 3)) (hp : (pc : Int) + o = (pc' : Int)) (K : Goes p e below P T (mkF m pc' Ls (st))) : Goes p e below P T (mkF m pc Ls (.int y :: .int x :: st)) := by
  obtain ⟨⟨hx, hb', -⟩, locs, cells, slots, X, -⟩ := w
  exact K.step fun t q => XS.icmpYes X.here hx rfl (pc0 := pc) (pc' := pc') rfl (hb hb' d) rfl (feq hc).2 (by omega) (by omega) q
theorem i_icmp_ne_N (w : Wk p l e R s m args below meth c Z own bytes maxL ret mn n0 h0 ws T h k n) {x y : Int32} {o : Int} (hc : x = y) (d : decode bytes pc = .ok (.if_icmp .ne o, 3)) (hp : pc + 3 = pc') (K : Goes p e below P T (mkF m pc' Ls (st))) : Goes p e below P T (mkF m pc Ls (.int y :: .int x :: st)) := by
  obtain ⟨⟨hx, hb', -⟩, locs, cells, slots, X, -⟩ := w
  subst hp
  exact K.step fun t q => XS.icmpNo X.here hx rfl (hb hb' d) rfl (teq hc).2 q
theorem i_icmp_ne (w : Wk p l e R s m args below meth c Z own bytes maxL ret mn n0 h0 ws T h k n) {x y : Int32} {o : Int} {pcY : Nat} (d : decode bytes pc = .ok (.if_icmp .ne o, 3)) (hy : (pc : Int) + o = (pcY : Int)) (hp : pc + 3 = pc') (KY : ¬ x = y → Goes p e below P T (mkF m pcY Ls (st))) (KN : x = y → Goes p e below P T (mkF m pc' Ls (st))) : Goes p e below P T (mkF m pc Ls (.int y :: .int x :: st)) :=
  Decidable.byCases (fun hc : ¬ x = y => i_icmp_ne_Y w hc d hy (KY hc)) (fun hc => i_icmp_ne_N w (Decidable.not_not.mp hc) d hp (KN (Decidable.not_not.mp hc)))
theorem i_if_ne_Y (w : Wk p l e R s m args below meth c Z own bytes maxL ret mn n0 h0 ws T h k n) {x : Int32} {o : Int} (hc : ¬ x = 0) (d : decode bytes pc = .ok (.ifCond .ne o, 3)) (hp : (pc : Int) + o = (pc' : Int)) (K : Goes p e below P T (mkF m pc' Ls (st))) : Goes p e below P T (mkF m pc Ls (.int x :: st)) := by
  obtain ⟨⟨hx, hb', -⟩, locs, cells, slots, X, -⟩ := w
  exact K.step fun t q => XS.ifYes X.here hx rfl (pc0 := pc) (pc' := pc') rfl (hb hb' d) rfl ((if0 _ _).trans (feq hc).2) (by omega) (by omega) q
theorem i_if_ne_N (w : Wk p l e R s m args below meth c Z own bytes maxL ret mn n0 h0 ws T h k n) {x : Int32} {o : Int} (hc : x = 0) (d : decode bytes pc = .ok (.ifCond .ne o, 3)) (hp : pc + 3 = pc') (K : Goes p e below P T (mkF m pc' Ls (st))) : Goes p e below P T (mkF m pc Ls (.int x :: st)) := by
  obtain ⟨⟨hx, hb', -⟩, locs, cells, slots, X, -⟩ := w
  subst hp
  exact K.step fun t q => XS.ifNo X.here hx rfl (hb hb' d) rfl ((if0 _ _).trans (teq hc).2) q
theorem i_if_ne (w : Wk p l e R s m args below meth c Z own bytes maxL ret mn n0 h0 ws T h k n) {x : Int32} {o : Int} {pcY : Nat} (d : decode bytes pc = .ok (.ifCond .ne o, 3)) (hy : (pc : Int) + o = (pcY : Int)) (hp : pc + 3 = pc') (KY : ¬ x = 0 → Goes p e below P T (mkF m pcY Ls (st))) (KN : x = 0 → Goes p e below P T (mkF m pc' Ls (st))) : Goes p e below P T (mkF m pc Ls (.int x :: st)) :=
  Decidable.byCases (fun hc : ¬ x = 0 => i_if_ne_Y w hc d hy (KY hc)) (fun hc => i_if_ne_N w (Decidable.not_not.mp hc) d hp (KN (Decidable.not_not.mp hc)))
theorem i_icmp_lt_Y (w : Wk p l e R s m args below meth c Z own bytes maxL ret mn n0 h0 ws T h k n) {x y : Int32} {o : Int} (hc : x < y) (d : decode bytes pc = .ok (.if_icmp .lt o, 3)) (hp : (pc : Int) + o = (pc' : Int)) (K : Goes p e below P T (mkF m pc' Ls (st))) : Goes p e below P T (mkF m pc Ls (.int y :: .int x :: st)) := by
  obtain ⟨⟨hx, hb', -⟩, locs, cells, slots, X, -⟩ := w
  exact K.step fun t q => XS.icmpYes X.here hx rfl (pc0 := pc) (pc' := pc') rfl (hb hb' d) rfl (tlt hc).1 (by omega) (by omega) q
theorem i_icmp_lt_N (w : Wk p l e R s m args below meth c Z own bytes maxL ret mn n0 h0 ws T h k n) {x y : Int32} {o : Int} (hc : ¬ x < y) (d : decode bytes pc = .ok (.if_icmp .lt o, 3)) (hp : pc + 3 = pc') (K : Goes p e below P T (mkF m pc' Ls (st))) : Goes p e below P T (mkF m pc Ls (.int y :: .int x :: st)) := by
  obtain ⟨⟨hx, hb', -⟩, locs, cells, slots, X, -⟩ := w
  subst hp
  exact K.step fun t q => XS.icmpNo X.here hx rfl (hb hb' d) rfl (flt hc).1 q
theorem i_icmp_lt (w : Wk p l e R s m args below meth c Z own bytes maxL ret mn n0 h0 ws T h k n) {x y : Int32} {o : Int} {pcY : Nat} (d : decode bytes pc = .ok (.if_icmp .lt o, 3)) (hy : (pc : Int) + o = (pcY : Int)) (hp : pc + 3 = pc') (KY : x < y → Goes p e below P T (mkF m pcY Ls (st))) (KN : ¬ x < y → Goes p e below P T (mkF m pc' Ls (st))) : Goes p e below P T (mkF m pc Ls (.int y :: .int x :: st)) :=
  Decidable.byCases (fun hc : x < y => i_icmp_lt_Y w hc d hy (KY hc)) (fun hc => i_icmp_lt_N w (hc) d hp (KN (hc)))
theorem i_if_lt_Y (w : Wk p l e R s m args below meth c Z own bytes maxL ret mn n0 h0 ws T h k n) {x : Int32} {o : Int} (hc : x < 0) (d : decode bytes pc = .ok (.ifCond .lt o, 3)) (hp : (pc : Int) + o = (pc' : Int)) (K : Goes p e below P T (mkF m pc' Ls (st))) : Goes p e below P T (mkF m pc Ls (.int x :: st)) := by
  obtain ⟨⟨hx, hb', -⟩, locs, cells, slots, X, -⟩ := w
  exact K.step fun t q => XS.ifYes X.here hx rfl (pc0 := pc) (pc' := pc') rfl (hb hb' d) rfl ((if0 _ _).trans (tlt hc).1) (by omega) (by omega) q
theorem i_if_lt_N (w : Wk p l e R s m args below meth c Z own bytes maxL ret mn n0 h0 ws T h k n) {x : Int32} {o : Int} (hc : ¬ x < 0) (d : decode bytes pc = .ok (.ifCond .lt o, 3)) (hp : pc + 3 = pc') (K : Goes p e below P T (mkF m pc' Ls (st))) : Goes p e below P T (mkF m pc Ls (.int x :: st)) := by
  obtain ⟨⟨hx, hb', -⟩, locs, cells, slots, X, -⟩ := w
  subst hp
  exact K.step fun t q => XS.ifNo X.here hx rfl (hb hb' d) rfl ((if0 _ _).trans (flt hc).1) q
theorem i_if_lt (w : Wk p l e R s m args below meth c Z own bytes maxL ret mn n0 h0 ws T h k n) {x : Int32} {o : Int} {pcY : Nat} (d : decode bytes pc = .ok (.ifCond .lt o, 3)) (hy : (pc : Int) + o = (pcY : Int)) (hp : pc + 3 = pc') (KY : x < 0 → Goes p e below P T (mkF m pcY Ls (st))) (KN : ¬ x < 0 → Goes p e below P T (mkF m pc' Ls (st))) : Goes p e below P T (mkF m pc Ls (.int x :: st)) :=
  Decidable.byCases (fun hc : x < 0 => i_if_lt_Y w hc d hy (KY hc)) (fun hc => i_if_lt_N w (hc) d hp (KN (hc)))
theorem i_icmp_ge_Y (w : Wk p l e R s m args below meth c Z own bytes maxL ret mn n0 h0 ws T h k n) {x y : Int32} {o : Int} (hc : ¬ x < y) (d : decode bytes pc = .ok (.if_icmp .ge o, 3)) (hp : (pc : Int) + o = (pc' : Int)) (K : Goes p e below P T (mkF m pc' Ls (st))) : Goes p e below P T (mkF m pc Ls (.int y :: .int x :: st)) := by
  obtain ⟨⟨hx, hb', -⟩, locs, cells, slots, X, -⟩ := w
  exact K.step fun t q => XS.icmpYes X.here hx rfl (pc0 := pc) (pc' := pc') rfl (hb hb' d) rfl (flt hc).2.1 (by omega) (by omega) q
theorem i_icmp_ge_N (w : Wk p l e R s m args below meth c Z own bytes maxL ret mn n0 h0 ws T h k n) {x y : Int32} {o : Int} (hc : x < y) (d : decode bytes pc = .ok (.if_icmp .ge o, 3)) (hp : pc + 3 = pc') (K : Goes p e below P T (mkF m pc' Ls (st))) : Goes p e below P T (mkF m pc Ls (.int y :: .int x :: st)) := by
  obtain ⟨⟨hx, hb', -⟩, locs, cells, slots, X, -⟩ := w
  subst hp
  exact K.step fun t q => XS.icmpNo X.here hx rfl (hb hb' d) rfl (tlt hc).2.1 q
theorem i_icmp_ge (w : Wk p l e R s m args below meth c Z own bytes maxL ret mn n0 h0 ws T h k n) {x y : Int32} {o : Int} {pcY : Nat} (d : decode bytes pc = .ok (.if_icmp .ge o, 3)) (hy : (pc : Int) + o = (pcY : Int)) (hp : pc + 3 = pc') (KY : ¬ x < y → Goes p e below P T (mkF m pcY Ls (st))) (KN : x < y → Goes p e below P T (mkF m pc' Ls (st))) : Goes p e below P T (mkF m pc Ls (.int y :: .int x :: st)) :=
  Decidable.byCases (fun hc : ¬ x < y => i_icmp_ge_Y w hc d hy (KY hc)) (fun hc => i_icmp_ge_N w (Decidable.not_not.mp hc) d hp (KN (Decidable.not_not.mp hc)))
theorem i_if_ge_Y (w : Wk p l e R s m args below meth c Z own bytes maxL ret mn n0 h0 ws T h k n) {x : Int32} {o : Int} (hc : ¬ x < 0) (d : decode bytes pc = .ok (.ifCond .ge o, 3)) (hp : (pc : Int) + o = (pc' : Int)) (K : Goes p e below P T (mkF m pc' Ls (st))) : Goes p e below P T (mkF m pc Ls (.int x :: st)) := by
  obtain ⟨⟨hx, hb', -⟩, locs, cells, slots, X, -⟩ := w
  exact K.step fun t q => XS.ifYes X.here hx rfl (pc0 := pc) (pc' := pc') rfl (hb hb' d) rfl ((if0 _ _).trans (flt hc).2.1) (by omega) (by omega) q
theorem i_if_ge_N (w : Wk p l e R s m args below meth c Z own bytes maxL ret mn n0 h0 ws T h k n) {x : Int32} {o : Int} (hc : x < 0) (d : decode bytes pc = .ok (.ifCond .ge o, 3)) (hp : pc + 3 = pc') (K : Goes p e below P T (mkF m pc' Ls (st))) : Goes p e below P T (mkF m pc Ls (.int x :: st)) := by
  obtain ⟨⟨hx, hb', -⟩, locs, cells, slots, X, -⟩ := w
  subst hp
  exact K.step fun t q => XS.ifNo X.here hx rfl (hb hb' d) rfl ((if0 _ _).trans (tlt hc).2.1) q
theorem i_if_ge (w : Wk p l e R s m args below meth c Z own bytes maxL ret mn n0 h0 ws T h k n) {x : Int32} {o : Int} {pcY : Nat} (d : decode bytes pc = .ok (.ifCond .ge o, 3)) (hy : (pc : Int) + o = (pcY : Int)) (hp : pc + 3 = pc') (KY : ¬ x < 0 → Goes p e below P T (mkF m pcY Ls (st))) (KN : x < 0 → Goes p e below P T (mkF m pc' Ls (st))) : Goes p e below P T (mkF m pc Ls (.int x :: st)) :=
  Decidable.byCases (fun hc : ¬ x < 0 => i_if_ge_Y w hc d hy (KY hc)) (fun hc => i_if_ge_N w (Decidable.not_not.mp hc) d hp (KN (Decidable.not_not.mp hc)))
theorem i_icmp_gt_Y (w : Wk p l e R s m args below meth c Z own bytes maxL ret mn n0 h0 ws T h k n) {x y : Int32} {o : Int} (hc : y < x) (d : decode bytes pc = .ok (.if_icmp .gt o, 3)) (hp : (pc : Int) + o = (pc' : Int)) (K : Goes p e below P T (mkF m pc' Ls (st))) : Goes p e below P T (mkF m pc Ls (.int y :: .int x :: st)) := by
  obtain ⟨⟨hx, hb', -⟩, locs, cells, slots, X, -⟩ := w
  exact K.step fun t q => XS.icmpYes X.here hx rfl (pc0 := pc) (pc' := pc') rfl (hb hb' d) rfl (tlt hc).2.2.1 (by omega) (by omega) q
theorem i_icmp_gt_N (w : Wk p l e R s m args below meth c Z own bytes maxL ret mn n0 h0 ws T h k n) {x y : Int32} {o : Int} (hc : ¬ y < x) (d : decode bytes pc = .ok (.if_icmp .gt o, 3)) (hp : pc + 3 = pc') (K : Goes p e below P T (mkF m pc' Ls (st))) : Goes p e below P T (mkF m pc Ls (.int y :: .int x :: st)) := by
  obtain ⟨⟨hx, hb', -⟩, locs, cells, slots, X, -⟩ := w
  subst hp
  exact K.step fun t q => XS.icmpNo X.here hx rfl (hb hb' d) rfl (flt hc).2.2.1 q
theorem i_icmp_gt (w : Wk p l e R s m args below meth c Z own bytes maxL ret mn n0 h0 ws T h k n) {x y : Int32} {o : Int} {pcY : Nat} (d : decode bytes pc = .ok (.if_icmp .gt o, 3)) (hy : (pc : Int) + o = (pcY : Int)) (hp : pc + 3 = pc') (KY : y < x → Goes p e below P T (mkF m pcY Ls (st))) (KN : ¬ y < x → Goes p e below P T (mkF m pc' Ls (st))) : Goes p e below P T (mkF m pc Ls (.int y :: .int x :: st)) :=
  Decidable.byCases (fun hc : y < x => i_icmp_gt_Y w hc d hy (KY hc)) (fun hc => i_icmp_gt_N w (hc) d hp (KN (hc)))
theorem i_if_gt_Y (w : Wk p l e R s m args below meth c Z own bytes maxL ret mn n0 h0 ws T h k n) {x : Int32} {o : Int} (hc : 0 < x) (d : decode bytes pc = .ok (.ifCond .gt o, 3)) (hp : (pc : Int) + o = (pc' : Int)) (K : Goes p e below P T (mkF m pc' Ls (st))) : Goes p e below P T (mkF m pc Ls (.int x :: st)) := by
  obtain ⟨⟨hx, hb', -⟩, locs, cells, slots, X, -⟩ := w
  exact K.step fun t q => XS.ifYes X.here hx rfl (pc0 := pc) (pc' := pc') rfl (hb hb' d) rfl ((if0 _ _).trans (tlt hc).2.2.1) (by omega) (by omega) q
theorem i_if_gt_N (w : Wk p l e R s m args below meth c Z own bytes maxL ret mn n0 h0 ws T h k n) {x : Int32} {o : Int} (hc : ¬ 0 < x) (d : decode bytes pc = .ok (.ifCond .gt o, 3)) (hp : pc + 3 = pc') (K : Goes p e below P T (mkF m pc' Ls (st))) : Goes p e below P T (mkF m pc Ls (.int x :: st)) := by
  obtain ⟨⟨hx, hb', -⟩, locs, cells, slots, X, -⟩ := w
  subst hp
  exact K.step fun t q => XS.ifNo X.here hx rfl (hb hb' d) rfl ((if0 _ _).trans (flt hc).2.2.1) q
theorem i_if_gt (w : Wk p l e R s m args below meth c Z own bytes maxL ret mn n0 h0 ws T h k n) {x : Int32} {o : Int} {pcY : Nat} (d : decode bytes pc = .ok (.ifCond .gt o, 3)) (hy : (pc : Int) + o = (pcY : Int)) (hp : pc + 3 = pc') (KY : 0 < x → Goes p e below P T (mkF m pcY Ls (st))) (KN : ¬ 0 < x → Goes p e below P T (mkF m pc' Ls (st))) : Goes p e below P T (mkF m pc Ls (.int x :: st)) :=
  Decidable.byCases (fun hc : 0 < x => i_if_gt_Y w hc d hy (KY hc)) (fun hc => i_if_gt_N w (hc) d hp (KN (hc)))
theorem i_icmp_le_Y (w : Wk p l e R s m args below meth c Z own bytes maxL ret mn n0 h0 ws T h k n) {x y : Int32} {o : Int} (hc : ¬ y < x) (d : decode bytes pc = .ok (.if_icmp .le o, 3)) (hp : (pc : Int) + o = (pc' : Int)) (K : Goes p e below P T (mkF m pc' Ls (st))) : Goes p e below P T (mkF m pc Ls (.int y :: .int x :: st)) := by
  obtain ⟨⟨hx, hb', -⟩, locs, cells, slots, X, -⟩ := w
  exact K.step fun t q => XS.icmpYes X.here hx rfl (pc0 := pc) (pc' := pc') rfl (hb hb' d) rfl (flt hc).2.2.2 (by omega) (by omega) q
theorem i_icmp_le_N (w : Wk p l e R s m args below meth c Z own bytes maxL ret mn n0 h0 ws T h k n) {x y : Int32} {o : Int} (hc : y < x) (d : decode bytes pc = .ok (.if_icmp .le o, 3)) (hp : pc + 3 = pc') (K : Goes p e below P T (mkF m pc' Ls (st))) : Goes p e below P T (mkF m pc Ls (.int y :: .int x :: st)) := by
  obtain ⟨⟨hx, hb', -⟩, locs, cells, slots, X, -⟩ := w
  subst hp
  exact K.step fun t q => XS.icmpNo X.here hx rfl (hb hb' d) rfl (tlt hc).2.2.2 q
theorem i_icmp_le (w : Wk p l e R s m args below meth c Z own bytes maxL ret mn n0 h0 ws T h k n) {x y : Int32} {o : Int} {pcY : Nat} (d : decode bytes pc = .ok (.if_icmp .le o, 3)) (hy : (pc : Int) + o = (pcY : Int)) (hp : pc + 3 = pc') (KY : ¬ y < x → Goes p e below P T (mkF m pcY Ls (st))) (KN : y < x → Goes p e below P T (mkF m pc' Ls (st))) : Goes p e below P T (mkF m pc Ls (.int y :: .int x :: st)) :=
  Decidable.byCases (fun hc : ¬ y < x => i_icmp_le_Y w hc d hy (KY hc)) (fun hc => i_icmp_le_N w (Decidable.not_not.mp hc) d hp (KN (Decidable.not_not.mp hc)))
theorem i_if_le_Y (w : Wk p l e R s m args below meth c Z own bytes maxL ret mn n0 h0 ws T h k n) {x : Int32} {o : Int} (hc : ¬ 0 < x) (d : decode bytes pc = .ok (.ifCond .le o, 3)) (hp : (pc : Int) + o = (pc' : Int)) (K : Goes p e below P T (mkF m pc' Ls (st))) : Goes p e below P T (mkF m pc Ls (.int x :: st)) := by
  obtain ⟨⟨hx, hb', -⟩, locs, cells, slots, X, -⟩ := w
  exact K.step fun t q => XS.ifYes X.here hx rfl (pc0 := pc) (pc' := pc') rfl (hb hb' d) rfl ((if0 _ _).trans (flt hc).2.2.2) (by omega) (by omega) q
theorem i_if_le_N (w : Wk p l e R s m args below meth c Z own bytes maxL ret mn n0 h0 ws T h k n) {x : Int32} {o : Int} (hc : 0 < x) (d : decode bytes pc = .ok (.ifCond .le o, 3)) (hp : pc + 3 = pc') (K : Goes p e below P T (mkF m pc' Ls (st))) : Goes p e below P T (mkF m pc Ls (.int x :: st)) := by
  obtain ⟨⟨hx, hb', -⟩, locs, cells, slots, X, -⟩ := w
  subst hp
  exact K.step fun t q => XS.ifNo X.here hx rfl (hb hb' d) rfl ((if0 _ _).trans (tlt hc).2.2.2) q
theorem i_if_le (w : Wk p l e R s m args below meth c Z own bytes maxL ret mn n0 h0 ws T h k n) {x : Int32} {o : Int} {pcY : Nat} (d : decode bytes pc = .ok (.ifCond .le o, 3)) (hy : (pc : Int) + o = (pcY : Int)) (hp : pc + 3 = pc') (KY : ¬ 0 < x → Goes p e below P T (mkF m pcY Ls (st))) (KN : 0 < x → Goes p e below P T (mkF m pc' Ls (st))) : Goes p e below P T (mkF m pc Ls (.int x :: st)) :=
  Decidable.byCases (fun hc : ¬ 0 < x => i_if_le_Y w hc d hy (KY hc)) (fun hc => i_if_le_N w (Decidable.not_not.mp hc) d hp (KN (Decidable.not_not.mp hc)))
theorem i_ifnull_Y (w : Wk p l e R s m args below meth c Z own bytes maxL ret mn n0 h0 ws T h k n) {o : Int} {b : Addr} (d : decode bytes pc = .ok (.ifnull o, 3)) (hp : (pc : Int) + o = (pc' : Int)) (K : Goes p e below P T (mkF m pc' Ls (st))) : Goes p e below P T (mkF m pc Ls (.null :: st)) := by
  obtain ⟨⟨hx, hb', -⟩, locs, cells, slots, X, -⟩ := w
  exact K.step fun t q => XS.ifnullYes X.here hx rfl (pc0 := pc) (pc' := pc') rfl (hb hb' d) rfl (by omega) (by omega) q
theorem i_ifnull_N (w : Wk p l e R s m args below meth c Z own bytes maxL ret mn n0 h0 ws T h k n) {o : Int} {b : Addr} (d : decode bytes pc = .ok (.ifnull o, 3)) (hp : pc + 3 = pc') (K : Goes p e below P T (mkF m pc' Ls (st))) : Goes p e below P T (mkF m pc Ls (.ref b :: st)) := by
  obtain ⟨⟨hx, hb', -⟩, locs, cells, slots, X, -⟩ := w
  subst hp
  exact K.step fun t q => XS.ifnullNo X.here hx rfl (hb hb' d) rfl q
theorem i_ifnonnull_Y (w : Wk p l e R s m args below meth c Z own bytes maxL ret mn n0 h0 ws T h k n) {o : Int} {b : Addr} (d : decode bytes pc = .ok (.ifnonnull o, 3)) (hp : (pc : Int) + o = (pc' : Int)) (K : Goes p e below P T (mkF m pc' Ls (st))) : Goes p e below P T (mkF m pc Ls (.ref b :: st)) := by
  obtain ⟨⟨hx, hb', -⟩, locs, cells, slots, X, -⟩ := w
  exact K.step fun t q => XT.ifnonnullYes X.here hx rfl (pc0 := pc) (pc' := pc') rfl (hb hb' d) rfl (by omega) (by omega) q
theorem i_ifnonnull_N (w : Wk p l e R s m args below meth c Z own bytes maxL ret mn n0 h0 ws T h k n) {o : Int} {b : Addr} (d : decode bytes pc = .ok (.ifnonnull o, 3)) (hp : pc + 3 = pc') (K : Goes p e below P T (mkF m pc' Ls (st))) : Goes p e below P T (mkF m pc Ls (.null :: st)) := by
  obtain ⟨⟨hx, hb', -⟩, locs, cells, slots, X, -⟩ := w
  subst hp
  exact K.step fun t q => XT.ifnonnullNo X.here hx rfl (hb hb' d) rfl q
theorem i_acmp_eq_Y (w : Wk p l e R s m args below meth c Z own bytes maxL ret mn n0 h0 ws T h k n) {o : Int} {x y : Value} (hx1 : x.isRef = true) (hy1 : y.isRef = true) (hc : XT.acmp .eq x y = true) (d : decode bytes pc = .ok (.if_acmp .eq o, 3)) (hp : (pc : Int) + o = (pc' : Int)) (K : Goes p e below P T (mkF m pc' Ls (st))) : Goes p e below P T (mkF m pc Ls (y :: x :: st)) := by
  obtain ⟨⟨hx, hb', -⟩, locs, cells, slots, X, -⟩ := w
  exact K.step fun t q => XT.acmpYes X.here hx rfl (pc0 := pc) (pc' := pc') rfl (hb hb' d) rfl hx1 hy1 hc (by omega) (by omega) q
theorem i_acmp_eq_N (w : Wk p l e R s m args below meth c Z own bytes maxL ret mn n0 h0 ws T h k n) {o : Int} {x y : Value} (hx1 : x.isRef = true) (hy1 : y.isRef = true) (hc : XT.acmp .eq x y = false) (d : decode bytes pc = .ok (.if_acmp .eq o, 3)) (hp : pc + 3 = pc') (K : Goes p e below P T (mkF m pc' Ls (st))) : Goes p e below P T (mkF m pc Ls (y :: x :: st)) := by
  obtain ⟨⟨hx, hb', -⟩, locs, cells, slots, X, -⟩ := w
  subst hp
  exact K.step fun t q => XT.acmpNo X.here hx rfl (hb hb' d) rfl hx1 hy1 hc q
theorem i_acmp_ne_Y (w : Wk p l e R s m args below meth c Z own bytes maxL ret mn n0 h0 ws T h k n) {o : Int} {x y : Value} (hx1 : x.isRef = true) (hy1 : y.isRef = true) (hc : XT.acmp .ne x y = true) (d : decode bytes pc = .ok (.if_acmp .ne o, 3)) (hp : (pc : Int) + o = (pc' : Int)) (K : Goes p e below P T (mkF m pc' Ls (st))) : Goes p e below P T (mkF m pc Ls (y :: x :: st)) := by
  obtain ⟨⟨hx, hb', -⟩, locs, cells, slots, X, -⟩ := w
  exact K.step fun t q => XT.acmpYes X.here hx rfl (pc0 := pc) (pc' := pc') rfl (hb hb' d) rfl hx1 hy1 hc (by omega) (by omega) q
theorem i_acmp_ne_N (w : Wk p l e R s m args below meth c Z own bytes maxL ret mn n0 h0 ws T h k n) {o : Int} {x y : Value} (hx1 : x.isRef = true) (hy1 : y.isRef = true) (hc : XT.acmp .ne x y = false) (d : decode bytes pc = .ok (.if_acmp .ne o, 3)) (hp : pc + 3 = pc') (K : Goes p e below P T (mkF m pc' Ls (st))) : Goes p e below P T (mkF m pc Ls (y :: x :: st)) := by
  obtain ⟨⟨hx, hb', -⟩, locs, cells, slots, X, -⟩ := w
  subst hp
  exact K.step fun t q => XT.acmpNo X.here hx rfl (hb hb' d) rfl hx1 hy1 hc q
theorem i_ldcI (w : Wk p l e R s m args below meth c Z own bytes maxL ret mn n0 h0 ws T h k n) {index : Nat} {z : Int32} (w1 : (Cond.constant own index z).before a0 Z = true) (d : decode bytes pc = .ok (.ldc index, 2)) (hp : pc + 2 = pc') (K : Goes p e below P T (mkF m pc' Ls (.int z :: st))) : Goes p e below P T (mkF m pc Ls (st)) := by
  obtain ⟨⟨hx, hb', hml, hZ, hown, -⟩, locs, cells, slots, X, -⟩ := w
  subst hp
  exact K.step fun t q => X.ldcInt hx hown (mvT hZ w1) (g := mkF m pc Ls st) rfl (hb hb' d) t q
theorem i_ldc2 (w : Wk p l e R s m args below meth c Z own bytes maxL ret mn n0 h0 ws T h k n) {index : Nat} {z : Int64} (w1 : (Cond.constantLong own index z).before a0 Z = true) (d : decode bytes pc = .ok (.ldc2_w index, 3)) (hp : pc + 3 = pc') (K : Goes p e below P T (mkF m pc' Ls (.long z :: st))) : Goes p e below P T (mkF m pc Ls (st)) := by
  obtain ⟨⟨hx, hb', hml, hZ, hown, -⟩, locs, cells, slots, X, -⟩ := w
  subst hp
  exact K.step fun t q => X.ldc2Long hx hown (mvT hZ w1) (g := mkF m pc Ls st) rfl (hb hb' d) t q
theorem i_getF (w : Wk p l e R s m args below meth c Z own bytes maxL ret mn n0 h0 ws T h k n) {index : Nat} {O nm ds : String} {a : Addr} {v : Value} (d : decode bytes pc = .ok (.getfield index, 3)) (w1 : (Cond.fieldLink own index O nm ds).before a0 Z = true) (F : Fld Z h a O nm ds v) (hp : pc + 3 = pc') (K : ∀ T', Wk p l e R s m args below meth c Z own bytes maxL ret mn n0 h0 ws T' h k n → Goes p e below P T' (mkF m pc' Ls (v :: st))) : Goes p e below P T (mkF m pc Ls (.ref a :: st)) := by
  obtain ⟨cx, locs, cells, slots, X, e1, r⟩ := w
  obtain ⟨hx, hb', hml, hZ, hown, cr⟩ := id cx
  subst hp
  obtain ⟨T', X', e', stp⟩ := getF X hx hZ hown (host := "") (Or.inl w1) Via.refl e1 F (g := mkF m pc Ls (.ref a :: st)) rfl rfl (hb hb' d)
  exact (K T' ⟨cx, locs, cells, slots, X', e', r⟩).step stp
theorem i_getS (w : Wk p l e R s m args below meth c Z own bytes maxL ret mn n0 h0 ws T h k n) {index : Nat} {O nm ds : String} {v : Value} (d : decode bytes pc = .ok (.getstatic index, 3)) (w1 : (Cond.fieldLink own index O nm ds).before a0 Z = true) (S : Sta Z Z.heap O nm ds v) (hp : pc + 3 = pc') (K : ∀ T', Wk p l e R s m args below meth c Z own bytes maxL ret mn n0 h0 ws T' h k n → Goes p e below P T' (mkF m pc' Ls (v :: st))) : Goes p e below P T (mkF m pc Ls (st)) := by
  have S' := w.sta S
  obtain ⟨cx, locs, cells, slots, X, e1, r⟩ := w
  obtain ⟨hx, hb', hml, hZ, hown, cr⟩ := id cx
  subst hp
  obtain ⟨T', X', e', stp⟩ := getS X hx hZ hown (host := "") w1 Via.refl e1 S' (g := mkF m pc Ls st) rfl (hb hb' d)
  exact (K T' ⟨cx, locs, cells, slots, X', e', r⟩).step stp
theorem i_putF (w : Wk p l e R s m args below meth c Z own bytes maxL ret mn n0 h0 ws T h k n) {index kk : Nat} {O nm ds C : String} {ty : FieldType} {a : Addr} {v old : Value} (d : decode bytes pc = .ok (.putfield index, 3)) (w1 : (Cond.fieldLink own index O nm ds).before a0 Z = true) (F : Fld Z h a O nm ds old) (E : Exa Z h a C)
    (L : (Cond.lays C O nm ds).before a0 Z = true ∨ ((Cond.laysFinal C O nm ds).before a0 Z = true ∧ own = O ∧ mn = "<init>")) (wi : (Cond.instantiable C kk).before a0 Z = true) (hty : parseFieldDescriptor ds = some ty) (hn : narrow ty v = v) (hf : fits ty v = true) (ha : a ∈ ws ∨ h0.size ≤ a) (hp : pc + 3 = pc')
    (K : ∀ T' h', Wk p l e R s m args below meth c Z own bytes maxL ret mn n0 h0 ws T' h' k n → Wr h h' a (Jvm.RoadKit.slotOf Z O nm ds) v → Goes p e below P T' (mkF m pc' Ls (st))) : Goes p e below P T (mkF m pc Ls (v :: .ref a :: st)) := by
  have hna := w.wsn ha
  obtain ⟨cx, locs, cells, slots, X, e1, N, b1, b2, O1, K1⟩ := w
  obtain ⟨hx, hb', hml, hZ, hown, hret, hlk, hmn, cr⟩ := id cx
  subst hp
  obtain ⟨T', h', X', e', W, stp⟩ := putF X hx hZ hown (host := "") (Or.inl w1) Via.refl e1 F E (L.imp id fun q => ⟨q.1, q.2.1, hmn.trans q.2.2⟩) wi hty hn hf (g := mkF m pc Ls (v :: .ref a :: st)) rfl rfl (hb hb' d)
  exact (K T' h' ⟨cx, _, cells, slots, X', e', Fr.snoc X' N hna, b1, b2, O1.wr W hna, K1.wr W ha⟩ W).step stp
theorem i_new (w : Wk p l e R s m args below meth c Z own bytes maxL ret mn n0 h0 ws T h k n) {index sz : Nat} {C : String} (d : decode bytes pc = .ok (.new index, 3)) (w1 : (Cond.classLink own index C).before a0 Z = true) (w2 : (Cond.instantiable C sz).before a0 Z = true) (w3 : (Cond.initialized C).before a0 Z = true) (hc : k + 1 ≤ R.cells) (hs : n + sz ≤ R.slots) (hp : pc + 3 = pc')
    (K : ∀ a T' h', a = h.size → Wk p l e R s m args below meth c Z own bytes maxL ret mn n0 h0 ws T' h' (k + 1) (n + sz) → h0.size ≤ a → Ext h h' → Exa Z h' a C → (∀ {O nm ds : String} {ty : FieldType}, Laid Z a0 C O nm ds → parseFieldDescriptor ds = some ty → Fld Z h' a O nm ds (defaultValue ty)) → Goes p e below P T' (mkF m pc' Ls (.ref a :: st))) : Goes p e below P T (mkF m pc Ls (st)) := by
  obtain ⟨cx, locs, cells, slots, X, e1, N, b1, b2, O1, K1⟩ := w
  obtain ⟨hx, hb', hml, hZ, hown, cr⟩ := id cx
  subst hp
  obtain ⟨T', h', X', e', E, A, D, -, stp⟩ := newO X hx hZ hown w1 w2 w3 e1 (g := mkF m pc Ls st) rfl (hb hb' d) (by omega) (by omega)
  exact (K h.size T' h' rfl ⟨cx, locs, _, _, X', e', N, by omega, by omega, O1.ext E, K1.ext E⟩ K1.1 E A D).step stp
/-- the array at a holds just vs -/
def Ary (Z : State) (h : Heap) (a : Addr) (ca : ClassId) (ty : FieldType) (vs : List Value) : Prop := vs.length < 2147483648 ∧ Arv Z h a ca ty (Int32.ofNat vs.length) vs (defaultValue ty)
theorem Ary.lt {Z : State} {h : Heap} {a : Addr} {ca : ClassId} {ty : FieldType} {vs : List Value} (F : Ary Z h a ca ty vs) : a < h.size := F.2.lt
theorem Ary.ext {Z : State} {h h' : Heap} {a : Addr} {ca : ClassId} {ty : FieldType} {vs : List Value} (E : Ext h h') (F : Ary Z h a ca ty vs) : Ary Z h' a ca ty vs := ⟨F.1, F.2.ext E⟩
theorem Ary.keep {Z : State} {h h' : Heap} {a : Addr} {ca : ClassId} {ty : FieldType} {vs : List Value} {ws : List Addr} (F : Ary Z h a ca ty vs) (K : Keep h h' ws) (q : a ∉ ws) : Ary Z h' a ca ty vs := ⟨F.1, F.2.keep K q⟩
theorem Ary.other {Z : State} {h h' : Heap} {a b : Addr} {ca : ClassId} {ty : FieldType} {vs : List Value} {sl : Nat} {v : Value} (F : Ary Z h b ca ty vs) (W : Wr h h' a sl v) (q : b ≠ a) : Ary Z h' b ca ty vs := ⟨F.1, F.2.other W q⟩
theorem clamp_ofNat {i : Nat} (h : i < 2147483648) : (Int32.ofNat i).toNatClampNeg = i := by
  have e : (Int32.ofNat i).toInt = i := Int32.toInt_ofNat_small h
  show (Int32.ofNat i).toInt.toNat = i
  rw [e]; rfl
theorem nonneg_ofNat {i : Nat} (h : i < 2147483648) : ¬ Int32.ofNat i < 0 := by
  rw [Int32.lt_iff_toInt_lt, Int32.toInt_ofNat_small h]; show ¬ (i : Int) < 0; omega
theorem Ary.in {Z : State} {h : Heap} {a : Addr} {ca : ClassId} {ty : FieldType} {vs : List Value} {i : Nat} {cl : Cell} (hv : vs.length < 2147483648) (S : cl.slots.size = (Int32.ofNat vs.length).toNatClampNeg) (hi : i < vs.length) : ¬ (Int32.ofNat i < 0 ∨ cl.slots.size ≤ (Int32.ofNat i).toNatClampNeg) := by
  rw [S, clamp_ofNat hv, clamp_ofNat (by omega)]
  exact fun q => q.elim (nonneg_ofNat (by omega)) (by omega)
theorem i_newP (w : Wk p l e R s m args below meth c Z own bytes maxL ret mn n0 h0 ws T h k n) {aty : ArrayType} {N : Nat} {z : Int32} (d : decode bytes pc = .ok (.newarray aty, 2)) (w1 : (Cond.arrayClass (newarray.typeOf aty)).before a0 Z = true) (hz : z = Int32.ofNat N) (hN : N ≤ 65536) {cap : Nat} (hcap : N ≤ cap) (hcap' : cap ≤ 65536) (hc : k + 1 ≤ R.cells) (hs : n + cap ≤ R.slots) (hp : pc + 2 = pc')
    (K : ∀ a T' h' ca, a = h.size → Wk p l e R s m args below meth c Z own bytes maxL ret mn n0 h0 ws T' h' (k + 1) (n + cap) → h0.size ≤ a → Ext h h' → Ary Z h' a ca (newarray.typeOf aty) (List.replicate N (defaultValue (newarray.typeOf aty))) → Goes p e below P T' (mkF m pc' Ls (.ref a :: st))) : Goes p e below P T (mkF m pc Ls (.int z :: st)) := by
  obtain ⟨cx, locs, cells, slots, X, e1, N1, b1, b2, O1, K1⟩ := w
  obtain ⟨hx, hb', hml, hZ, hown, cr⟩ := id cx
  subst hp hz
  have cl := clamp_ofNat (i := N) (by omega)
  obtain ⟨T', h', cA, X', e', E, A, stp⟩ := newP X hx hZ w1 e1 (g := mkF m pc Ls (.int (Int32.ofNat N) :: st)) rfl (hb hb' d) rfl (nonneg_ofNat (by omega)) (cap := cap) (by rw [cl]; exact hcap) (by omega) (by omega) (by omega)
  refine (K h.size T' h' cA rfl ⟨cx, locs, _, _, X', e', N1, by omega, by omega, O1.ext E, K1.ext E⟩ K1.1 E ⟨by simp; omega, ?_⟩).step stp
  rw [List.length_replicate]
  exact (Arv.new A (nonneg_ofNat (by omega))).pad (by simpa using pad_rep [] (defaultValue (newarray.typeOf aty)) N)
theorem i_iaload (w : Wk p l e R s m args below meth c Z own bytes maxL ret mn n0 h0 ws T h k n) {a : Addr} {ca : ClassId} {vs : List Value} {i : Nat} {j z : Int32} (d : decode bytes pc = .ok (.iaload, 1)) (A : Ary Z h a ca .int vs) (hj : j = Int32.ofNat i) (hv : vs[i]? = some (.int z)) (hp : pc + 1 = pc') (K : Goes p e below P T (mkF m pc' Ls (.int z :: st))) : Goes p e below P T (mkF m pc Ls (.int j :: .ref a :: st)) := by
  obtain ⟨⟨hx, hb', hml, hZ, cr⟩, locs, cells, slots, X, e1, r⟩ := w
  subst hp hj
  obtain ⟨hl, cl, Ar, q, S, M, H, U⟩ := A
  obtain ⟨hi, hv'⟩ := List.getElem?_eq_some_iff.mp hv
  have hin := Ary.in (Z := Z) (h := h) (a := a) (ca := ca) (ty := .int) hl S hi
  exact K.step fun t q' => X.iaload hx (j := Int32.ofNat i) (v := .int z) (by rw [e1]; exact Ar.1) (State.isArrayOf_alike hZ.alike Ar.2.1) Ar.2.2 hin (Has.at H hin (by rw [clamp_ofNat (by omega), List.getD_eq_getElem?_getD, hv]; rfl)) (g := mkF m pc Ls (.int (Int32.ofNat i) :: .ref a :: st)) rfl rfl (hb hb' d) t q'
theorem i_caload (w : Wk p l e R s m args below meth c Z own bytes maxL ret mn n0 h0 ws T h k n) {a : Addr} {ca : ClassId} {vs : List Value} {i : Nat} {j z : Int32} (d : decode bytes pc = .ok (.caload, 1)) (A : Ary Z h a ca .char vs) (hj : j = Int32.ofNat i) (hv : vs[i]? = some (.int z)) (hp : pc + 1 = pc') (K : Goes p e below P T (mkF m pc' Ls (.int z :: st))) : Goes p e below P T (mkF m pc Ls (.int j :: .ref a :: st)) := by
  obtain ⟨⟨hx, hb', hml, hZ, cr⟩, locs, cells, slots, X, e1, r⟩ := w
  subst hp hj
  obtain ⟨hl, cl, Ar, q, S, M, H, U⟩ := A
  obtain ⟨hi, hv'⟩ := List.getElem?_eq_some_iff.mp hv
  have hin := Ary.in (Z := Z) (h := h) (a := a) (ca := ca) (ty := .char) hl S hi
  exact K.step fun t q' => X.caload hx (j := Int32.ofNat i) (v := .int z) (by rw [e1]; exact Ar.1) (State.isArrayOf_alike hZ.alike Ar.2.1) Ar.2.2 hin (Has.at H hin (by rw [clamp_ofNat (by omega), List.getD_eq_getElem?_getD, hv]; rfl)) (g := mkF m pc Ls (.int (Int32.ofNat i) :: .ref a :: st)) rfl rfl (hb hb' d) t q'
theorem i_baload (w : Wk p l e R s m args below meth c Z own bytes maxL ret mn n0 h0 ws T h k n) {a : Addr} {ca : ClassId} {vs : List Value} {i : Nat} {j z : Int32} (d : decode bytes pc = .ok (.baload, 1)) (A : Ary Z h a ca .byte vs) (hj : j = Int32.ofNat i) (hv : vs[i]? = some (.int z)) (hp : pc + 1 = pc') (K : Goes p e below P T (mkF m pc' Ls (.int z :: st))) : Goes p e below P T (mkF m pc Ls (.int j :: .ref a :: st)) := by
  obtain ⟨⟨hx, hb', hml, hZ, cr⟩, locs, cells, slots, X, e1, r⟩ := w
  subst hp hj
  obtain ⟨hl, cl, Ar, q, S, M, H, U⟩ := A
  obtain ⟨hi, hv'⟩ := List.getElem?_eq_some_iff.mp hv
  have hin := Ary.in (Z := Z) (h := h) (a := a) (ca := ca) (ty := .byte) hl S hi
  exact K.step fun t q' => X.baloadBytes hx (j := Int32.ofNat i) (v := .int z) (by rw [e1]; exact Ar.1) (State.isArrayOf_alike hZ.alike Ar.2.1) Ar.2.2 hin (Has.at H hin (by rw [clamp_ofNat (by omega), List.getD_eq_getElem?_getD, hv]; rfl)) (g := mkF m pc Ls (.int (Int32.ofNat i) :: .ref a :: st)) rfl rfl (hb hb' d) t q'
theorem i_aaload (w : Wk p l e R s m args below meth c Z own bytes maxL ret mn n0 h0 ws T h k n) {a : Addr} {ca : ClassId} {vs : List Value} {i : Nat} {j : Int32} {v : Value} {ty : FieldType} (d : decode bytes pc = .ok (.aaload, 1)) (A : Ary Z h a ca ty vs) (hty : ty.isReference = true) (hj : j = Int32.ofNat i) (hv : vs[i]? = some v) (hp : pc + 1 = pc') (K : Goes p e below P T (mkF m pc' Ls (v :: st))) : Goes p e below P T (mkF m pc Ls (.int j :: .ref a :: st)) := by
  obtain ⟨⟨hx, hb', hml, hZ, cr⟩, locs, cells, slots, X, e1, r⟩ := w
  subst hp hj
  obtain ⟨hl, cl, Ar, q, S, M, H, U⟩ := A
  obtain ⟨hi, hv'⟩ := List.getElem?_eq_some_iff.mp hv
  have hin := Ary.in (Z := Z) (h := h) (a := a) (ca := ca) (ty := ty) hl S hi
  exact K.step fun t q' => X.aaload hx (j := Int32.ofNat i) (v := v) (by rw [e1]; exact Ar.1) (State.isArrayOf_alike hZ.alike Ar.2.1) hty Ar.2.2 hin (Has.at H hin (by rw [clamp_ofNat (by omega), List.getD_eq_getElem?_getD, hv]; rfl)) (g := mkF m pc Ls (.int (Int32.ofNat i) :: .ref a :: st)) rfl rfl (hb hb' d) t q'
theorem i_iastore (w : Wk p l e R s m args below meth c Z own bytes maxL ret mn n0 h0 ws T h k n) {a : Addr} {ca : ClassId} {vs : List Value} {i : Nat} {j x : Int32} (d : decode bytes pc = .ok (.iastore, 1)) (A : Ary Z h a ca .int vs) (hj : j = Int32.ofNat i) (hi : i < vs.length) (ha : a ∈ ws ∨ h0.size ≤ a) (hp : pc + 1 = pc')
    (K : ∀ T' h', Wk p l e R s m args below meth c Z own bytes maxL ret mn n0 h0 ws T' h' k n → Keep h h' [a] → Ary Z h' a ca .int (vs.set i (.int x)) → Goes p e below P T' (mkF m pc' Ls (st))) : Goes p e below P T (mkF m pc Ls (.int x :: .int j :: .ref a :: st)) := by
  have hna := w.wsn ha
  obtain ⟨cx, locs, cells, slots, X, e1, N, b1, b2, O1, K1⟩ := w
  obtain ⟨hx, hb', hml, hZ, cr⟩ := id cx
  subst hp hj
  obtain ⟨hl, cl, Ar, q, S, M, H, U⟩ := A
  have hin := Ary.in (Z := Z) (h := h) (a := a) (ca := ca) (ty := .int) hl S hi
  obtain ⟨T', h', X', e', W, stp⟩ := stI X hx hZ e1 Ar (j := Int32.ofNat i) hin (g := mkF m pc Ls (.int x :: .int (Int32.ofNat i) :: .ref a :: st)) rfl rfl (hb hb' d)
  refine (K T' h' ⟨cx, _, cells, slots, X', e', Fr.snoc X' N hna, b1, b2, O1.wr W hna, K1.wr W ha⟩ (Keep.of_wr W) ⟨by simpa using hl, ?_⟩).step stp
  rw [List.length_set]
  exact Arv.set Ar q S M H U rfl W i (clamp_ofNat (by omega)) hi
theorem i_castore (w : Wk p l e R s m args below meth c Z own bytes maxL ret mn n0 h0 ws T h k n) {a : Addr} {ca : ClassId} {vs : List Value} {i : Nat} {j x : Int32} (d : decode bytes pc = .ok (.castore, 1)) (A : Ary Z h a ca .char vs) (hj : j = Int32.ofNat i) (hi : i < vs.length) (ha : a ∈ ws ∨ h0.size ≤ a) (hp : pc + 1 = pc')
    (K : ∀ T' h', Wk p l e R s m args below meth c Z own bytes maxL ret mn n0 h0 ws T' h' k n → Keep h h' [a] → Ary Z h' a ca .char (vs.set i (.int (nar .char x))) → Goes p e below P T' (mkF m pc' Ls (st))) : Goes p e below P T (mkF m pc Ls (.int x :: .int j :: .ref a :: st)) := by
  have hna := w.wsn ha
  obtain ⟨cx, locs, cells, slots, X, e1, N, b1, b2, O1, K1⟩ := w
  obtain ⟨hx, hb', hml, hZ, cr⟩ := id cx
  subst hp hj
  obtain ⟨hl, cl, Ar, q, S, M, H, U⟩ := A
  have hin := Ary.in (Z := Z) (h := h) (a := a) (ca := ca) (ty := .char) hl S hi
  obtain ⟨T', h', X', e', W, stp⟩ := stC X hx hZ e1 Ar (j := Int32.ofNat i) hin (g := mkF m pc Ls (.int x :: .int (Int32.ofNat i) :: .ref a :: st)) rfl rfl (hb hb' d)
  refine (K T' h' ⟨cx, _, cells, slots, X', e', Fr.snoc X' N hna, b1, b2, O1.wr W hna, K1.wr W ha⟩ (Keep.of_wr W) ⟨by simpa using hl, ?_⟩).step stp
  rw [List.length_set]
  exact Arv.set Ar q S M H U (fits_nar_char x) W i (clamp_ofNat (by omega)) hi
theorem i_bastore (w : Wk p l e R s m args below meth c Z own bytes maxL ret mn n0 h0 ws T h k n) {a : Addr} {ca : ClassId} {vs : List Value} {i : Nat} {j x : Int32} (d : decode bytes pc = .ok (.bastore, 1)) (A : Ary Z h a ca .byte vs) (hj : j = Int32.ofNat i) (hi : i < vs.length) (ha : a ∈ ws ∨ h0.size ≤ a) (hp : pc + 1 = pc')
    (K : ∀ T' h', Wk p l e R s m args below meth c Z own bytes maxL ret mn n0 h0 ws T' h' k n → Keep h h' [a] → Ary Z h' a ca .byte (vs.set i (.int (nar .byte x))) → Goes p e below P T' (mkF m pc' Ls (st))) : Goes p e below P T (mkF m pc Ls (.int x :: .int j :: .ref a :: st)) := by
  have hna := w.wsn ha
  obtain ⟨cx, locs, cells, slots, X, e1, N, b1, b2, O1, K1⟩ := w
  obtain ⟨hx, hb', hml, hZ, cr⟩ := id cx
  subst hp hj
  obtain ⟨hl, cl, Ar, q, S, M, H, U⟩ := A
  have hin := Ary.in (Z := Z) (h := h) (a := a) (ca := ca) (ty := .byte) hl S hi
  obtain ⟨T', h', X', e', W, stp⟩ := stB X hx hZ e1 Ar (j := Int32.ofNat i) hin (g := mkF m pc Ls (.int x :: .int (Int32.ofNat i) :: .ref a :: st)) rfl rfl (hb hb' d)
  refine (K T' h' ⟨cx, _, cells, slots, X', e', Fr.snoc X' N hna, b1, b2, O1.wr W hna, K1.wr W ha⟩ (Keep.of_wr W) ⟨by simpa using hl, ?_⟩).step stp
  rw [List.length_set]
  exact Arv.set Ar q S M H U (fits_nar_byte x) W i (clamp_ofNat (by omega)) hi
theorem i_len (w : Wk p l e R s m args below meth c Z own bytes maxL ret mn n0 h0 ws T h k n) {a : Addr} {ca : ClassId} {vs : List Value} {ty : FieldType} {z : Int32} (d : decode bytes pc = .ok (.arraylength, 1)) (A : Ary Z h a ca ty vs) (hz : Int32.ofNat vs.length = z) (hp : pc + 1 = pc') (K : Goes p e below P T (mkF m pc' Ls (.int z :: st))) : Goes p e below P T (mkF m pc Ls (.ref a :: st)) := by
  obtain ⟨⟨hx, hb', hml, hZ, cr⟩, locs, cells, slots, X, e1, r⟩ := w
  subst hp hz
  obtain ⟨hl, cl, Ar, q, S, M, H, U⟩ := A
  exact K.step fun t q' => X.arraylength hx (by rw [e1]; exact Ar.1) (State.isArrayOf_alike hZ.alike Ar.2.1) (g := mkF m pc Ls (.ref a :: st)) rfl rfl (hb hb' d) t (by rw [len_of S M]; exact q')
theorem i_initO (w : Wk p l e R s m args below meth c Z own bytes maxL ret mn n0 h0 ws T h k n) {index : Nat} {a : Addr} (d : decode bytes pc = .ok (.invokespecial index, 3)) (w1 : (Cond.methodLink own index Lib.objectInit).before a0 Z = true) (w2 : (Cond.instanceMethod Lib.objectInit).before a0 Z = true) (w3 : (Cond.code Lib.objectInit ⟨#[0xb1]⟩ 1 none).before a0 Z = true) (hsz : Ls.size = maxL) (hf : 1 ≤ R.frames) {W : Nat} (hW : (st.map fun v => v.category).sum ≤ W) (hl : W + 12 ≤ R.locals) (hp : pc + 3 = pc')
    (K : ∀ T', Wk p l e R s m args below meth c Z own bytes maxL ret mn n0 h0 ws T' h k n → Goes p e below P T' (mkF m pc' Ls (st))) : Goes p e below P T (mkF m pc Ls (.ref a :: st)) := by
  obtain ⟨cx, locs, cells, slots, X, e1, r⟩ := w
  obtain ⟨hx, hb', hml, hZ, hown, cr⟩ := id cx
  subst hp
  obtain ⟨T', X', e', stp⟩ := initO X hx hZ hown w1 w2 w3 e1 (g := mkF m pc Ls (.ref a :: st)) rfl (hsz.trans hml.symm) rfl (hb hb' d) hf (W := W) (by show 2 * 0 + _ ≤ _; omega) hl
  exact (K T' ⟨cx, locs, cells, slots, X', e', r⟩).step stp
end Steps
/-- the end: narrow -/
def PN (s : State) (n0 : Nat) (h0 : Heap) (ws : List Addr) (Q : Option Value → Heap → Prop) (kc ns : Nat) (o : Outcome) (t : State) : Prop := ∃ v L, o = .returned v ∧ (Q v t.heap ∧ Fr n0 L ∧ Keep h0 t.heap ws) ∧ FrameEnd s o t L kc ns
/-- the end: wide (the walk may have interned) -/
def PW (s : State) (n0 : Nat) (h0 : Heap) (ws : List Addr) (Q : Option Value → Heap → Prop) (kc ns : Nat) (o : Outcome) (t : State) : Prop := ∃ v L, o = .returned v ∧ (Q v t.heap ∧ Fr n0 L ∧ Keep h0 t.heap ws) ∧ ReturnedEndW s o t L kc ns
/-- **A CONTRACT**, narrow -/
def Ctr (l : Launch) (Z : State) (n0 : Nat) (y : MethodName) (bytes : ByteArray) (maxL : Nat) (ret : Option FieldType) (cs : List Jvm.Cond) (rm : Room) (as' : Array Value) (h0 : Heap) (ws : List Addr) (Q : Option Value → Heap → Prop) : Prop :=
  MetFree l y (head1 (Cond.code y bytes maxL ret :: cs) rm) (fun a U => a = as' ∧ Z.Warmed39 U.vm ∧ U.heap = h0) (fun _ _ _ _ _ => True) (fun _ U o U' => PN U n0 h0 ws Q rm.cells rm.slots o U')
def CtrW (l : Launch) (Z : State) (n0 : Nat) (y : MethodName) (bytes : ByteArray) (maxL : Nat) (ret : Option FieldType) (cs : List Jvm.Cond) (rm : Room) (as' : Array Value) (h0 : Heap) (ws : List Addr) (Q : Option Value → Heap → Prop) : Prop :=
  MetFree l y (head1 (Cond.code y bytes maxL ret :: cs) rm) (fun a U => a = as' ∧ Z.Warmed39 U.vm ∧ U.heap = h0) (fun _ _ _ _ _ => True) (fun _ U o U' => PW U n0 h0 ws Q rm.cells rm.slots o U')
section Ends
variable {p : Program} {l : Launch} {e : Env} {R : Room} {s : State} {m : MethodId} {args : Array Value} {below : List Frame} {meth : Method} {c : Code} {Z : State} {own : String} {bytes : ByteArray} {maxL : Nat} {ret : Option FieldType} {mn : String} {n0 : Nat} {h0 : Heap} {ws : List Addr} {T : State} {h : Heap} {k n : Nat} {P : Outcome → State → Prop} {Ls : Array Slot} {st : List Value} {pc pc' : Nat} {a0 : Array Value} {Q : Option Value → Heap → Prop} {kc ns : Nat}
theorem i_retI (w : Wk p l e R s m args below meth c Z own bytes maxL ret mn n0 h0 ws T h k n) {z : Int32} (d : decode bytes pc = .ok (.ireturn, 1)) (hr : ret = some .int) (q : Q (some (.int z)) h) (hk : k ≤ kc) (hn : n ≤ ns) : Goes p e below (PN s n0 h0 ws Q kc ns) T (mkF m pc Ls (.int z :: st)) := by
  obtain ⟨⟨hx, hb', hml, hZ, hown, hret, hlk, cr⟩, locs, cells, slots, X, e1, N, b1, b2, O1, K1⟩ := w
  obtain ⟨fs, hl, hrun, hended, hW, hsame⟩ := X.leave (v := some (.int z)) (fun h => by first | rfl | (rw [hret, hr] at h; cases h)) hlk
  exact ⟨_, _, retOut X hx (t := .int) (i := .ireturn) (hret.trans hr) rfl (Or.inl ⟨rfl, by simp, z, rfl⟩) (hb hb' d) hl, hrun, hended, _, _, rfl, ⟨by show Q _ T.heap; rw [e1]; exact q, N, by show Keep h0 T.heap ws; rw [e1]; exact K1⟩, ⟨_, rfl⟩, hW, hsame.mono (by omega) (by omega)⟩
theorem i_retIW {s0 : State} {vm0 : Vm} (w : Wk p l e R (s0.setVm vm0) m args below meth c Z own bytes maxL ret mn n0 h0 ws T h k n) {k0 : Nat} (hS : s0.Since vm0 k0) (hk0 : k0 ≤ h.size) {z : Int32} (d : decode bytes pc = .ok (.ireturn, 1)) (hr : ret = some .int) (q : Q (some (.int z)) h) (hk : k ≤ kc) (hn : n ≤ ns) : Goes p e below (PW s0 n0 h0 ws Q kc ns) T (mkF m pc Ls (.int z :: st)) := by
  obtain ⟨⟨hx, hb', hml, hZ, hown, hret, hlk, cr⟩, locs, cells, slots, X, e1, N, b1, b2, O1, K1⟩ := w
  obtain ⟨fs, hl, hrun, hended, hE1, hE2, hE3, hE4⟩ := X.leaveW hS (by rw [e1]; exact hk0) (v := some (.int z)) (fun h => by first | rfl | (rw [hret, hr] at h; cases h)) hlk
  exact ⟨_, _, retOut X hx (t := .int) (i := .ireturn) (hret.trans hr) rfl (Or.inl ⟨rfl, by simp, z, rfl⟩) (hb hb' d) hl, hrun, hended, _, _, rfl, ⟨by show Q _ T.heap; rw [e1]; exact q, N, by show Keep h0 T.heap ws; rw [e1]; exact K1⟩, hE1, hE2, hE3, hE4.mono (by omega) (by omega)⟩
theorem i_retN (w : Wk p l e R s m args below meth c Z own bytes maxL ret mn n0 h0 ws T h k n) {z : Int32} {t : FieldType} (d : decode bytes pc = .ok (.ireturn, 1)) (hr : ret = some t) (ht : t = .boolean ∨ t = .byte ∨ t = .char ∨ t = .short) (q : Q (some (.int (nar t z))) h) (hk : k ≤ kc) (hn : n ≤ ns) : Goes p e below (PN s n0 h0 ws Q kc ns) T (mkF m pc Ls (.int z :: st)) := by
  obtain ⟨⟨hx, hb', hml, hZ, hown, hret, hlk, cr⟩, locs, cells, slots, X, e1, N, b1, b2, O1, K1⟩ := w
  obtain ⟨fs, hl, hrun, hended, hW, hsame⟩ := X.leave (v := some (.int (nar t z))) (fun h => by first | rfl | (rw [hret, hr] at h; cases h)) hlk
  exact ⟨_, _, retN X hx (hret.trans hr) ht (hb hb' d) hl, hrun, hended, _, _, rfl, ⟨by show Q _ T.heap; rw [e1]; exact q, N, by show Keep h0 T.heap ws; rw [e1]; exact K1⟩, ⟨_, rfl⟩, hW, hsame.mono (by omega) (by omega)⟩
theorem i_retNW {s0 : State} {vm0 : Vm} (w : Wk p l e R (s0.setVm vm0) m args below meth c Z own bytes maxL ret mn n0 h0 ws T h k n) {k0 : Nat} (hS : s0.Since vm0 k0) (hk0 : k0 ≤ h.size) {z : Int32} {t : FieldType} (d : decode bytes pc = .ok (.ireturn, 1)) (hr : ret = some t) (ht : t = .boolean ∨ t = .byte ∨ t = .char ∨ t = .short) (q : Q (some (.int (nar t z))) h) (hk : k ≤ kc) (hn : n ≤ ns) : Goes p e below (PW s0 n0 h0 ws Q kc ns) T (mkF m pc Ls (.int z :: st)) := by
  obtain ⟨⟨hx, hb', hml, hZ, hown, hret, hlk, cr⟩, locs, cells, slots, X, e1, N, b1, b2, O1, K1⟩ := w
  obtain ⟨fs, hl, hrun, hended, hE1, hE2, hE3, hE4⟩ := X.leaveW hS (by rw [e1]; exact hk0) (v := some (.int (nar t z))) (fun h => by first | rfl | (rw [hret, hr] at h; cases h)) hlk
  exact ⟨_, _, retN X hx (hret.trans hr) ht (hb hb' d) hl, hrun, hended, _, _, rfl, ⟨by show Q _ T.heap; rw [e1]; exact q, N, by show Keep h0 T.heap ws; rw [e1]; exact K1⟩, hE1, hE2, hE3, hE4.mono (by omega) (by omega)⟩
theorem i_retA (w : Wk p l e R s m args below meth c Z own bytes maxL ret mn n0 h0 ws T h k n) {v : Value} {t : FieldType} (d : decode bytes pc = .ok (.areturn, 1)) (hr : ret = some t) (ht : t.isReference = true) (hv : v.isRef = true) (q : Q (some v) h) (hk : k ≤ kc) (hn : n ≤ ns) : Goes p e below (PN s n0 h0 ws Q kc ns) T (mkF m pc Ls (v :: st)) := by
  obtain ⟨⟨hx, hb', hml, hZ, hown, hret, hlk, cr⟩, locs, cells, slots, X, e1, N, b1, b2, O1, K1⟩ := w
  obtain ⟨fs, hl, hrun, hended, hW, hsame⟩ := X.leave (v := some v) (fun h => by first | rfl | (rw [hret, hr] at h; cases h)) hlk
  exact ⟨_, _, retOut X hx (hret.trans hr) (by cases t <;> cases v <;> simp_all [narrow, Value.isRef]) (Or.inr (Or.inr (Or.inr (Or.inr ⟨rfl, ht, hv⟩)))) (hb hb' d) hl, hrun, hended, _, _, rfl, ⟨by show Q _ T.heap; rw [e1]; exact q, N, by show Keep h0 T.heap ws; rw [e1]; exact K1⟩, ⟨_, rfl⟩, hW, hsame.mono (by omega) (by omega)⟩
theorem i_retAW {s0 : State} {vm0 : Vm} (w : Wk p l e R (s0.setVm vm0) m args below meth c Z own bytes maxL ret mn n0 h0 ws T h k n) {k0 : Nat} (hS : s0.Since vm0 k0) (hk0 : k0 ≤ h.size) {v : Value} {t : FieldType} (d : decode bytes pc = .ok (.areturn, 1)) (hr : ret = some t) (ht : t.isReference = true) (hv : v.isRef = true) (q : Q (some v) h) (hk : k ≤ kc) (hn : n ≤ ns) : Goes p e below (PW s0 n0 h0 ws Q kc ns) T (mkF m pc Ls (v :: st)) := by
  obtain ⟨⟨hx, hb', hml, hZ, hown, hret, hlk, cr⟩, locs, cells, slots, X, e1, N, b1, b2, O1, K1⟩ := w
  obtain ⟨fs, hl, hrun, hended, hE1, hE2, hE3, hE4⟩ := X.leaveW hS (by rw [e1]; exact hk0) (v := some v) (fun h => by first | rfl | (rw [hret, hr] at h; cases h)) hlk
  exact ⟨_, _, retOut X hx (hret.trans hr) (by cases t <;> cases v <;> simp_all [narrow, Value.isRef]) (Or.inr (Or.inr (Or.inr (Or.inr ⟨rfl, ht, hv⟩)))) (hb hb' d) hl, hrun, hended, _, _, rfl, ⟨by show Q _ T.heap; rw [e1]; exact q, N, by show Keep h0 T.heap ws; rw [e1]; exact K1⟩, hE1, hE2, hE3, hE4.mono (by omega) (by omega)⟩
theorem i_ret0 (w : Wk p l e R s m args below meth c Z own bytes maxL ret mn n0 h0 ws T h k n) (d : decode bytes pc = .ok (.return_, 1)) (hr : ret = none) (q : Q (none) h) (hk : k ≤ kc) (hn : n ≤ ns) : Goes p e below (PN s n0 h0 ws Q kc ns) T (mkF m pc Ls ([])) := by
  obtain ⟨⟨hx, hb', hml, hZ, hown, hret, hlk, cr⟩, locs, cells, slots, X, e1, N, b1, b2, O1, K1⟩ := w
  obtain ⟨fs, hl, hrun, hended, hW, hsame⟩ := X.leave (v := none) (fun h => by first | rfl | (rw [hret, hr] at h; cases h)) hlk
  exact ⟨_, _, X.returnOut hx (hret.trans hr) (hb hb' d) hl, hrun, hended, _, _, rfl, ⟨by show Q _ T.heap; rw [e1]; exact q, N, by show Keep h0 T.heap ws; rw [e1]; exact K1⟩, ⟨_, rfl⟩, hW, hsame.mono (by omega) (by omega)⟩
theorem i_ret0W {s0 : State} {vm0 : Vm} (w : Wk p l e R (s0.setVm vm0) m args below meth c Z own bytes maxL ret mn n0 h0 ws T h k n) {k0 : Nat} (hS : s0.Since vm0 k0) (hk0 : k0 ≤ h.size) (d : decode bytes pc = .ok (.return_, 1)) (hr : ret = none) (q : Q (none) h) (hk : k ≤ kc) (hn : n ≤ ns) : Goes p e below (PW s0 n0 h0 ws Q kc ns) T (mkF m pc Ls ([])) := by
  obtain ⟨⟨hx, hb', hml, hZ, hown, hret, hlk, cr⟩, locs, cells, slots, X, e1, N, b1, b2, O1, K1⟩ := w
  obtain ⟨fs, hl, hrun, hended, hE1, hE2, hE3, hE4⟩ := X.leaveW hS (by rw [e1]; exact hk0) (v := none) (fun h => by first | rfl | (rw [hret, hr] at h; cases h)) hlk
  exact ⟨_, _, X.returnOut hx (hret.trans hr) (hb hb' d) hl, hrun, hended, _, _, rfl, ⟨by show Q _ T.heap; rw [e1]; exact q, N, by show Keep h0 T.heap ws; rw [e1]; exact K1⟩, hE1, hE2, hE3, hE4.mono (by omega) (by omega)⟩
end Ends
theorem enter {l : Launch} {Z : State} {n0 : Nat} {y : MethodName} {bytes : ByteArray} {maxL : Nat} {ret : Option FieldType} {cs : List Jvm.Cond} {rm : Room} {as' : Array Value} {h0 : Heap} {ws : List Addr} {Q : Option Value → Heap → Prop} {Ls : Array Slot}
    (pn : plainFor y = true) (ef : ∀ m, entryFrame m as' maxL = mkF m 0 Ls []) (O : Old Z n0 h0) (hws : ∀ x ∈ ws, n0 ≤ x)
    (body : ∀ p e s m below meth c T, Wk p l e rm s m as' below meth c Z y.cls bytes maxL ret y.name n0 h0 ws T h0 0 0 → Goes p e below (PN s n0 h0 ws Q rm.cells rm.slots) T (mkF m 0 Ls [])) :
    Ctr l Z n0 y bytes maxL ret cs rm as' h0 ws Q := by
  refine MetFree.of_bodySF pn hisR ?_
  intro p e s m args below meth c s₁ Bd hml0 hP hK
  obtain ⟨rfl, hZ, hh⟩ := hP
  rw [ef m]
  exact body p e s m below meth c s₁ ⟨⟨Bd.exec, Bd.bytes, hml0, hZ, findClass_of_methodNamed Bd.named, Bd.returns, Bd.notSynchronized, (name_of_methodNamed Bd.named Bd.method).1, hws, Nat.le_trans (Nat.le_of_eq O.1.symm) O.2.1⟩,
    [], 0, 0, Stand.of_body Bd, by rw [← hh, Bd.state]; rfl, Fr.nil n0, Nat.le_refl _, Nat.le_refl _, O, Keep.refl _ _⟩
theorem enterW {l : Launch} {Z : State} {n0 : Nat} {y : MethodName} {bytes : ByteArray} {maxL : Nat} {ret : Option FieldType} {cs : List Jvm.Cond} {rm : Room} {as' : Array Value} {h0 : Heap} {ws : List Addr} {Q : Option Value → Heap → Prop} {Ls : Array Slot}
    (pn : plainFor y = true) (ef : ∀ m, entryFrame m as' maxL = mkF m 0 Ls []) (O : Old Z n0 h0) (hws : ∀ x ∈ ws, n0 ≤ x)
    (body : ∀ p e s m below meth c T, Wk p l e rm (s.setVm s.vm) m as' below meth c Z y.cls bytes maxL ret y.name n0 h0 ws T h0 0 0 → s.Since s.vm h0.size → Goes p e below (PW s n0 h0 ws Q rm.cells rm.slots) T (mkF m 0 Ls [])) :
    CtrW l Z n0 y bytes maxL ret cs rm as' h0 ws Q := by
  refine MetFree.of_bodySF pn hisR ?_
  intro p e s m args below meth c s₁ Bd hml0 hP hK
  obtain ⟨rfl, hZ, hh⟩ := hP
  rw [ef m]
  exact body p e s m below meth c s₁ ⟨⟨Bd.exec, Bd.bytes, hml0, hZ, findClass_of_methodNamed Bd.named, Bd.returns, Bd.notSynchronized, (name_of_methodNamed Bd.named Bd.method).1, hws, Nat.le_trans (Nat.le_of_eq O.1.symm) O.2.1⟩,
    [], 0, 0, Stand.of_body Bd, by rw [← hh, Bd.state]; rfl, Fr.nil n0, Nat.le_refl _, Nat.le_refl _, O, Keep.refl _ _⟩ ⟨State.Warmed39.refl s, fun j p hj hp => absurd (Array.getElem?_eq_some_iff.mp hp).1 (Nat.not_lt.mpr hj)⟩
section Calls
variable {p : Program} {l : Launch} {e : Env} {R : Room} {s : State} {m : MethodId} {args : Array Value} {below : List Frame} {meth : Method} {c : Code} {Z : State} {own : String} {bytes : ByteArray} {maxL : Nat} {ret : Option FieldType} {mn : String} {n0 : Nat} {h0 : Heap} {ws : List Addr} {T : State} {h : Heap} {k n : Nat} {P : Outcome → State → Prop} {Ls : Array Slot} {st : List Value} {pc pc' : Nat} {a0 : Array Value}
theorem c_static (w : Wk p l e R s m args below meth c Z own bytes maxL ret mn n0 h0 ws T h k n) {index : Nat} {y : MethodName} {bytes' : ByteArray} {maxL' : Nat} {ret' : Option FieldType} {rm : Room} {ws' : List Addr} {Q : Option Value → Heap → Prop} {argsL : List Value} {sg : MethodDescriptor} (d : decode bytes pc = .ok (.invokestatic index, 3)) (w1 : (Cond.methodLink own index y).before a0 Z = true) (w2 : (Cond.static y).before a0 Z = true) (w3 : (Cond.initialized y.cls).before a0 Z = true) (w4 : (Cond.code y bytes' maxL' ret').before a0 Z = true) (hy : y.cls ≠ "java/lang/invoke/MethodHandle" ∧ y.cls ≠ "java/lang/invoke/VarHandle") (pd : parseMethodDescriptor y.desc = some sg) (ha : argsL.length = sg.parameters.length)
    (C : Ctr l Z n0 y bytes' maxL' ret' [] rm argsL.toArray h ws' Q) (hsz : Ls.size = maxL) (hf : rm.frames + 1 ≤ R.frames) {W : Nat} (hW : (st.map fun v => v.category).sum ≤ W) (hl : W + (maxL' + 11) + rm.locals ≤ R.locals) (hc : k + rm.cells ≤ R.cells) (hs : n + rm.slots ≤ R.slots) (hws : ∀ x ∈ ws', x ∈ ws ∨ h0.size ≤ x) (hp : pc + 3 = pc') (K : ∀ v T' h', Wk p l e R s m args below meth c Z own bytes maxL ret mn n0 h0 ws T' h' (k + rm.cells) (n + rm.slots) → Keep h h' ws' → Q v h' → Goes p e below P T' (mkF m pc' Ls (v.toList ++ st))) : Goes p e below P T (mkF m pc Ls (argsL.reverse ++ st)) := by
  obtain ⟨cx, locs, cells, slots, X, e1, N, b1, b2, O1, K1⟩ := w
  obtain ⟨hx, hb', hml, hZ, hown, hret, hlk, hmn, hw0, hn0⟩ := id cx
  subst hp
  obtain ⟨_, _, ⟨T', L', k', n'⟩, -, X', ⟨Lc, ⟨q1, N', K'⟩, l1, y1, z1⟩, stp⟩ := Jvm.LawKit.callS X hx (y := y) hown (mvT hZ w1) (mvT hZ w2) (mvT hZ w3) (mvT hZ w4) hy (backOf (W := W) (Q := fun v t L => Q v t ∧ Fr n0 L ∧ Keep h t ws') C hZ w4 w3 hf hl) (g := mkF m pc Ls (argsL.reverse ++ st)) rfl (hsz.trans hml.symm) (argsL := argsL) (rest := st) (fun sig h => by rw [pd] at h; cases h; exact ha) rfl (by show 2 * 0 + _ ≤ _; omega) (hb hb' d) (fun _ _ => ⟨rfl, e1, by show cells + _ ≤ _; omega, by show slots + _ ≤ _; omega⟩)
  dsimp only [Pt.U, Pt.locs, Pt.cells, Pt.slots] at X' l1 y1 z1 stp q1 K'
  subst l1 y1 z1
  refine (K _ T' T'.heap ⟨cx, _, _, _, X', rfl, Fr.app N N', by omega, by omega, O1.keep K' (fun x hx => (hws x hx).elim (hw0 x) (Nat.le_trans hn0)), K1.trans K' hws⟩ K' q1).step stp
theorem c_special (w : Wk p l e R s m args below meth c Z own bytes maxL ret mn n0 h0 ws T h k n) {index : Nat} {y : MethodName} {bytes' : ByteArray} {maxL' : Nat} {rm : Room} {ws' : List Addr} {Q : Option Value → Heap → Prop} {argsL : List Value} {a : Addr} {sg : MethodDescriptor} (d : decode bytes pc = .ok (.invokespecial index, 3)) (hi : y.name = "<init>") (w1 : (Cond.methodLink own index y).before a0 Z = true) (w2 : (Cond.instanceMethod y).before a0 Z = true) (w3 : (Cond.initialized y.cls).before a0 Z = true) (w4 : (Cond.code y bytes' maxL' none).before a0 Z = true) (hy : y.cls ≠ "java/lang/invoke/MethodHandle" ∧ y.cls ≠ "java/lang/invoke/VarHandle") (pd : parseMethodDescriptor y.desc = some sg) (ha : argsL.length = sg.parameters.length)
    (C : Ctr l Z n0 y bytes' maxL' none [] rm (.ref a :: argsL).toArray h ws' Q) (hsz : Ls.size = maxL) (hf : rm.frames + 1 ≤ R.frames) {W : Nat} (hW : (st.map fun v => v.category).sum ≤ W) (hl : W + (maxL' + 11) + rm.locals ≤ R.locals) (hc : k + rm.cells ≤ R.cells) (hs : n + rm.slots ≤ R.slots) (hws : ∀ x ∈ ws', x ∈ ws ∨ h0.size ≤ x) (hp : pc + 3 = pc') (K : ∀ v T' h', Wk p l e R s m args below meth c Z own bytes maxL ret mn n0 h0 ws T' h' (k + rm.cells) (n + rm.slots) → Keep h h' ws' → Q v h' → Goes p e below P T' (mkF m pc' Ls (v.toList ++ st))) : Goes p e below P T (mkF m pc Ls (argsL.reverse ++ .ref a :: st)) := by
  obtain ⟨cx, locs, cells, slots, X, e1, N, b1, b2, O1, K1⟩ := w
  obtain ⟨hx, hb', hml, hZ, hown, hret, hlk, hmn, hw0, hn0⟩ := id cx
  subst hp
  obtain ⟨_, _, ⟨T', L', k', n'⟩, -, X', ⟨Lc, ⟨q1, N', K'⟩, l1, y1, z1⟩, stp⟩ := X.specialBack hx (y := y) hi hown (mvT hZ w1) (mvT hZ w2) (mvT hZ w4) hy (backOf (W := W) (Q := fun v t L => Q v t ∧ Fr n0 L ∧ Keep h t ws') C hZ w4 w3 hf hl) (g := mkF m pc Ls (argsL.reverse ++ .ref a :: st)) rfl (hsz.trans hml.symm) (Steps.refl _) (a := a) (argsL := argsL) (rest := st) (fun sig h => by rw [pd] at h; cases h; exact ha) rfl (by show 2 * 0 + _ ≤ _; omega) (hb hb' d) (fun _ _ => ⟨rfl, e1, by show cells + _ ≤ _; omega, by show slots + _ ≤ _; omega⟩)
  dsimp only [Pt.U, Pt.locs, Pt.cells, Pt.slots] at X' l1 y1 z1 stp q1 K'
  subst l1 y1 z1
  refine (K _ T' T'.heap ⟨cx, _, _, _, X', rfl, Fr.app N N', by omega, by omega, O1.keep K' (fun x hx => (hws x hx).elim (hw0 x) (Nat.le_trans hn0)), K1.trans K' hws⟩ K' q1).step (fun t q => stp.trans q)
theorem c_virtual (w : Wk p l e R s m args below meth c Z own bytes maxL ret mn n0 h0 ws T h k n) {index : Nat} {C : String} {y : MethodName} {bytes' : ByteArray} {maxL' : Nat} {ret' : Option FieldType} {rm : Room} {ws' : List Addr} {Q : Option Value → Heap → Prop} {argsL : List Value} {a : Addr} {sg : MethodDescriptor} (d : decode bytes pc = .ok (.invokevirtual index, 3)) (w1 : (Cond.methodLink own index y).before a0 Z = true) (w2 : (Cond.declares y).before a0 Z = true) (w3 : (Cond.selects C y y).before a0 Z = true) (w4 : (Cond.instanceMethod y).before a0 Z = true) (w5 : (Cond.code y bytes' maxL' ret').before a0 Z = true) (w6 : (Cond.initialized y.cls).before a0 Z = true) (hy : y.cls ≠ "java/lang/invoke/MethodHandle" ∧ y.cls ≠ "java/lang/invoke/VarHandle") (pd : parseMethodDescriptor y.desc = some sg) (ha : argsL.length = sg.parameters.length) (E : Exa Z h a C)
    (C' : Ctr l Z n0 y bytes' maxL' ret' [] rm (.ref a :: argsL).toArray h ws' Q) (hsz : Ls.size = maxL) (hf : rm.frames + 1 ≤ R.frames) {W : Nat} (hW : (st.map fun v => v.category).sum ≤ W) (hl : W + (maxL' + 11) + rm.locals ≤ R.locals) (hc : k + rm.cells ≤ R.cells) (hs : n + rm.slots ≤ R.slots) (hws : ∀ x ∈ ws', x ∈ ws ∨ h0.size ≤ x) (hp : pc + 3 = pc') (K : ∀ v T' h', Wk p l e R s m args below meth c Z own bytes maxL ret mn n0 h0 ws T' h' (k + rm.cells) (n + rm.slots) → Keep h h' ws' → Q v h' → Goes p e below P T' (mkF m pc' Ls (v.toList ++ st))) : Goes p e below P T (mkF m pc Ls (argsL.reverse ++ .ref a :: st)) := by
  obtain ⟨cx, locs, cells, slots, X, e1, N, b1, b2, O1, K1⟩ := w
  obtain ⟨hx, hb', hml, hZ, hown, hret, hlk, hmn, hw0, hn0⟩ := id cx
  subst hp
  obtain ⟨cq, kq, qa, qb, qc⟩ := isOf (T := T) hZ e1 E
  obtain ⟨_, _, ⟨T', L', k', n'⟩, -, X', ⟨Lc, ⟨q1, N', K'⟩, l1, y1, z1⟩, stp⟩ := X.virtualBack hx (y := y) (z := y) hown (mvT hZ w1) (mvT hZ w2) (notFace_of_selects (args := #[]) (mvT hZ w3)) (mvT hZ w3) (mvT hZ w4) hy (backOf (W := W) (Q := fun v t L => Q v t ∧ Fr n0 L ∧ Keep h t ws') C' hZ w5 w6 hf hl) qa qc (g := mkF m pc Ls (argsL.reverse ++ .ref a :: st)) rfl (hsz.trans hml.symm) (Steps.refl _) (argsL := argsL) (rest := st) (fun sig h => by rw [pd] at h; cases h; exact ha) rfl (by show 2 * 0 + _ ≤ _; omega) (hb hb' d) (fun _ _ => ⟨rfl, e1, by show cells + _ ≤ _; omega, by show slots + _ ≤ _; omega⟩)
  dsimp only [Pt.U, Pt.locs, Pt.cells, Pt.slots] at X' l1 y1 z1 stp q1 K'
  subst l1 y1 z1
  refine (K _ T' T'.heap ⟨cx, _, _, _, X', rfl, Fr.app N N', by omega, by omega, O1.keep K' (fun x hx => (hws x hx).elim (hw0 x) (Nat.le_trans hn0)), K1.trans K' hws⟩ K' q1).step (fun t q => stp.trans q)
/-- a payer in this kit's shape -/
def Pays (l : Launch) (R : Room) (p : Program) (e : Env) (below : List Frame) (s : State) (args : Array Value) (y : MethodName) (W : Nat) (as' : Array Value) (n0 : Nat) (h : Heap) (kc ns : Nat) (ws' : List Addr) (Q : Option Value → Heap → Prop) : Prop :=
  Back l R p e below s args y 3 W (fun A a => a = as' ∧ A.U.heap = h ∧ A.cells + kc ≤ R.cells ∧ A.slots + ns ≤ R.slots) (fun A _ v B => ∃ L, (Q v B.U.heap ∧ Fr n0 L ∧ Keep h B.U.heap ws') ∧ B.locs = A.locs ++ L ∧ B.cells = A.cells + kc ∧ B.slots = A.slots + ns)
theorem b_special (w : Wk p l e R s m args below meth c Z own bytes maxL ret mn n0 h0 ws T h k n) {index : Nat} {y : MethodName} {W : Nat} {kc ns : Nat} {ws' : List Addr} {Q : Option Value → Heap → Prop} {bytes' : ByteArray} {maxL' : Nat} {argsL : List Value} {a : Addr} {sg : MethodDescriptor} (d : decode bytes pc = .ok (.invokespecial index, 3)) (hi : y.name = "<init>") (w1 : (Cond.methodLink own index y).before a0 Z = true) (w2 : (Cond.instanceMethod y).before a0 Z = true) (w4 : (Cond.code y bytes' maxL' none).before a0 Z = true) (hy : y.cls ≠ "java/lang/invoke/MethodHandle" ∧ y.cls ≠ "java/lang/invoke/VarHandle") (pd : parseMethodDescriptor y.desc = some sg) (ha : argsL.length = sg.parameters.length)
    (C : Pays l R p e below s args y W (.ref a :: argsL).toArray n0 h kc ns ws' Q) (hsz : Ls.size = maxL) (hW : (st.map fun v => v.category).sum ≤ W) (hc : k + kc ≤ R.cells) (hs : n + ns ≤ R.slots) (hws : ∀ x ∈ ws', x ∈ ws ∨ h0.size ≤ x) (hp : pc + 3 = pc') (K : ∀ v T' h', Wk p l e R s m args below meth c Z own bytes maxL ret mn n0 h0 ws T' h' (k + kc) (n + ns) → Keep h h' ws' → Q v h' → Goes p e below P T' (mkF m pc' Ls (v.toList ++ st))) : Goes p e below P T (mkF m pc Ls (argsL.reverse ++ .ref a :: st)) := by
  obtain ⟨cx, locs, cells, slots, X, e1, N, b1, b2, O1, K1⟩ := w
  obtain ⟨hx, hb', hml, hZ, hown, hret, hlk, hmn, hw0, hn0⟩ := id cx
  subst hp
  obtain ⟨_, _, ⟨T', L', k', n'⟩, -, X', ⟨Lc, ⟨q1, N', K'⟩, l1, y1, z1⟩, stp⟩ := X.specialBack hx (y := y) hi hown (mvT hZ w1) (mvT hZ w2) (mvT hZ w4) hy C (g := mkF m pc Ls (argsL.reverse ++ .ref a :: st)) rfl (hsz.trans hml.symm) (Steps.refl _) (a := a) (argsL := argsL) (rest := st) (fun sig h => by rw [pd] at h; cases h; exact ha) rfl (by show 2 * 0 + _ ≤ _; omega) (hb hb' d) (fun _ _ => ⟨rfl, e1, by show cells + _ ≤ _; omega, by show slots + _ ≤ _; omega⟩)
  dsimp only [Pt.U, Pt.locs, Pt.cells, Pt.slots] at X' l1 y1 z1 stp q1 K'
  subst l1 y1 z1
  refine (K _ T' T'.heap ⟨cx, _, _, _, X', rfl, Fr.app N N', by omega, by omega, O1.keep K' (fun x hx => (hws x hx).elim (hw0 x) (Nat.le_trans hn0)), K1.trans K' hws⟩ K' q1).step (fun t q => stp.trans q)
theorem b_virtual (w : Wk p l e R s m args below meth c Z own bytes maxL ret mn n0 h0 ws T h k n) {index : Nat} {C : String} {y : MethodName} {W : Nat} {kc ns : Nat} {ws' : List Addr} {Q : Option Value → Heap → Prop} {argsL : List Value} {a : Addr} {sg : MethodDescriptor} (d : decode bytes pc = .ok (.invokevirtual index, 3)) (w1 : (Cond.methodLink own index y).before a0 Z = true) (w2 : (Cond.declares y).before a0 Z = true) (w3 : (Cond.selects C y y).before a0 Z = true) (w4 : (Cond.instanceMethod y).before a0 Z = true) (hy : y.cls ≠ "java/lang/invoke/MethodHandle" ∧ y.cls ≠ "java/lang/invoke/VarHandle") (pd : parseMethodDescriptor y.desc = some sg) (ha : argsL.length = sg.parameters.length) (E : Exa Z h a C)
    (C' : Pays l R p e below s args y W (.ref a :: argsL).toArray n0 h kc ns ws' Q) (hsz : Ls.size = maxL) (hW : (st.map fun v => v.category).sum ≤ W) (hc : k + kc ≤ R.cells) (hs : n + ns ≤ R.slots) (hws : ∀ x ∈ ws', x ∈ ws ∨ h0.size ≤ x) (hp : pc + 3 = pc') (K : ∀ v T' h', Wk p l e R s m args below meth c Z own bytes maxL ret mn n0 h0 ws T' h' (k + kc) (n + ns) → Keep h h' ws' → Q v h' → Goes p e below P T' (mkF m pc' Ls (v.toList ++ st))) : Goes p e below P T (mkF m pc Ls (argsL.reverse ++ .ref a :: st)) := by
  obtain ⟨cx, locs, cells, slots, X, e1, N, b1, b2, O1, K1⟩ := w
  obtain ⟨hx, hb', hml, hZ, hown, hret, hlk, hmn, hw0, hn0⟩ := id cx
  subst hp
  obtain ⟨cq, kq, qa, qb, qc⟩ := isOf (T := T) hZ e1 E
  obtain ⟨_, _, ⟨T', L', k', n'⟩, -, X', ⟨Lc, ⟨q1, N', K'⟩, l1, y1, z1⟩, stp⟩ := X.virtualBack hx (y := y) (z := y) hown (mvT hZ w1) (mvT hZ w2) (notFace_of_selects (args := #[]) (mvT hZ w3)) (mvT hZ w3) (mvT hZ w4) hy C' qa qc (g := mkF m pc Ls (argsL.reverse ++ .ref a :: st)) rfl (hsz.trans hml.symm) (Steps.refl _) (argsL := argsL) (rest := st) (fun sig h => by rw [pd] at h; cases h; exact ha) rfl (by show 2 * 0 + _ ≤ _; omega) (hb hb' d) (fun _ _ => ⟨rfl, e1, by show cells + _ ≤ _; omega, by show slots + _ ≤ _; omega⟩)
  dsimp only [Pt.U, Pt.locs, Pt.cells, Pt.slots] at X' l1 y1 z1 stp q1 K'
  subst l1 y1 z1
  refine (K _ T' T'.heap ⟨cx, _, _, _, X', rfl, Fr.app N N', by omega, by omega, O1.keep K' (fun x hx => (hws x hx).elim (hw0 x) (Nat.le_trans hn0)), K1.trans K' hws⟩ K' q1).step (fun t q => stp.trans q)
theorem b_static (w : Wk p l e R s m args below meth c Z own bytes maxL ret mn n0 h0 ws T h k n) {index : Nat} {y : MethodName} {W : Nat} {kc ns : Nat} {ws' : List Addr} {Q : Option Value → Heap → Prop} {bytes' : ByteArray} {maxL' : Nat} {ret' : Option FieldType} {argsL : List Value} {sg : MethodDescriptor} (d : decode bytes pc = .ok (.invokestatic index, 3)) (w1 : (Cond.methodLink own index y).before a0 Z = true) (w2 : (Cond.static y).before a0 Z = true) (w3 : (Cond.initialized y.cls).before a0 Z = true) (w4 : (Cond.code y bytes' maxL' ret').before a0 Z = true) (hy : y.cls ≠ "java/lang/invoke/MethodHandle" ∧ y.cls ≠ "java/lang/invoke/VarHandle") (pd : parseMethodDescriptor y.desc = some sg) (ha : argsL.length = sg.parameters.length)
    (C : Pays l R p e below s args y W argsL.toArray n0 h kc ns ws' Q) (hsz : Ls.size = maxL) (hW : (st.map fun v => v.category).sum ≤ W) (hc : k + kc ≤ R.cells) (hs : n + ns ≤ R.slots) (hws : ∀ x ∈ ws', x ∈ ws ∨ h0.size ≤ x) (hp : pc + 3 = pc') (K : ∀ v T' h', Wk p l e R s m args below meth c Z own bytes maxL ret mn n0 h0 ws T' h' (k + kc) (n + ns) → Keep h h' ws' → Q v h' → Goes p e below P T' (mkF m pc' Ls (v.toList ++ st))) : Goes p e below P T (mkF m pc Ls (argsL.reverse ++ st)) := by
  obtain ⟨cx, locs, cells, slots, X, e1, N, b1, b2, O1, K1⟩ := w
  obtain ⟨hx, hb', hml, hZ, hown, hret, hlk, hmn, hw0, hn0⟩ := id cx
  subst hp
  obtain ⟨_, _, ⟨T', L', k', n'⟩, -, X', ⟨Lc, ⟨q1, N', K'⟩, l1, y1, z1⟩, stp⟩ := Jvm.LawKit.callS X hx (y := y) hown (mvT hZ w1) (mvT hZ w2) (mvT hZ w3) (mvT hZ w4) hy C (g := mkF m pc Ls (argsL.reverse ++ st)) rfl (hsz.trans hml.symm) (argsL := argsL) (rest := st) (fun sig h => by rw [pd] at h; cases h; exact ha) rfl (by show 2 * 0 + _ ≤ _; omega) (hb hb' d) (fun _ _ => ⟨rfl, e1, by show cells + _ ≤ _; omega, by show slots + _ ≤ _; omega⟩)
  dsimp only [Pt.U, Pt.locs, Pt.cells, Pt.slots] at X' l1 y1 z1 stp q1 K'
  subst l1 y1 z1
  refine (K _ T' T'.heap ⟨cx, _, _, _, X', rfl, Fr.app N N', by omega, by omega, O1.keep K' (fun x hx => (hws x hx).elim (hw0 x) (Nat.le_trans hn0)), K1.trans K' hws⟩ K' q1).step stp
theorem c_staticW {s0 : State} {vm0 : Vm} (w : Wk p l e R (s0.setVm vm0) m args below meth c Z own bytes maxL ret mn n0 h0 ws T h k n) {k0 : Nat} (hS : s0.Since vm0 k0) (hk0 : k0 ≤ h.size) {index : Nat} {y : MethodName} {bytes' : ByteArray} {maxL' : Nat} {ret' : Option FieldType} {rm : Room} {ws' : List Addr} {Q : Option Value → Heap → Prop} {argsL : List Value} {sg : MethodDescriptor} (d : decode bytes pc = .ok (.invokestatic index, 3)) (w1 : (Cond.methodLink own index y).before a0 Z = true) (w2 : (Cond.static y).before a0 Z = true) (w3 : (Cond.initialized y.cls).before a0 Z = true) (w4 : (Cond.code y bytes' maxL' ret').before a0 Z = true) (hy : y.cls ≠ "java/lang/invoke/MethodHandle" ∧ y.cls ≠ "java/lang/invoke/VarHandle") (pd : parseMethodDescriptor y.desc = some sg) (ha : argsL.length = sg.parameters.length)
    (C : CtrW l Z n0 y bytes' maxL' ret' [] rm argsL.toArray h ws' Q) (hsz : Ls.size = maxL) (hf : rm.frames + 1 ≤ R.frames) {W : Nat} (hW : (st.map fun v => v.category).sum ≤ W) (hl : W + (maxL' + 11) + rm.locals ≤ R.locals) (hc : k + rm.cells ≤ R.cells) (hs : n + rm.slots ≤ R.slots) (hws : ∀ x ∈ ws', x ∈ ws ∨ h0.size ≤ x) (hp : pc + 3 = pc') (K : ∀ v T' h' vm1, Wk p l e R (s0.setVm vm1) m args below meth c Z own bytes maxL ret mn n0 h0 ws T' h' (k + rm.cells) (n + rm.slots) → s0.Since vm1 h'.size → Keep h h' ws' → Q v h' → Goes p e below P T' (mkF m pc' Ls (v.toList ++ st))) : Goes p e below P T (mkF m pc Ls (argsL.reverse ++ st)) := by
  obtain ⟨cx, locs, cells, slots, X, e1, N, b1, b2, O1, K1⟩ := w
  obtain ⟨hx, hb', hml, hZ, hown, hret, hlk, hmn, hw0, hn0⟩ := id cx
  subst hp
  obtain ⟨_, _, ⟨T', L', k', n'⟩, -, X', hS', hgr, ⟨Lc, ⟨q1, N', K'⟩, l1, y1, z1⟩, stp⟩ := callSS X hx (y := y) hown (mvT hZ w1) (mvT hZ w2) (mvT hZ w3) (mvT hZ w4) hy (backOfS (W := W) (Q := fun v t L => Q v t ∧ Fr n0 L ∧ Keep h t ws') C hZ w4 w3 hf hl) (g := mkF m pc Ls (argsL.reverse ++ st)) rfl (hsz.trans hml.symm) (argsL := argsL) (rest := st) (fun sig h => by rw [pd] at h; cases h; exact ha) rfl (by show 2 * 0 + _ ≤ _; omega) (hb hb' d) (fun _ _ => ⟨rfl, e1, by show cells + _ ≤ _; omega, by show slots + _ ≤ _; omega⟩)
  dsimp only [Pt.U, Pt.locs, Pt.cells, Pt.slots] at X' hS' hgr l1 y1 z1 stp q1 K'
  subst l1 y1 z1
  have hS2 : s0.Since T'.vm T'.heap.size := hS.trans hS' (Nat.le_trans hk0 (by rw [← e1]; exact hgr))
  refine (K _ T' T'.heap T'.vm ⟨⟨hx, hb', hml, State.Warmed39.trans (t := s0.setVm vm0) hZ hS'.1, by rw [show (s0.setVm T'.vm).vm = T'.vm from rfl, hS'.1.alike.findClass]; exact hown, hret, hlk, hmn, hw0, hn0⟩, _, _, _, X', rfl, Fr.app N N', by omega, by omega, O1.keep K' (fun x hx => (hws x hx).elim (hw0 x) (Nat.le_trans hn0)), K1.trans K' hws⟩ hS2 K' q1).step (fun t q => stp.trans q)
theorem c_virtualW {s0 : State} {vm0 : Vm} (w : Wk p l e R (s0.setVm vm0) m args below meth c Z own bytes maxL ret mn n0 h0 ws T h k n) {k0 : Nat} (hS : s0.Since vm0 k0) (hk0 : k0 ≤ h.size) {index : Nat} {C : String} {y : MethodName} {bytes' : ByteArray} {maxL' : Nat} {ret' : Option FieldType} {rm : Room} {ws' : List Addr} {Q : Option Value → Heap → Prop} {argsL : List Value} {a : Addr} {sg : MethodDescriptor} (d : decode bytes pc = .ok (.invokevirtual index, 3)) (w1 : (Cond.methodLink own index y).before a0 Z = true) (w2 : (Cond.declares y).before a0 Z = true) (w3 : (Cond.selects C y y).before a0 Z = true) (w4 : (Cond.instanceMethod y).before a0 Z = true) (w5 : (Cond.code y bytes' maxL' ret').before a0 Z = true) (w6 : (Cond.initialized y.cls).before a0 Z = true) (hy : y.cls ≠ "java/lang/invoke/MethodHandle" ∧ y.cls ≠ "java/lang/invoke/VarHandle") (pd : parseMethodDescriptor y.desc = some sg) (ha : argsL.length = sg.parameters.length) (E : Exa Z h a C)
    (C' : CtrW l Z n0 y bytes' maxL' ret' [] rm (.ref a :: argsL).toArray h ws' Q) (hsz : Ls.size = maxL) (hf : rm.frames + 1 ≤ R.frames) {W : Nat} (hW : (st.map fun v => v.category).sum ≤ W) (hl : W + (maxL' + 11) + rm.locals ≤ R.locals) (hc : k + rm.cells ≤ R.cells) (hs : n + rm.slots ≤ R.slots) (hws : ∀ x ∈ ws', x ∈ ws ∨ h0.size ≤ x) (hp : pc + 3 = pc') (K : ∀ v T' h' vm1, Wk p l e R (s0.setVm vm1) m args below meth c Z own bytes maxL ret mn n0 h0 ws T' h' (k + rm.cells) (n + rm.slots) → s0.Since vm1 h'.size → Keep h h' ws' → Q v h' → Goes p e below P T' (mkF m pc' Ls (v.toList ++ st))) : Goes p e below P T (mkF m pc Ls (argsL.reverse ++ .ref a :: st)) := by
  obtain ⟨cx, locs, cells, slots, X, e1, N, b1, b2, O1, K1⟩ := w
  obtain ⟨hx, hb', hml, hZ, hown, hret, hlk, hmn, hw0, hn0⟩ := id cx
  subst hp
  obtain ⟨cq, kq, qa, qb, qc⟩ := isOf (T := T) hZ e1 E
  obtain ⟨_, _, ⟨T', L', k', n'⟩, -, X', hS', hgr, ⟨Lc, ⟨q1, N', K'⟩, l1, y1, z1⟩, stp⟩ := X.virtualBackS hx (y := y) (z := y) hown (mvT hZ w1) (mvT hZ w2) (notFace_of_selects (args := #[]) (mvT hZ w3)) (mvT hZ w3) (mvT hZ w4) hy (backOfS (W := W) (Q := fun v t L => Q v t ∧ Fr n0 L ∧ Keep h t ws') C' hZ w5 w6 hf hl) qa qc (g := mkF m pc Ls (argsL.reverse ++ .ref a :: st)) rfl (hsz.trans hml.symm) (Steps.refl _) (argsL := argsL) (rest := st) (fun sig h => by rw [pd] at h; cases h; exact ha) rfl (by show 2 * 0 + _ ≤ _; omega) (hb hb' d) (fun _ _ => ⟨rfl, e1, by show cells + _ ≤ _; omega, by show slots + _ ≤ _; omega⟩)
  dsimp only [Pt.U, Pt.locs, Pt.cells, Pt.slots] at X' hS' hgr l1 y1 z1 stp q1 K'
  subst l1 y1 z1
  have hS2 : s0.Since T'.vm T'.heap.size := hS.trans hS' (Nat.le_trans hk0 (by rw [← e1]; exact hgr))
  refine (K _ T' T'.heap T'.vm ⟨⟨hx, hb', hml, State.Warmed39.trans (t := s0.setVm vm0) hZ hS'.1, by rw [show (s0.setVm T'.vm).vm = T'.vm from rfl, hS'.1.alike.findClass]; exact hown, hret, hlk, hmn, hw0, hn0⟩, _, _, _, X', rfl, Fr.app N N', by omega, by omega, O1.keep K' (fun x hx => (hws x hx).elim (hw0 x) (Nat.le_trans hn0)), K1.trans K' hws⟩ hS2 K' q1).step (fun t q => stp.trans q)
theorem c_specialW {s0 : State} {vm0 : Vm} (w : Wk p l e R (s0.setVm vm0) m args below meth c Z own bytes maxL ret mn n0 h0 ws T h k n) {k0 : Nat} (hS : s0.Since vm0 k0) (hk0 : k0 ≤ h.size) {index : Nat} {y : MethodName} {bytes' : ByteArray} {maxL' : Nat} {rm : Room} {ws' : List Addr} {Q : Option Value → Heap → Prop} {argsL : List Value} {a : Addr} {sg : MethodDescriptor} (d : decode bytes pc = .ok (.invokespecial index, 3)) (hi : y.name = "<init>") (w1 : (Cond.methodLink own index y).before a0 Z = true) (w2 : (Cond.instanceMethod y).before a0 Z = true) (w3 : (Cond.initialized y.cls).before a0 Z = true) (w4 : (Cond.code y bytes' maxL' none).before a0 Z = true) (hy : y.cls ≠ "java/lang/invoke/MethodHandle" ∧ y.cls ≠ "java/lang/invoke/VarHandle") (pd : parseMethodDescriptor y.desc = some sg) (ha : argsL.length = sg.parameters.length)
    (C : CtrW l Z n0 y bytes' maxL' none [] rm (.ref a :: argsL).toArray h ws' Q) (hsz : Ls.size = maxL) (hf : rm.frames + 1 ≤ R.frames) {W : Nat} (hW : (st.map fun v => v.category).sum ≤ W) (hl : W + (maxL' + 11) + rm.locals ≤ R.locals) (hc : k + rm.cells ≤ R.cells) (hs : n + rm.slots ≤ R.slots) (hws : ∀ x ∈ ws', x ∈ ws ∨ h0.size ≤ x) (hp : pc + 3 = pc') (K : ∀ v T' h' vm1, Wk p l e R (s0.setVm vm1) m args below meth c Z own bytes maxL ret mn n0 h0 ws T' h' (k + rm.cells) (n + rm.slots) → s0.Since vm1 h'.size → Keep h h' ws' → Q v h' → Goes p e below P T' (mkF m pc' Ls (v.toList ++ st))) : Goes p e below P T (mkF m pc Ls (argsL.reverse ++ .ref a :: st)) := by
  obtain ⟨cx, locs, cells, slots, X, e1, N, b1, b2, O1, K1⟩ := w
  obtain ⟨hx, hb', hml, hZ, hown, hret, hlk, hmn, hw0, hn0⟩ := id cx
  subst hp
  obtain ⟨_, _, ⟨T', L', k', n'⟩, -, X', hS', hgr, ⟨Lc, ⟨q1, N', K'⟩, l1, y1, z1⟩, stp⟩ := X.specialBackS hx (y := y) hi hown (mvT hZ w1) (mvT hZ w2) (mvT hZ w4) hy (backOfS (W := W) (Q := fun v t L => Q v t ∧ Fr n0 L ∧ Keep h t ws') C hZ w4 w3 hf hl) (g := mkF m pc Ls (argsL.reverse ++ .ref a :: st)) rfl (hsz.trans hml.symm) (Steps.refl _) (a := a) (argsL := argsL) (rest := st) (fun sig h => by rw [pd] at h; cases h; exact ha) rfl (by show 2 * 0 + _ ≤ _; omega) (hb hb' d) (fun _ _ => ⟨rfl, e1, by show cells + _ ≤ _; omega, by show slots + _ ≤ _; omega⟩)
  dsimp only [Pt.U, Pt.locs, Pt.cells, Pt.slots] at X' hS' hgr l1 y1 z1 stp q1 K'
  subst l1 y1 z1
  have hS2 : s0.Since T'.vm T'.heap.size := hS.trans hS' (Nat.le_trans hk0 (by rw [← e1]; exact hgr))
  refine (K _ T' T'.heap T'.vm ⟨⟨hx, hb', hml, State.Warmed39.trans (t := s0.setVm vm0) hZ hS'.1, by rw [show (s0.setVm T'.vm).vm = T'.vm from rfl, hS'.1.alike.findClass]; exact hown, hret, hlk, hmn, hw0, hn0⟩, _, _, _, X', rfl, Fr.app N N', by omega, by omega, O1.keep K' (fun x hx => (hws x hx).elim (hw0 x) (Nat.le_trans hn0)), K1.trans K' hws⟩ hS2 K' q1).step (fun t q => stp.trans q)
theorem i_ldcS {s0 : State} {vm0 : Vm} (w : Wk p l e R (s0.setVm vm0) m args below meth c Z own bytes maxL ret mn n0 h0 ws T h k n) {k0 : Nat} (hS : s0.Since vm0 k0) (hk0 : k0 ≤ h.size) {index N : Nat} {text : String} (d : decode bytes pc = .ok (.ldc index, 2)) (w1 : (Cond.stringLink own index text).before a0 Z = true) (wS : ∀ a ∈ Bundle.stringAtoms, a.before a0 Z = true) (hN : 4 * text.toList.length ≤ N) (hbig : N ≤ 536870912) (hc : k + 2 ≤ R.cells) (hs : n + (N + 4) ≤ R.slots) (hp : pc + 2 = pc')
    (K : ∀ a T' h' vm1, Wk p l e R (s0.setVm vm1) m args below meth c Z own bytes maxL ret mn n0 h0 ws T' h' (k + 2) (n + (N + 4)) → s0.Since vm1 h'.size → Ext h h' → Goes p e below P T' (mkF m pc' Ls (.ref a :: st))) : Goes p e below P T (mkF m pc Ls (st)) := by
  obtain ⟨cx, locs, cells, slots, X, e1, N1, b1, b2, O1, K1⟩ := w
  obtain ⟨hx, hb', hml, hZ, hown, cr⟩ := id cx
  subst hp
  obtain ⟨a, T', h', k1, X', e', E, hS', hk1, hZ', hown', stp⟩ := ldcS X hx hZ hown w1 wS e1 hS hk0 (g := mkF m pc Ls st) rfl (hb hb' d) hN hbig (by omega) (by omega)
  exact (K a T' h' T'.vm ⟨⟨hx, hb', hml, hZ', hown', cr⟩, locs, _, _, X', e', N1, by omega, by omega, O1.ext E, K1.ext E⟩ ⟨hS'.1, hS'.2.mono hk1⟩ E).step stp
theorem i_acopy (w : Wk p l e R s m args below meth c Z own bytes maxL ret mn n0 h0 ws T h k n) {index : Nat} {a b : Addr} {ca cb : ClassId} {ty : FieldType} {vs vd : List Value} {sp dp nn : Nat} (d : decode bytes pc = .ok (.invokestatic index, 3)) (w1 : (Cond.methodLink own index Jvm.Stand.acN).before a0 Z = true) (w2 : (Cond.native Jvm.Stand.acN).before a0 Z = true) (w3 : (Cond.static Jvm.Stand.acN).before a0 Z = true) (w4 : (Cond.initialized "java/lang/System").before a0 Z = true)
    (A : Ary Z h a ca ty vs) (B : Ary Z h b cb ty vd) (hty : refKind ty = false) (h4 : sp + nn ≤ vs.length) (h5 : dp + nn ≤ vd.length) (hb : b ∈ ws ∨ h0.size ≤ b) (hsz : Ls.size = maxL) (hf : 1 ≤ R.frames) {W : Nat} (hW : (st.map fun v => v.category).sum ≤ W) (hl : W + 18 ≤ R.locals) (hp : pc + 3 = pc')
    (K : ∀ T' h', Wk p l e R s m args below meth c Z own bytes maxL ret mn n0 h0 ws T' h' k n → Keep h h' [b] → Ary Z h' b cb ty (vd.take dp ++ (vs.drop sp).take nn ++ vd.drop (dp + nn)) → Goes p e below P T' (mkF m pc' Ls (st))) : Goes p e below P T (mkF m pc Ls (.int (Int32.ofNat nn) :: .int (Int32.ofNat dp) :: .ref b :: .int (Int32.ofNat sp) :: .ref a :: st)) := by
  have hna := w.wsn hb
  obtain ⟨cx, locs, cells, slots, X, e1, N, b1, b2, O1, K1⟩ := w
  obtain ⟨hx, hb', hml, hZ, hown, cr⟩ := id cx
  subst hp
  have lA := A.1
  have lB := B.1
  have us : (List.range nn).map (fun i => vs.getD (sp + i) (defaultValue ty)) = (vs.drop sp).take nn := by
    apply List.ext_getElem?
    intro i
    rw [List.getElem?_map, List.getElem?_take]
    by_cases hi : i < nn
    · rw [if_pos hi, List.getElem?_range hi, List.getElem?_drop, List.getElem?_eq_getElem (by omega)]
      simp [List.getD_eq_getElem?_getD, List.getElem?_eq_getElem (show sp + i < vs.length by omega)]
    · rw [if_neg hi, List.getElem?_eq_none (by simp; omega)]; rfl
  obtain ⟨T', h', L, X', e', N', K', B', stp⟩ := cpA X hx hZ hown w1 w2 w3 w4 e1 A.2 B.2 (sp := Int32.ofNat sp) (dp := Int32.ofNat dp) (nn := Int32.ofNat nn) (us := (vs.drop sp).take nn) (Or.inl ⟨rfl, hty⟩) (nonneg_ofNat (by omega)) (nonneg_ofNat (by omega)) (nonneg_ofNat (by omega))
    (by rw [clamp_ofNat (by omega), clamp_ofNat (by omega), clamp_ofNat (by omega)]; exact h4) (by rw [clamp_ofNat (by omega), clamp_ofNat (by omega), clamp_ofNat (by omega)]; exact h5) (by rw [clamp_ofNat (by omega), clamp_ofNat (by omega)]; exact us.symm) (by rw [clamp_ofNat (by omega), clamp_ofNat (by omega)]; exact h5) N hna
    (g := mkF m pc Ls (.int (Int32.ofNat nn) :: .int (Int32.ofNat dp) :: .ref b :: .int (Int32.ofNat sp) :: .ref a :: st)) rfl (hsz.trans hml.symm) rfl (Jvm.hb hb' d) hf (W := W) (by show 2 * 0 + _ ≤ _; omega) (by show W + (nativeFrameWords "java/lang/System" "arraycopy" 5 + 11) ≤ _; exact hl)
  rw [clamp_ofNat (show dp < 2147483648 by omega), clamp_ofNat (show nn < 2147483648 by omega)] at B'
  have ll : (vd.take dp ++ (vs.drop sp).take nn ++ vd.drop (dp + nn)).length = vd.length := by simp; omega
  exact (K T' h' ⟨cx, _, cells, slots, X', e', N', b1, b2, O1.keep K' (allS hna all0), K1.trans K' (allS hb all0)⟩ K' ⟨by rw [ll]; exact lB, by rw [ll]; exact B'⟩).step stp
end Calls
end Jvm.OwnKit
namespace Jvm.OwnKit
open Jvm Jvm.ClassFile Sem Op Lib Jvm.Free Jvm.Stand Jvm.LawKit Jvm.RoadKit
theorem cat1 {v : Value} (h : v.isRef = true) : v.category = 1 := by cases v <;> simp [Value.isRef, Value.category] at h ⊢
theorem toInt_small {k : Nat} (h : k < 2147483648) : (Int32.ofNat k).toInt = k := Int32.toInt_ofNat_small h
theorem nat_of_nonneg {x : Int32} (h : ¬ x < 0) : ∃ k, k < 2147483648 ∧ x = Int32.ofNat k ∧ x.toInt = k := by
  rw [Int32.lt_iff_toInt_lt] at h
  have e0 : (0 : Int32).toInt = 0 := rfl
  have b := x.toInt_lt
  refine ⟨x.toInt.toNat, by omega, ?_, by omega⟩
  apply Int32.toInt_inj.mp
  rw [toInt_small (by omega)]; omega
theorem lt_nat {a b : Nat} (ha : a < 2147483648) (hb : b < 2147483648) : Int32.ofNat a < Int32.ofNat b ↔ a < b := by
  rw [Int32.lt_iff_toInt_lt, toInt_small ha, toInt_small hb]; omega
theorem eq_nat {a b : Nat} (ha : a < 2147483648) (hb : b < 2147483648) : Int32.ofNat a = Int32.ofNat b ↔ a = b := by
  rw [← Int32.toInt_inj, toInt_small ha, toInt_small hb]; omega
theorem tbv (k : Nat) : (Int32.ofNat k).toBitVec = BitVec.ofNat 32 k := rfl
theorem tnat {k : Nat} (h : k < 4294967296) : (Int32.ofNat k).toBitVec.toNat = k := by rw [tbv, BitVec.toNat_ofNat]; omega
theorem i32_ext {x y : Int32} (h : x.toBitVec.toNat = y.toBitVec.toNat) : x = y := Int32.toBitVec_inj.mp (BitVec.eq_of_toNat_eq h)
theorem add_nat (a b : Nat) : Int32.ofNat a + Int32.ofNat b = Int32.ofNat (a + b) := by
  apply i32_ext; rw [Int32.toBitVec_add, BitVec.toNat_add, tbv, tbv, tbv]; simp
theorem sub_nat {a b : Nat} (h : b ≤ a) : Int32.ofNat a - Int32.ofNat b = Int32.ofNat (a - b) := by
  have e : Int32.ofNat a = Int32.ofNat (a - b) + Int32.ofNat b := by rw [add_nat]; congr 1; omega
  rw [e]
  apply Int32.toBitVec_inj.mp
  rw [Int32.toBitVec_sub, Int32.toBitVec_add, BitVec.add_sub_cancel]
theorem and_nat (a b : Nat) : Int32.ofNat a &&& Int32.ofNat b = Int32.ofNat (a &&& b) := by
  apply i32_ext
  rw [Int32.toBitVec_and, BitVec.toNat_and, tbv, tbv, tbv]
  simp [Nat.and_mod_two_pow]
theorem or_nat (a b : Nat) : Int32.ofNat a ||| Int32.ofNat b = Int32.ofNat (a ||| b) := by
  apply i32_ext
  rw [Int32.toBitVec_or, BitVec.toNat_or, tbv, tbv, tbv]
  simp [Nat.or_mod_two_pow]
theorem shl_nat {a j : Nat} (hj : j < 32) : Int32.ofNat a <<< (Int32.ofNat j &&& 31) = Int32.ofNat (a * 2 ^ j) := by
  have e : (Int32.ofNat j &&& 31) = Int32.ofNat j := by
    have q : (31 : Int32) = Int32.ofNat 31 := rfl
    rw [q, and_nat]; congr 1
    have := Nat.and_two_pow_sub_one_eq_mod j 5
    simp at this; rw [this]; omega
  rw [e]
  apply i32_ext
  rw [Int32.toBitVec_shiftLeft]
  have s : ((Int32.ofNat j).toBitVec.smod 32) = BitVec.ofNat 32 j := by
    rw [tbv]
    have t : ∀ k : Fin 32, (BitVec.ofNat 32 k.val).smod 32 = BitVec.ofNat 32 k.val := by decide
    exact t ⟨j, hj⟩
  rw [s, tbv, tbv, BitVec.shiftLeft_eq', BitVec.toNat_shiftLeft, BitVec.toNat_ofNat, BitVec.toNat_ofNat, BitVec.toNat_ofNat, Nat.mod_eq_of_lt (show j < 2 ^ 32 by omega), Nat.shiftLeft_eq, Nat.mod_mul_mod]
theorem shr_nat {a j : Nat} (ha : a < 2147483648) (hj : j < 32) : Int32.ofNat a >>> (Int32.ofNat j &&& 31) = Int32.ofNat (a / 2 ^ j) := by
  have e : (Int32.ofNat j &&& 31) = Int32.ofNat j := by
    have q : (31 : Int32) = Int32.ofNat 31 := rfl
    rw [q, and_nat]; congr 1
    have := Nat.and_two_pow_sub_one_eq_mod j 5
    simp at this; rw [this]; omega
  rw [e]
  apply i32_ext
  rw [Int32.toBitVec_shiftRight]
  have s : ((Int32.ofNat j).toBitVec.smod 32) = BitVec.ofNat 32 j := by
    rw [tbv]
    have t : ∀ k : Fin 32, (BitVec.ofNat 32 k.val).smod 32 = BitVec.ofNat 32 k.val := by decide
    exact t ⟨j, hj⟩
  have hm : (BitVec.ofNat 32 a).toNat = a := by rw [BitVec.toNat_ofNat]; omega
  rw [s, tbv, tbv, BitVec.sshiftRight_eq', BitVec.toNat_ofNat, Nat.mod_eq_of_lt (show j < 2 ^ 32 by omega), BitVec.toNat_sshiftRight_of_msb_false (by rw [BitVec.msb_eq_false_iff_two_mul_lt, hm]; omega), hm, Nat.shiftRight_eq_div_pow, BitVec.toNat_ofNat]
  have : a / 2 ^ j ≤ a := Nat.div_le_self _ _
  exact (Nat.mod_eq_of_lt (by generalize a / 2 ^ j = q at *; omega)).symm
theorem shr_zero (x : Int32) : x >>> ((0 : Int32) &&& 31) = x := by
  have e : ((0 : Int32) &&& 31) = 0 := by decide
  rw [e]
  apply Int32.toBitVec_inj.mp
  rw [Int32.toBitVec_shiftRight]
  have e1 : ((0 : Int32).toBitVec.smod 32) = 0#32 := by decide
  rw [e1, BitVec.sshiftRight_eq']
  exact BitVec.sshiftRight_zero
theorem char_nat (x : Int32) : ∃ k, k < 65536 ∧ nar .char x = Int32.ofNat k := by
  have f := fits_nar_char x
  simp only [fits, Bool.and_eq_true, decide_eq_true_eq] at f
  obtain ⟨f1, f2⟩ := f
  obtain ⟨k, h1, h2, h3⟩ := nat_of_nonneg (Int32.not_lt.mpr f1)
  refine ⟨k, ?_, h2⟩
  rw [Int32.le_iff_toInt_le, h3] at f2
  have e : (65535 : Int32).toInt = 65535 := rfl
  omega
theorem char_of_nat {k : Nat} (h : k < 65536) : nar .char (Int32.ofNat k) = Int32.ofNat k := by
  apply i32_ext
  show BitVec.toNat (((Int32.ofNat k).toBitVec.setWidth 16).setWidth 32) = _
  rw [BitVec.toNat_setWidth, BitVec.toNat_setWidth, tnat (by omega)]; omega
theorem char_idem (x : Int32) : nar .char (nar .char x) = nar .char x := by obtain ⟨k, h, e⟩ := char_nat x; rw [e, char_of_nat h]
theorem and_lt {x : Int32} {j : Nat} (hj : j < 31) : ∃ k, k < 2 ^ j ∧ x &&& Int32.ofNat (2 ^ j - 1) = Int32.ofNat k := by
  refine ⟨x.toBitVec.toNat % 2 ^ j, Nat.mod_lt _ (Nat.two_pow_pos _), ?_⟩
  have hp : 2 ^ j ≤ 2 ^ 31 := Nat.pow_le_pow_right (by omega) (by omega)
  have hm := Nat.mod_lt x.toBitVec.toNat (Nat.two_pow_pos j)
  apply i32_ext
  rw [Int32.toBitVec_and, BitVec.toNat_and, tnat (by omega), tnat (by omega), Nat.and_two_pow_sub_one_eq_mod]
theorem and31 (x : Int32) : ∃ k, k < 2147483648 ∧ x &&& 2147483647 = Int32.ofNat k := by
  refine ⟨x.toBitVec.toNat % 2 ^ 31, Nat.mod_lt _ (Nat.two_pow_pos _), ?_⟩
  have hm := Nat.mod_lt x.toBitVec.toNat (Nat.two_pow_pos 31)
  apply i32_ext
  rw [show (2147483647 : Int32) = Int32.ofNat (2 ^ 31 - 1) from rfl, Int32.toBitVec_and, BitVec.toNat_and, tnat (by omega), tnat (by omega), Nat.and_two_pow_sub_one_eq_mod]
theorem rem_nat {a b : Nat} (ha : a < 2147483648) (hb : b < 2147483648) (h : 0 < b) : Int32.ofNat a % Int32.ofNat b = Int32.ofNat (a % b) := by
  have hm := Nat.mod_lt a h
  apply Int32.toInt_inj.mp
  rw [Int32.toInt_mod, toInt_small ha, toInt_small hb, toInt_small (by omega)]
  rfl
theorem own_sta {s : State} {a0 : Array Value} {C nm d : String} {z : Int32} (w : (Cond.eq (Term.static C nm d) (Term.int z)).before a0 s = true) (wi : (Cond.initializedFor C nm d).before a0 s = true) : Sta s s.heap C nm d (.int z) := by
  have w' := Cond.before_iff.mp w
  obtain ⟨x, y, e1, e2, k1, k2⟩ := cmp_v (Or.inl w')
  cases (Term.int_eval z).symm.trans e2
  obtain ⟨z', rfl⟩ := k2
  have := gotT (Cond.eq_ints e1 (Term.int_eval z)) w'
  subst this
  exact Sta.start e1 (Or.inl wi)
/-- the byte of a char's code, as the array holds it -/
def bv (k : Nat) : Int32 := (Int32.ofNat k).toInt8.toInt32
theorem byte_idem (x : Int32) : nar .byte x.toInt8.toInt32 = x.toInt8.toInt32 := by
  show (x.toInt8.toInt32).toInt8.toInt32 = _
  rw [Int8.toInt8_toInt32]
theorem bv_mask (k : Nat) : bv k &&& 255 = Int32.ofNat (k % 256) := by
  apply i32_ext
  have h : (bv k).toBitVec = ((BitVec.ofNat 32 k).signExtend 8).signExtend 32 := by rw [bv, Int8.toBitVec_toInt32, Int32.toBitVec_toInt8, tbv]
  rw [Int32.toBitVec_and, BitVec.toNat_and, h, tnat (by omega)]
  have e : (((BitVec.ofNat 32 k).signExtend 8).signExtend 32).toNat % 256 = k % 256 := by
    rw [BitVec.toNat_signExtend]
    have hlt := (BitVec.ofNat 32 k).isLt
    simp only [BitVec.toNat_setWidth, BitVec.toNat_signExtend, BitVec.toNat_ofNat] at hlt ⊢
    split <;> split <;> omega
  rw [← e]
  exact Nat.and_two_pow_sub_one_eq_mod _ 8
theorem bv_char {k : Nat} (h : k < 256) : nar .char (bv k &&& 255) = Int32.ofNat k := by
  rw [bv_mask, Nat.mod_eq_of_lt h, char_of_nat (by omega)]
/-- StringUTF16.getChar's two bytes -/
theorem pair_char {k : Nat} (h : k < 65536) : nar .char (((bv k &&& 255) <<< ((0 : Int32) &&& 31)) ||| ((bv (k / 256) &&& 255) <<< ((8 : Int32) &&& 31))) = Int32.ofNat k := by
  rw [bv_mask, bv_mask]
  have e0 : (0 : Int32) = Int32.ofNat 0 := rfl
  have e8 : (8 : Int32) = Int32.ofNat 8 := rfl
  rw [e0, e8, shl_nat (by omega), shl_nat (by omega), or_nat, Nat.mod_eq_of_lt (show k / 256 < 256 by omega)]
  have : k % 256 * 2 ^ 0 ||| k / 256 * 2 ^ 8 = k := by
    rw [Nat.or_comm, Nat.pow_zero, Nat.mul_one, ← Nat.shiftLeft_eq, ← Nat.shiftLeft_add_eq_or_of_lt (by omega), Nat.shiftLeft_eq]; omega
  rw [this, char_of_nat h]
theorem bv_hi {k : Nat} (h : k < 65536) : (Int32.ofNat k >>> ((8 : Int32) &&& 31)).toInt8.toInt32 = bv (k / 256) := by
  have e8 : (8 : Int32) = Int32.ofNat 8 := rfl
  rw [e8, shr_nat (by omega) (by omega)]; rfl
theorem fits_bv (k : Nat) : fits .byte (.int (bv k)) = true := fits_nar_byte _
end Jvm.OwnKit
namespace Jvm.OwnKit
open Jvm Jvm.ClassFile Sem Op Lib Jvm.Free Jvm.Stand Jvm.LawKit Jvm.RoadKit
abbrev ST : String := "java/lang/String"
/-- chars as a char[] holds them -/
def chs (cs : List Nat) : List Value := cs.map fun c => .int (Int32.ofNat c)
/-- .. as a Latin-1 byte[] does -/
def lat (cs : List Nat) : List Value := cs.map fun c => .int (bv c)
/-- .. as a UTF-16 byte[] does, low before high -/
def wid : List Nat → List Value
  | [] => []
  | c :: cs => .int (bv c) :: .int (bv (c / 256)) :: wid cs
theorem chs_len (cs : List Nat) : (chs cs).length = cs.length := by simp [chs]
theorem lat_len (cs : List Nat) : (lat cs).length = cs.length := by simp [lat]
theorem wid_len : ∀ cs : List Nat, (wid cs).length = 2 * cs.length
  | [] => rfl
  | c :: cs => by simp [wid, wid_len cs]; omega
theorem chs_at {cs : List Nat} {i c : Nat} (h : cs[i]? = some c) : (chs cs)[i]? = some (.int (Int32.ofNat c)) := by simp [chs, h]
theorem lat_at {cs : List Nat} {i c : Nat} (h : cs[i]? = some c) : (lat cs)[i]? = some (.int (bv c)) := by simp [lat, h]
theorem wid_lo : ∀ {cs : List Nat} {i c : Nat}, cs[i]? = some c → (wid cs)[2 * i]? = some (.int (bv c))
  | x :: cs, 0, c, h => by simp at h; subst h; rfl
  | x :: cs, i + 1, c, h => by rw [show 2 * (i + 1) = 2 * i + 1 + 1 by omega]; simp [wid]; exact wid_lo (by simpa using h)
theorem wid_hi : ∀ {cs : List Nat} {i c : Nat}, cs[i]? = some c → (wid cs)[2 * i + 1]? = some (.int (bv (c / 256)))
  | x :: cs, 0, c, h => by simp at h; subst h; rfl
  | x :: cs, i + 1, c, h => by rw [show 2 * (i + 1) + 1 = 2 * i + 1 + 1 + 1 by omega]; simp [wid]; exact wid_hi (by simpa using h)
theorem inc_nat (i : Nat) : Int32.ofNat i + Int32.ofInt 1 = Int32.ofNat (i + 1) := add_nat i 1
theorem take_succ_some {α : Type} {cs : List α} {i : Nat} {c : α} (h : cs[i]? = some c) : cs.take (i + 1) = cs.take i ++ [c] := by rw [List.take_add_one, h]; rfl
theorem lat_step {cs : List Nat} {bs : List Value} {i ci : Nat} (hl : bs.length = cs.length) (hci : cs[i]? = some ci) (ht : bs.take i = lat (cs.take i)) : (bs.set i (.int (nar .byte (Int32.ofNat ci).toInt8.toInt32))).take (i + 1) = lat (cs.take (i + 1)) := by
  obtain ⟨hi, -⟩ := List.getElem?_eq_some_iff.mp hci
  rw [take_succ_some hci, take_succ_some (c := .int (nar .byte (Int32.ofNat ci).toInt8.toInt32)) (by rw [List.getElem?_set_self (by omega)]), List.take_set_of_le (Nat.le_refl _), ht, byte_idem]
  simp [lat, bv]
theorem all_step {cs : List Nat} {i ci : Nat} (hci : cs[i]? = some ci) (hs : ∀ c ∈ cs.take i, c < 256) (h : ci < 256) : ∀ c ∈ cs.take (i + 1), c < 256 := by
  rw [take_succ_some hci]; intro c hc; rcases List.mem_append.mp hc with q | q
  · exact hs c q
  · simp at q; omega
theorem le255 {c : Nat} (h : c < 65536) : ¬ (255 : Int32) < Int32.ofNat c ↔ c < 256 := by
  rw [show (255 : Int32) = Int32.ofNat 255 from rfl, lt_nat (by omega) (by omega)]; omega
theorem gt255 {c : Nat} (h : c < 65536) : (255 : Int32) < Int32.ofNat c ↔ 256 ≤ c := by
  rw [show (255 : Int32) = Int32.ofNat 255 from rfl, lt_nat (by omega) (by omega)]; omega
theorem ofNat_ne0 {n : Nat} (h : 0 < n) (h' : n < 2147483648) : ¬ Int32.ofNat n = 0 := by
  rw [show (0 : Int32) = Int32.ofNat 0 from rfl, eq_nat h' (by omega)]; omega
theorem shl1 (i : Nat) : Int32.ofNat i <<< ((1 : Int32) &&& 31) = Int32.ofNat (2 * i) := by
  rw [show (1 : Int32) = Int32.ofNat 1 from rfl, shl_nat (by omega), Nat.mul_comm]
theorem shr1 {i : Nat} (h : i < 2147483648) : Int32.ofNat i >>> ((1 : Int32) &&& 31) = Int32.ofNat (i / 2) := by
  rw [show (1 : Int32) = Int32.ofNat 1 from rfl, shr_nat h (by omega)]
theorem ushr31 {x : Int32} (h : x < 0) : XT.ushr x 31 = 1 := by
  rw [Int32.lt_iff_toInt_lt] at h
  have e0 : (0 : Int32).toInt = 0 := rfl
  rw [e0] at h
  apply i32_ext
  have hb : 2147483648 ≤ x.toBitVec.toNat := by
    have e : x.toInt = x.toBitVec.toInt := rfl
    rw [e, BitVec.toInt_eq_toNat_cond] at h
    split at h <;> omega
  have hl := x.toBitVec.isLt
  show BitVec.toNat (x.toBitVec >>> (BitVec.ofNat 32 31 % 32)) = 1
  rw [show (BitVec.ofNat 32 31 % 32) = 31#32 by decide, BitVec.ushiftRight_eq', BitVec.toNat_ushiftRight, show (31#32).toNat = 31 by decide, Nat.shiftRight_eq_div_pow]
  omega
theorem cod1 {n : Nat} (h : 0 < n) (h' : n < 1000000) : (XT.ushr (Int32.ofNat n - Int32.ofNat (2 * n)) 31).toInt8.toInt32 = 1 := by
  rw [ushr31 (by
    rw [Int32.lt_iff_toInt_lt, Int32.toInt_sub, toInt_small (by omega), toInt_small (by omega)]
    show Int.bmod _ _ < 0
    rw [Int.bmod_eq_of_le (by omega) (by omega)]; omega)]
  decide
theorem cod0 (x : Int32) : (XT.ushr (x - x) 31).toInt8.toInt32 = 0 := by
  have e : x - x = 0 := by apply Int32.toBitVec_inj.mp; rw [Int32.toBitVec_sub, BitVec.sub_self]; rfl
  rw [e]; decide
theorem wid_step {cs : List Nat} {bs : List Value} {i ci : Nat} (hl : bs.length = 2 * cs.length) (hci : cs[i]? = some ci) (ht : bs.take (2 * i) = wid (cs.take i)) : ((bs.set (2 * i) (.int (bv ci))).set (2 * i + 1) (.int (bv (ci / 256)))).take (2 * (i + 1)) = wid (cs.take (i + 1)) := by
  obtain ⟨hi, -⟩ := List.getElem?_eq_some_iff.mp hci
  have w2 : ∀ (xs : List Nat) (x : Nat), wid (xs ++ [x]) = wid xs ++ [.int (bv x), .int (bv (x / 256))] := by
    intro xs x; induction xs with
    | nil => rfl
    | cons y ys ih => simp [wid, ih]
  rw [show 2 * (i + 1) = 2 * i + 1 + 1 by omega, take_succ_some (c := .int (bv (ci / 256))) (by rw [List.getElem?_set_self (by simp; omega)]), List.take_set_of_le (Nat.le_refl _), take_succ_some (c := .int (bv ci)) (by rw [List.getElem?_set_self (by omega)]), List.take_set_of_le (Nat.le_refl _), ht, take_succ_some hci, w2]
  simp
/-- the first place of c in cs, from i on -/
def ixN (c : Nat) : List Nat → Nat → Option Nat
  | [], _ => none
  | x :: xs, i => if x = c then some i else ixN c xs (i + 1)
def ixv (c : Nat) (cs : List Nat) (i : Nat) : Int32 := match ixN c (cs.drop i) i with | some j => Int32.ofNat j | none => -1
theorem ixv_end {c : Nat} {cs : List Nat} {i : Nat} (h : cs.length ≤ i) : ixv c cs i = -1 := by rw [ixv, List.drop_of_length_le h]; rfl
theorem ixv_hit {c : Nat} {cs : List Nat} {i : Nat} (h : cs[i]? = some c) : ixv c cs i = Int32.ofNat i := by
  obtain ⟨hi, e⟩ := List.getElem?_eq_some_iff.mp h
  rw [ixv, List.drop_eq_getElem_cons hi, e]; simp [ixN]
theorem ixv_miss {c x : Nat} {cs : List Nat} {i : Nat} (h : cs[i]? = some x) (hx : ¬ x = c) : ixv c cs i = ixv c cs (i + 1) := by
  obtain ⟨hi, e⟩ := List.getElem?_eq_some_iff.mp h
  rw [ixv, List.drop_eq_getElem_cons hi, e]; simp [ixN, hx, ixv]
theorem bv_inj {x y : Nat} (hx : x < 256) (hy : y < 256) (h : bv x = bv y) : x = y := by
  have := bv_char hx; rw [h, bv_char hy] at this
  exact ((eq_nat (by omega) (by omega)).mp this).symm
theorem lat_take_drop (cs : List Nat) (b n : Nat) : ((lat cs).drop b).take n = lat ((cs.drop b).take n) := by simp [lat, List.map_drop, List.map_take]
/-- the String at a, Latin-1, its array at t -/
def StrL (Z : State) (h : Heap) (a t : Addr) (ca : ClassId) (cs : List Nat) : Prop := Exa Z h a ST ∧ Fld Z h a ST "value" "[B" (.ref t) ∧ Fld Z h a ST "coder" "B" (.int 0) ∧ Ary Z h t ca .byte (lat cs) ∧ ∀ c ∈ cs, c < 256
/-- .. UTF-16 -/
def StrW (Z : State) (h : Heap) (a t : Addr) (ca : ClassId) (cs : List Nat) : Prop := Exa Z h a ST ∧ Fld Z h a ST "value" "[B" (.ref t) ∧ Fld Z h a ST "coder" "B" (.int 1) ∧ Ary Z h t ca .byte (wid cs) ∧ (∀ c ∈ cs, c < 65536) ∧ ∃ c ∈ cs, 256 ≤ c
def Str (Z : State) (h : Heap) (a t : Addr) (ca : ClassId) (cs : List Nat) : Prop := StrL Z h a t ca cs ∨ StrW Z h a t ca cs
section
variable {Z : State} {h h' : Heap} {a t : Addr} {ca : ClassId} {cs : List Nat} {ws : List Addr}
theorem StrL.ext (E : Ext h h') (S : StrL Z h a t ca cs) : StrL Z h' a t ca cs := ⟨S.1.ext E, S.2.1.ext E, S.2.2.1.ext E, S.2.2.2.1.ext E, S.2.2.2.2⟩
theorem StrL.keep (S : StrL Z h a t ca cs) (K : Keep h h' ws) (q : a ∉ ws) (r : t ∉ ws) : StrL Z h' a t ca cs := ⟨S.1.keep K, S.2.1.keep K q, S.2.2.1.keep K q, S.2.2.2.1.keep K r, S.2.2.2.2⟩
theorem StrW.ext (E : Ext h h') (S : StrW Z h a t ca cs) : StrW Z h' a t ca cs := ⟨S.1.ext E, S.2.1.ext E, S.2.2.1.ext E, S.2.2.2.1.ext E, S.2.2.2.2⟩
theorem StrW.keep (S : StrW Z h a t ca cs) (K : Keep h h' ws) (q : a ∉ ws) (r : t ∉ ws) : StrW Z h' a t ca cs := ⟨S.1.keep K, S.2.1.keep K q, S.2.2.1.keep K q, S.2.2.2.1.keep K r, S.2.2.2.2⟩
theorem StrL.lt (S : StrL Z h a t ca cs) : a < h.size := S.1.lt
theorem StrL.ltT (S : StrL Z h a t ca cs) : t < h.size := S.2.2.2.1.lt
theorem StrW.lt (S : StrW Z h a t ca cs) : a < h.size := S.1.lt
theorem StrW.ltT (S : StrW Z h a t ca cs) : t < h.size := S.2.2.2.1.lt
theorem Str.lt (S : Str Z h a t ca cs) : a < h.size := S.elim (·.lt) (·.lt)
theorem Str.ltT (S : Str Z h a t ca cs) : t < h.size := S.elim (·.ltT) (·.ltT)
theorem Str.ext (E : Ext h h') (S : Str Z h a t ca cs) : Str Z h' a t ca cs := S.imp (·.ext E) (·.ext E)
theorem Str.keep (S : Str Z h a t ca cs) (K : Keep h h' ws) (q : a ∉ ws) (r : t ∉ ws) : Str Z h' a t ca cs := S.imp (·.keep K q r) (·.keep K q r)
theorem Str.exa (S : Str Z h a t ca cs) : Exa Z h a ST := S.elim (·.1) (·.1)
theorem Str.val (S : Str Z h a t ca cs) : Fld Z h a ST "value" "[B" (.ref t) := S.elim (·.2.1) (·.2.1)
theorem Str.raw (S : Str Z h a t ca cs) : ∃ vs cd, Fld Z h a ST "coder" "B" (.int cd) ∧ Ary Z h t ca .byte vs ∧ (cd = 0 ∨ cd = 1) ∧ Int32.ofNat vs.length >>> (cd &&& 31) = Int32.ofNat cs.length ∧ (vs.length = 0 ↔ cs.length = 0) ∧ ((cd = 0 ∧ vs = lat cs ∧ ∀ c ∈ cs, c < 256) ∨ (cd = 1 ∧ vs = wid cs)) := by
  rcases S with ⟨h1, h2, h3, h4, h5⟩ | ⟨h1, h2, h3, h4, h5, h6⟩
  · exact ⟨_, 0, h3, h4, Or.inl rfl, by rw [shr_zero, lat_len], by rw [lat_len], Or.inl ⟨rfl, rfl, h5⟩⟩
  · exact ⟨_, 1, h3, h4, Or.inr rfl, by have := h4.1; rw [wid_len] at this ⊢; rw [shr1 this]; congr 1; omega, by rw [wid_len]; omega, Or.inr ⟨rfl, rfl⟩⟩
theorem Str.c16 (S : Str Z h a t ca cs) : ∀ c ∈ cs, c < 65536 := S.elim (fun q c hc => Nat.lt_trans (q.2.2.2.2 c hc) (by omega)) (·.2.2.2.2.1)
end
end Jvm.OwnKit
namespace Jvm.Pilot.@@N@@
open Jvm Jvm.ClassFile Sem Op Lib Jvm.Free Jvm.Stand Jvm.LawKit Jvm.RoadKit Bundle Jvm.Pilot.@@N@@.Jvm.D Jvm.OwnKit
theorem own_ch8 (x : Int32) : ∃ k, k < 256 ∧ nar .char (nar .char (x &&& (255 : Int32))) = Int32.ofNat k := by
  obtain ⟨k, h, e⟩ := and_lt (x := x) (j := 8) (by omega)
  refine ⟨k, h, ?_⟩
  rw [show (255 : Int32) = Int32.ofNat (2 ^ 8 - 1) from rfl, e, char_of_nat (by omega), char_of_nat (by omega)]
theorem own_four (x : Int32) : (1 : Int32) + (x &&& (3 : Int32)) = 1 ∨ (1 : Int32) + (x &&& (3 : Int32)) = 2 ∨ (1 : Int32) + (x &&& (3 : Int32)) = 3 ∨ (1 : Int32) + (x &&& (3 : Int32)) = 4 := by
  obtain ⟨k, h, e⟩ := and_lt (x := x) (j := 2) (by omega)
  rw [show x &&& (3 : Int32) = Int32.ofNat k from e]
  have t : ∀ k : Fin 4, (1 : Int32) + Int32.ofNat k.val = 1 ∨ (1 : Int32) + Int32.ofNat k.val = 2 ∨ (1 : Int32) + Int32.ofNat k.val = 3 ∨ (1 : Int32) + Int32.ofNat k.val = 4 := by decide
  exact t ⟨k, h⟩
def own_atN (k a b c d : Nat) : Nat := if k = 0 then a else if k = 1 then b else if k = 2 then c else d
theorem own_at_lt (k : Nat) {a b c d : Nat} (ha : a < 256) (hb : b < 256) (hc : c < 256) (hd : d < 256) : own_atN k a b c d < 256 := by unfold own_atN; split <;> (try split) <;> (try split) <;> assumption
theorem own_ek {k j : Nat} (hk : k < 4) (hj : j < 4) : Int32.ofNat k = Int32.ofNat j ↔ k = j := eq_nat (by omega) (by omega)
theorem own_d7_0 : decode jdk_52_method_21_code 0 = .ok (.iconst 0, 1) := by decide +kernel
theorem own_d7_1 : decode jdk_52_method_21_code 1 = .ok (.istore 5, 2) := by decide +kernel
theorem own_d7_3 : decode jdk_52_method_21_code 3 = .ok (.iload 5, 2) := by decide +kernel
theorem own_d7_5 : decode jdk_52_method_21_code 5 = .ok (.iload 4, 2) := by decide +kernel
theorem own_d7_7 : decode jdk_52_method_21_code 7 = .ok (.if_icmp .ge 37, 3) := by decide +kernel
theorem own_d7_10 : decode jdk_52_method_21_code 10 = .ok (.aload_n 0, 1) := by decide +kernel
theorem own_d7_11 : decode jdk_52_method_21_code 11 = .ok (.iload_n 1, 1) := by decide +kernel
theorem own_d7_12 : decode jdk_52_method_21_code 12 = .ok (.caload, 1) := by decide +kernel
theorem own_d7_13 : decode jdk_52_method_21_code 13 = .ok (.istore 6, 2) := by decide +kernel
theorem own_d7_15 : decode jdk_52_method_21_code 15 = .ok (.iload 6, 2) := by decide +kernel
theorem own_d7_17 : decode jdk_52_method_21_code 17 = .ok (.sipush 255, 3) := by decide +kernel
theorem own_d7_20 : decode jdk_52_method_21_code 20 = .ok (.if_icmp .le 6, 3) := by decide +kernel
theorem own_d7_23 : decode jdk_52_method_21_code 23 = .ok (.iload 5, 2) := by decide +kernel
theorem own_d7_25 : decode jdk_52_method_21_code 25 = .ok (.ireturn, 1) := by decide +kernel
theorem own_d7_26 : decode jdk_52_method_21_code 26 = .ok (.aload_n 2, 1) := by decide +kernel
theorem own_d7_27 : decode jdk_52_method_21_code 27 = .ok (.iload_n 3, 1) := by decide +kernel
theorem own_d7_28 : decode jdk_52_method_21_code 28 = .ok (.iload 6, 2) := by decide +kernel
theorem own_d7_30 : decode jdk_52_method_21_code 30 = .ok (.i2b, 1) := by decide +kernel
theorem own_d7_31 : decode jdk_52_method_21_code 31 = .ok (.bastore, 1) := by decide +kernel
theorem own_d7_32 : decode jdk_52_method_21_code 32 = .ok (.iinc 1 1, 3) := by decide +kernel
theorem own_d7_35 : decode jdk_52_method_21_code 35 = .ok (.iinc 3 1, 3) := by decide +kernel
theorem own_d7_38 : decode jdk_52_method_21_code 38 = .ok (.iinc 5 1, 3) := by decide +kernel
theorem own_d7_41 : decode jdk_52_method_21_code 41 = .ok (.goto (-38), 3) := by decide +kernel
theorem own_d7_44 : decode jdk_52_method_21_code 44 = .ok (.iload 4, 2) := by decide +kernel
theorem own_d7_46 : decode jdk_52_method_21_code 46 = .ok (.ireturn, 1) := by decide +kernel
theorem own_pn_java_lang_StringUTF16 : plainName "java/lang/StringUTF16" = true := by first | (simp [plainName, overriddenIn]; done) | decide +kernel
set_option maxRecDepth 65536 in
set_option maxHeartbeats 40000000 in
theorem own_cmp5_loop (l : Launch) (Z : State) (b d : Addr) (cb cd : ClassId) (cs : List Nat) (hcs : ∀ c ∈ cs, c < 65536) (hn : cs.length ≤ 65536) (hbd : b ≠ d) (h0 : Heap) (n0 : Nat) {p : Program} {e : Env} {s : State} {m : MethodId} {args : Array Value} {below : List Frame} {meth : Method} {c : Code} :
    ∀ (j i : Nat) (T : State) (h : Heap) (kk nn : Nat) (o6 : Slot) (bs : List Value), i + j = cs.length → One o6 → Wk p l e ({ frames := 0, cells := 0, slots := 0, locals := 0 } : Room) s m args below meth c Z "java/lang/StringUTF16" jdk_52_method_21_code 7 (some .int) "compress" n0 h0 [d] T h 0 0 → Ary Z h b cb .char (chs cs) → Ary Z h d cd .byte bs → bs.length = cs.length → bs.take i = lat (cs.take i) → (∀ c ∈ cs.take i, c < 256) →
      Goes p e below (PN s n0 h0 [d] (fun v h => ∃ j bs, v = some (.int (Int32.ofNat j)) ∧ j ≤ cs.length ∧ (∀ c ∈ cs.take j, c < 256) ∧ (∀ c, cs[j]? = some c → 256 ≤ c) ∧ Ary Z h d cd .byte bs ∧ bs.length = cs.length ∧ bs.take j = lat (cs.take j)) 0 0) T (mkF m 3 #[.val (.ref b), .val (.int (Int32.ofNat i)), .val (.ref d), .val (.int (Int32.ofNat i)), .val (.int (Int32.ofNat cs.length)), .val (.int (Int32.ofNat i)), o6] []) := by
  intro j
  induction j with
  | zero =>
    intro i T h kk nn o6 bs hij ho6 w Ab Ad hbl ht hs
    refine i_iload w own_d7_3 rfl (pc' := 5) rfl ?_
    refine i_iload w own_d7_5 rfl (pc' := 7) rfl ?_
    refine i_icmp_ge_Y w (by rw [show i = cs.length by omega]; exact Int32.lt_irrefl) own_d7_7 (pc' := 44) (by decide) ?_
    refine i_iload w own_d7_44 rfl (pc' := 46) rfl ?_
    exact i_retI w own_d7_46 rfl ⟨cs.length, bs, rfl, Nat.le_refl _, by rw [show cs.length = i by omega]; exact hs, fun c hc => by simp at hc, Ad, hbl, by rw [show cs.length = i by omega]; exact ht⟩ (by decide) (by decide)
  | succ j ih =>
    intro i T h kk nn o6 bs hij ho6 w Ab Ad hbl ht hs
    obtain ⟨ci, hci⟩ : ∃ ci, cs[i]? = some ci := ⟨_, List.getElem?_eq_getElem (by omega)⟩
    have hcb : ci < 65536 := hcs ci (List.mem_of_getElem? hci)
    refine i_iload w own_d7_3 rfl (pc' := 5) rfl ?_
    refine i_iload w own_d7_5 rfl (pc' := 7) rfl ?_
    refine i_icmp_ge_N w ((lt_nat (by omega) (by omega)).mpr (by omega)) own_d7_7 (pc' := 10) rfl ?_
    refine i_aloadN w own_d7_10 rfl rfl (pc' := 11) rfl ?_
    refine i_iloadN w own_d7_11 rfl (pc' := 12) rfl ?_
    refine i_caload w own_d7_12 Ab rfl (chs_at hci) (pc' := 13) rfl ?_
    refine i_istore w own_d7_13 (l' := #[.val (.ref b), .val (.int (Int32.ofNat i)), .val (.ref d), .val (.int (Int32.ofNat i)), .val (.int (Int32.ofNat cs.length)), .val (.int (Int32.ofNat i)), .val (.int (Int32.ofNat ci))]) (XS.store1 rfl ho6 rfl) (pc' := 15) rfl ?_
    refine i_iload w own_d7_15 rfl (pc' := 17) rfl ?_
    refine i_sipush w own_d7_17 (z := (255 : Int32)) (by decide) (pc' := 20) rfl ?_
    refine i_icmp_le w own_d7_20 (pcY := 26) (by decide) (pc' := 23) rfl (fun hc20 => ?_) (fun hc20 => ?_)
    ·
      refine i_aloadN w own_d7_26 rfl rfl (pc' := 27) rfl ?_
      refine i_iloadN w own_d7_27 rfl (pc' := 28) rfl ?_
      refine i_iload w own_d7_28 rfl (pc' := 30) rfl ?_
      refine i_i2b w own_d7_30 (pc' := 31) rfl ?_
      refine i_bastore w own_d7_31 Ad (i := i) rfl (by omega) (Or.inl (List.mem_singleton.mpr rfl)) (pc' := 32) rfl ?_
      intro T1 h1 w1 K1 A1
      show Goes p e below _ T1 (mkF m 32 #[.val (.ref b), .val (.int (Int32.ofNat i)), .val (.ref d), .val (.int (Int32.ofNat i)), .val (.int (Int32.ofNat cs.length)), .val (.int (Int32.ofNat i)), .val (.int (Int32.ofNat ci))] [])
      refine i_iinc w1 own_d7_32 rfl (z := (Int32.ofNat (i + 1))) (inc_nat i) (l' := #[.val (.ref b), .val (.int (Int32.ofNat (i + 1))), .val (.ref d), .val (.int (Int32.ofNat i)), .val (.int (Int32.ofNat cs.length)), .val (.int (Int32.ofNat i)), .val (.int (Int32.ofNat ci))]) rfl (pc' := 35) rfl ?_
      refine i_iinc w1 own_d7_35 rfl (z := (Int32.ofNat (i + 1))) (inc_nat i) (l' := #[.val (.ref b), .val (.int (Int32.ofNat (i + 1))), .val (.ref d), .val (.int (Int32.ofNat (i + 1))), .val (.int (Int32.ofNat cs.length)), .val (.int (Int32.ofNat i)), .val (.int (Int32.ofNat ci))]) rfl (pc' := 38) rfl ?_
      refine i_iinc w1 own_d7_38 rfl (z := (Int32.ofNat (i + 1))) (inc_nat i) (l' := #[.val (.ref b), .val (.int (Int32.ofNat (i + 1))), .val (.ref d), .val (.int (Int32.ofNat (i + 1))), .val (.int (Int32.ofNat cs.length)), .val (.int (Int32.ofNat (i + 1))), .val (.int (Int32.ofNat ci))]) rfl (pc' := 41) rfl ?_
      refine i_goto w1 own_d7_41 (pc' := 3) (by decide) ?_
      exact ih (i + 1) T1 h1 kk nn (.val (.int (Int32.ofNat ci))) _ (by omega) (One.val rfl) w1 (Ab.keep K1 (ninS hbd nin0)) A1 (by simpa using hbl) (lat_step hbl hci ht) (all_step hci hs ((le255 hcb).mp hc20))
    ·
      refine i_iload w own_d7_23 rfl (pc' := 25) rfl ?_
      exact i_retI w own_d7_25 rfl ⟨i, bs, rfl, by omega, hs, fun c hc => by rw [hci] at hc; cases hc; exact (gt255 hcb).mp hc20, Ad, hbl, ht⟩ (by decide) (by decide)
theorem own_pd_pACIABIIqI : parseMethodDescriptor "([CI[BII)I" = some ⟨[(.array .char), .int, (.array .byte), .int, .int], some .int⟩ := by decide +kernel
theorem own_ef_own_d7 (m : MethodId) (x0 : Addr) (x1 : Int32) (x2 : Addr) (x3 : Int32) (x4 : Int32) : entryFrame m #[(.ref x0), (.int x1), (.ref x2), (.int x3), (.int x4)] 7 = mkF m 0 #[.val (.ref x0), .val (.int x1), .val (.ref x2), .val (.int x3), .val (.int x4), .unset, .unset] [] := by
  first | (simp [entryFrame, mkF, argsToLocals, Value.category]; done) | rfl
set_option maxRecDepth 65536 in
set_option maxHeartbeats 40000000 in
theorem own_cmp5 (l : Launch) (Z : State) (a0 : Array Value) (hw : ∀ d ∈ tables_1, d.before a0 Z = true) (b d : Addr) (cb cd : ClassId) (cs : List Nat) (bs0 : List Value) (h0 : Heap) (n0 : Nat) (O : Old Z n0 h0) (hcs : ∀ c ∈ cs, c < 65536) (hn : cs.length ≤ 65536) (hbd : b ≠ d) (hd : n0 ≤ d) (Ab : Ary Z h0 b cb .char (chs cs)) (Ad : Ary Z h0 d cd .byte bs0) (hbl : bs0.length = cs.length) :
    Ctr l Z n0 (⟨"java/lang/StringUTF16", "compress", "([CI[BII)I"⟩ : MethodName) jdk_52_method_21_code 7 (some .int) [] ({ frames := 0, cells := 0, slots := 0, locals := 0 } : Room) #[(.ref b), (.int (0 : Int32)), (.ref d), (.int (0 : Int32)), (.int (Int32.ofNat cs.length))] h0 [d] (fun v h => ∃ j bs, v = some (.int (Int32.ofNat j)) ∧ j ≤ cs.length ∧ (∀ c ∈ cs.take j, c < 256) ∧ (∀ c, cs[j]? = some c → 256 ≤ c) ∧ Ary Z h d cd .byte bs ∧ bs.length = cs.length ∧ bs.take j = lat (cs.take j)) := by
  refine enter (plainFor_of_name own_pn_java_lang_StringUTF16) (fun m => own_ef_own_d7 m b (0 : Int32) d (0 : Int32) (Int32.ofNat cs.length)) O (allS hd all0) ?_
  intro p e s m below meth c T w
  refine i_iconst w own_d7_0 (z := (0 : Int32)) (by decide) (pc' := 1) rfl ?_
  refine i_istore w own_d7_1 (l' := #[.val (.ref b), .val (.int (0 : Int32)), .val (.ref d), .val (.int (0 : Int32)), .val (.int (Int32.ofNat cs.length)), .val (.int (0 : Int32)), .unset]) rfl (pc' := 3) rfl ?_
  exact own_cmp5_loop l Z b d cb cd cs hcs hn hbd h0 n0 cs.length 0 T h0 0 0 .unset _ (by omega) One.u w Ab Ad hbl rfl (fun c hc => nomatch hc)
theorem own_d6_0 : decode jdk_52_method_16_code 0 = .ok (.iload_n 2, 1) := by decide +kernel
theorem own_d6_1 : decode jdk_52_method_16_code 1 = .ok (.newarray .byte, 2) := by decide +kernel
theorem own_d6_3 : decode jdk_52_method_16_code 3 = .ok (.astore_n 3, 1) := by decide +kernel
theorem own_d6_4 : decode jdk_52_method_16_code 4 = .ok (.aload_n 0, 1) := by decide +kernel
theorem own_d6_5 : decode jdk_52_method_16_code 5 = .ok (.iload_n 1, 1) := by decide +kernel
theorem own_d6_6 : decode jdk_52_method_16_code 6 = .ok (.aload_n 3, 1) := by decide +kernel
theorem own_d6_7 : decode jdk_52_method_16_code 7 = .ok (.iconst 0, 1) := by decide +kernel
theorem own_d6_8 : decode jdk_52_method_16_code 8 = .ok (.iload_n 2, 1) := by decide +kernel
theorem own_d6_9 : decode jdk_52_method_16_code 9 = .ok (.invokestatic 115, 3) := by decide +kernel
theorem own_d6_12 : decode jdk_52_method_16_code 12 = .ok (.istore 4, 2) := by decide +kernel
theorem own_d6_14 : decode jdk_52_method_16_code 14 = .ok (.iload 4, 2) := by decide +kernel
theorem own_d6_16 : decode jdk_52_method_16_code 16 = .ok (.iload_n 2, 1) := by decide +kernel
theorem own_d6_17 : decode jdk_52_method_16_code 17 = .ok (.if_icmp .eq 40, 3) := by decide +kernel
theorem own_d6_20 : decode jdk_52_method_16_code 20 = .ok (.aload_n 0, 1) := by decide +kernel
theorem own_d6_21 : decode jdk_52_method_16_code 21 = .ok (.iload_n 1, 1) := by decide +kernel
theorem own_d6_22 : decode jdk_52_method_16_code 22 = .ok (.iload_n 2, 1) := by decide +kernel
theorem own_d6_23 : decode jdk_52_method_16_code 23 = .ok (.invokestatic 119, 3) := by decide +kernel
theorem own_d6_26 : decode jdk_52_method_16_code 26 = .ok (.astore 5, 2) := by decide +kernel
theorem own_d6_28 : decode jdk_52_method_16_code 28 = .ok (.aload 5, 2) := by decide +kernel
theorem own_d6_30 : decode jdk_52_method_16_code 30 = .ok (.iload 4, 2) := by decide +kernel
theorem own_d6_32 : decode jdk_52_method_16_code 32 = .ok (.invokestatic 71, 3) := by decide +kernel
theorem own_d6_35 : decode jdk_52_method_16_code 35 = .ok (.sipush 255, 3) := by decide +kernel
theorem own_d6_38 : decode jdk_52_method_16_code 38 = .ok (.if_icmp .gt 16, 3) := by decide +kernel
theorem own_d6_41 : decode jdk_52_method_16_code 41 = .ok (.aload 5, 2) := by decide +kernel
theorem own_d6_43 : decode jdk_52_method_16_code 43 = .ok (.iconst 0, 1) := by decide +kernel
theorem own_d6_44 : decode jdk_52_method_16_code 44 = .ok (.aload_n 3, 1) := by decide +kernel
theorem own_d6_45 : decode jdk_52_method_16_code 45 = .ok (.iconst 0, 1) := by decide +kernel
theorem own_d6_46 : decode jdk_52_method_16_code 46 = .ok (.iload_n 2, 1) := by decide +kernel
theorem own_d6_47 : decode jdk_52_method_16_code 47 = .ok (.invokestatic 123, 3) := by decide +kernel
theorem own_d6_50 : decode jdk_52_method_16_code 50 = .ok (.iload_n 2, 1) := by decide +kernel
theorem own_d6_51 : decode jdk_52_method_16_code 51 = .ok (.if_icmp .eq 6, 3) := by decide +kernel
theorem own_d6_54 : decode jdk_52_method_16_code 54 = .ok (.aload 5, 2) := by decide +kernel
theorem own_d6_56 : decode jdk_52_method_16_code 56 = .ok (.areturn, 1) := by decide +kernel
theorem own_d6_57 : decode jdk_52_method_16_code 57 = .ok (.aload_n 3, 1) := by decide +kernel
theorem own_d6_58 : decode jdk_52_method_16_code 58 = .ok (.areturn, 1) := by decide +kernel
theorem own_pd_pACIIqAB : parseMethodDescriptor "([CII)[B" = some ⟨[(.array .char), .int, .int], some (.array .byte)⟩ := by decide +kernel
theorem own_ef_own_d6 (m : MethodId) (x0 : Addr) (x1 : Int32) (x2 : Int32) : entryFrame m #[(.ref x0), (.int x1), (.int x2)] 6 = mkF m 0 #[.val (.ref x0), .val (.int x1), .val (.int x2), .unset, .unset, .unset] [] := by
  first | (simp [entryFrame, mkF, argsToLocals, Value.category]; done) | rfl
set_option maxRecDepth 65536 in
set_option maxHeartbeats 40000000 in
theorem own_cmp3 (l : Launch) (Z : State) (a0 : Array Value) (hw : ∀ d ∈ tables_1, d.before a0 Z = true) (b : Addr) (cb : ClassId) (cs : List Nat) (h0 : Heap) (n0 : Nat) (O : Old Z n0 h0) (hL : ∀ c ∈ cs, c < 256) (hn : cs.length ≤ 16) (Ab : Ary Z h0 b cb .char (chs cs)) :
    Ctr l Z n0 (⟨"java/lang/StringUTF16", "compress", "([CII)[B"⟩ : MethodName) jdk_52_method_16_code 6 (some (.array .byte)) [] ({ frames := 1, cells := 1, slots := 16, locals := 18 } : Room) #[(.ref b), (.int (0 : Int32)), (.int (Int32.ofNat cs.length))] h0 [] (fun v h => ∃ t ca, v = some (.ref t) ∧ h0.size ≤ t ∧ Ary Z h t ca .byte (lat cs)) := by
  refine enter (plainFor_of_name own_pn_java_lang_StringUTF16) (fun m => own_ef_own_d6 m b (0 : Int32) (Int32.ofNat cs.length)) O (fun _ q => nomatch q) ?_
  intro p e s m below meth c T w
  have hcs : ∀ c ∈ cs, c < 65536 := fun c hc => by have := hL c hc; omega
  refine i_iloadN w own_d6_0 rfl (pc' := 1) rfl ?_
  refine i_newP w own_d6_1 (hw _ (List.mem_of_getElem? (i := 26) rfl)) (N := cs.length) rfl (by omega) (cap := 16) hn (by decide) (by decide) (by decide) (pc' := 3) rfl ?_
  intro d T2 h2 ca_d g_d w2 z_d E2 A_d
  show Goes p e below _ T2 (mkF m 3 #[.val (.ref b), .val (.int (0 : Int32)), .val (.int (Int32.ofNat cs.length)), .unset, .unset, .unset] [(.ref d)])
  have Ab1 := Ab.ext E2
  have lbd : b < d := g_d ▸ Ab.lt
  refine i_astoreN w2 own_d6_3 rfl (l' := #[.val (.ref b), .val (.int (0 : Int32)), .val (.int (Int32.ofNat cs.length)), .val (.ref d), .unset, .unset]) rfl (pc' := 4) rfl ?_
  refine i_aloadN w2 own_d6_4 rfl rfl (pc' := 5) rfl ?_
  refine i_iloadN w2 own_d6_5 rfl (pc' := 6) rfl ?_
  refine i_aloadN w2 own_d6_6 rfl rfl (pc' := 7) rfl ?_
  refine i_iconst w2 own_d6_7 (z := (0 : Int32)) (by decide) (pc' := 8) rfl ?_
  refine i_iloadN w2 own_d6_8 rfl (pc' := 9) rfl ?_
  refine c_static w2 (y := (⟨"java/lang/StringUTF16", "compress", "([CI[BII)I"⟩ : MethodName)) (argsL := [(.ref b), (.int (0 : Int32)), (.ref d), (.int (0 : Int32)), (.int (Int32.ofNat cs.length))]) (st := []) own_d6_9 (hw _ (List.mem_of_getElem? (i := 27) rfl)) (hw _ (List.mem_of_getElem? (i := 28) rfl)) (hw _ (List.mem_of_getElem? (i := 24) rfl)) (hw _ (List.mem_of_getElem? (i := 29) rfl)) (by decide) own_pd_pACIABIIqI rfl (own_cmp5 l Z a0 hw b d cb ca_d cs _ h2 n0 w2.old hcs (by omega) (Nat.ne_of_lt lbd) (Nat.le_trans w2.n0h0 z_d) Ab1 A_d (by simp)) rfl (by decide) (W := 0) (Nat.le_of_eq rfl) (by decide) (by decide) (by decide) (allS (Or.inr z_d) all0) (pc' := 12) rfl ?_
  intro v4 T4 h4 w4 K4 q4
  obtain ⟨j, bs, rfl, hj, ht, hs, Ad, hbl, hbt⟩ := q4
  show Goes p e below _ T4 (mkF m 12 #[.val (.ref b), .val (.int (0 : Int32)), .val (.int (Int32.ofNat cs.length)), .val (.ref d), .unset, .unset] [(.int (Int32.ofNat j))])
  have hjn : j = cs.length := by
    rcases Nat.lt_or_ge j cs.length with q | q
    · have := hs _ (List.getElem?_eq_getElem q); have := hL _ (List.getElem_mem q); omega
    · omega
  subst hjn
  rw [List.take_length, ← hbl, List.take_length] at hbt
  subst hbt
  refine i_istore w4 own_d6_12 (l' := #[.val (.ref b), .val (.int (0 : Int32)), .val (.int (Int32.ofNat cs.length)), .val (.ref d), .val (.int (Int32.ofNat cs.length)), .unset]) rfl (pc' := 14) rfl ?_
  refine i_iload w4 own_d6_14 rfl (pc' := 16) rfl ?_
  refine i_iloadN w4 own_d6_16 rfl (pc' := 17) rfl ?_
  refine i_icmp_eq_Y w4 rfl own_d6_17 (pc' := 57) (by decide) ?_
  refine i_aloadN w4 own_d6_57 rfl rfl (pc' := 58) rfl ?_
  exact i_retA w4 own_d6_58 rfl rfl rfl ⟨d, ca_d, rfl, z_d, Ad⟩ (by decide) (by decide)
theorem own_d8_0 : decode jdk_52_method_15_code 0 = .ok (.iload_n 1, 1) := by decide +kernel
theorem own_d8_1 : decode jdk_52_method_15_code 1 = .ok (.aload_n 0, 1) := by decide +kernel
theorem own_d8_2 : decode jdk_52_method_15_code 2 = .ok (.arraylength, 1) := by decide +kernel
theorem own_d8_3 : decode jdk_52_method_15_code 3 = .ok (.isub, 1) := by decide +kernel
theorem own_d8_4 : decode jdk_52_method_15_code 4 = .ok (.bipush 31, 2) := by decide +kernel
theorem own_d8_6 : decode jdk_52_method_15_code 6 = .ok (.iushr, 1) := by decide +kernel
theorem own_d8_7 : decode jdk_52_method_15_code 7 = .ok (.i2b, 1) := by decide +kernel
theorem own_d8_8 : decode jdk_52_method_15_code 8 = .ok (.ireturn, 1) := by decide +kernel
theorem own_pd_pABIqB : parseMethodDescriptor "([BI)B" = some ⟨[(.array .byte), .int], some .byte⟩ := by decide +kernel
theorem own_ef_own_d8 (m : MethodId) (x0 : Addr) (x1 : Int32) : entryFrame m #[(.ref x0), (.int x1)] 2 = mkF m 0 #[.val (.ref x0), .val (.int x1)] [] := by
  first | (simp [entryFrame, mkF, argsToLocals, Value.category]; done) | rfl
set_option maxRecDepth 65536 in
set_option maxHeartbeats 40000000 in
theorem own_codLen (l : Launch) (Z : State) (a0 : Array Value) (hw : ∀ d ∈ tables_1, d.before a0 Z = true) (t : Addr) (ca : ClassId) (vs : List Value) (x : Int32) (h0 : Heap) (n0 : Nat) (O : Old Z n0 h0) (At : Ary Z h0 t ca .byte vs) :
    Ctr l Z n0 (⟨"java/lang/StringUTF16", "coderFromArrayLen", "([BI)B"⟩ : MethodName) jdk_52_method_15_code 2 (some .byte) [] ({ frames := 0, cells := 0, slots := 0, locals := 0 } : Room) #[(.ref t), (.int x)] h0 [] (fun v h => v = some (.int ((XT.ushr (x - Int32.ofNat vs.length) 31).toInt8.toInt32)) ∧ h0 = h) := by
  refine enter (plainFor_of_name own_pn_java_lang_StringUTF16) (fun m => own_ef_own_d8 m t x) O (fun _ q => nomatch q) ?_
  intro p e s m below meth c T w
  refine i_iloadN w own_d8_0 rfl (pc' := 1) rfl ?_
  refine i_aloadN w own_d8_1 rfl rfl (pc' := 2) rfl ?_
  refine i_len w own_d8_2 At rfl (pc' := 3) rfl ?_
  refine i_isub w own_d8_3 (pc' := 4) rfl ?_
  refine i_bipush w own_d8_4 (z := (31 : Int32)) (by decide) (pc' := 6) rfl ?_
  refine i_iushr w own_d8_6 (pc' := 7) rfl ?_
  refine i_i2b w own_d8_7 (pc' := 8) rfl ?_
  exact i_retN w own_d8_8 rfl (by simp) ⟨by rw [byte_idem], rfl⟩ (by decide) (by decide)
theorem own_d4_0 : decode jdk_42_method_149_code 0 = .ok (.aload_n 0, 1) := by decide +kernel
theorem own_d4_1 : decode jdk_42_method_149_code 1 = .ok (.invokespecial 1, 3) := by decide +kernel
theorem own_d4_4 : decode jdk_42_method_149_code 4 = .ok (.iload_n 3, 1) := by decide +kernel
theorem own_d4_5 : decode jdk_42_method_149_code 5 = .ok (.ifCond .ne 22, 3) := by decide +kernel
theorem own_d4_8 : decode jdk_42_method_149_code 8 = .ok (.aload_n 0, 1) := by decide +kernel
theorem own_d4_9 : decode jdk_42_method_149_code 9 = .ok (.ldc 7, 2) := by decide +kernel
theorem own_d4_11 : decode jdk_42_method_149_code 11 = .ok (.getfield 9, 3) := by decide +kernel
theorem own_d4_14 : decode jdk_42_method_149_code 14 = .ok (.putfield 9, 3) := by decide +kernel
theorem own_d4_17 : decode jdk_42_method_149_code 17 = .ok (.aload_n 0, 1) := by decide +kernel
theorem own_d4_18 : decode jdk_42_method_149_code 18 = .ok (.ldc 7, 2) := by decide +kernel
theorem own_d4_20 : decode jdk_42_method_149_code 20 = .ok (.getfield 15, 3) := by decide +kernel
theorem own_d4_23 : decode jdk_42_method_149_code 23 = .ok (.putfield 15, 3) := by decide +kernel
theorem own_d4_26 : decode jdk_42_method_149_code 26 = .ok (.return_, 1) := by decide +kernel
theorem own_d4_27 : decode jdk_42_method_149_code 27 = .ok (.getstatic 38, 3) := by decide +kernel
theorem own_d4_30 : decode jdk_42_method_149_code 30 = .ok (.ifCond .eq 28, 3) := by decide +kernel
theorem own_d4_33 : decode jdk_42_method_149_code 33 = .ok (.aload_n 1, 1) := by decide +kernel
theorem own_d4_34 : decode jdk_42_method_149_code 34 = .ok (.iload_n 2, 1) := by decide +kernel
theorem own_d4_35 : decode jdk_42_method_149_code 35 = .ok (.iload_n 3, 1) := by decide +kernel
theorem own_d4_36 : decode jdk_42_method_149_code 36 = .ok (.invokestatic 177, 3) := by decide +kernel
theorem own_d4_39 : decode jdk_42_method_149_code 39 = .ok (.astore 5, 2) := by decide +kernel
theorem own_d4_41 : decode jdk_42_method_149_code 41 = .ok (.aload_n 0, 1) := by decide +kernel
theorem own_d4_42 : decode jdk_42_method_149_code 42 = .ok (.aload 5, 2) := by decide +kernel
theorem own_d4_44 : decode jdk_42_method_149_code 44 = .ok (.iload_n 3, 1) := by decide +kernel
theorem own_d4_45 : decode jdk_42_method_149_code 45 = .ok (.invokestatic 47, 3) := by decide +kernel
theorem own_d4_48 : decode jdk_42_method_149_code 48 = .ok (.putfield 15, 3) := by decide +kernel
theorem own_d4_51 : decode jdk_42_method_149_code 51 = .ok (.aload_n 0, 1) := by decide +kernel
theorem own_d4_52 : decode jdk_42_method_149_code 52 = .ok (.aload 5, 2) := by decide +kernel
theorem own_d4_54 : decode jdk_42_method_149_code 54 = .ok (.putfield 9, 3) := by decide +kernel
theorem own_d4_57 : decode jdk_42_method_149_code 57 = .ok (.return_, 1) := by decide +kernel
theorem own_d4_58 : decode jdk_42_method_149_code 58 = .ok (.aload_n 0, 1) := by decide +kernel
theorem own_d4_59 : decode jdk_42_method_149_code 59 = .ok (.iconst 1, 1) := by decide +kernel
theorem own_d4_60 : decode jdk_42_method_149_code 60 = .ok (.putfield 15, 3) := by decide +kernel
theorem own_d4_63 : decode jdk_42_method_149_code 63 = .ok (.aload_n 0, 1) := by decide +kernel
theorem own_d4_64 : decode jdk_42_method_149_code 64 = .ok (.aload_n 1, 1) := by decide +kernel
theorem own_d4_65 : decode jdk_42_method_149_code 65 = .ok (.iload_n 2, 1) := by decide +kernel
theorem own_d4_66 : decode jdk_42_method_149_code 66 = .ok (.iload_n 3, 1) := by decide +kernel
theorem own_d4_67 : decode jdk_42_method_149_code 67 = .ok (.invokestatic 180, 3) := by decide +kernel
theorem own_d4_70 : decode jdk_42_method_149_code 70 = .ok (.putfield 9, 3) := by decide +kernel
theorem own_d4_73 : decode jdk_42_method_149_code 73 = .ok (.return_, 1) := by decide +kernel
theorem own_pn_java_lang_String : plainName "java/lang/String" = true := by first | (simp [plainName, overriddenIn]; done) | decide +kernel
theorem own_pd_pACIILjava_lang_VoideqV : parseMethodDescriptor "([CIILjava/lang/Void;)V" = some ⟨[(.array .char), .int, .int, (.object "java/lang/Void")], none⟩ := by decide +kernel
theorem own_ef_own_d4n4 (m : MethodId) (x0 : Addr) (x1 : Addr) (x2 : Int32) (x3 : Int32) : entryFrame m #[(.ref x0), (.ref x1), (.int x2), (.int x3), .null] 6 = mkF m 0 #[.val (.ref x0), .val (.ref x1), .val (.int x2), .val (.int x3), .val .null, .unset] [] := by
  first | (simp [entryFrame, mkF, argsToLocals, Value.category]; done) | rfl
set_option maxRecDepth 65536 in
set_option maxHeartbeats 40000000 in
theorem own_new4 (l : Launch) (Z : State) (a0 : Array Value) (hw : ∀ d ∈ tables_1, d.before a0 Z = true) (a b : Addr) (cb : ClassId) (cs : List Nat) {v0 c0 : Value} (G1 : Int32) (hG : ¬ G1 = 0) (SG : Sta Z Z.heap "java/lang/String" "COMPACT_STRINGS" "Z" (.int G1)) (h0 : Heap) (n0 : Nat) (O : Old Z n0 h0) (ha : n0 ≤ a) (hL : ∀ c ∈ cs, c < 256) (h1 : 0 < cs.length) (hn : cs.length ≤ 16) (Ea : Exa Z h0 a ST) (Fv : Fld Z h0 a ST "value" "[B" v0) (Fc : Fld Z h0 a ST "coder" "B" c0) (Ab : Ary Z h0 b cb .char (chs cs)) :
    Ctr l Z n0 (⟨"java/lang/String", "<init>", "([CIILjava/lang/Void;)V"⟩ : MethodName) jdk_42_method_149_code 6 none [] ({ frames := 2, cells := 1, slots := 16, locals := 35 } : Room) #[(.ref a), (.ref b), (.int (0 : Int32)), (.int (Int32.ofNat cs.length)), .null] h0 [a] (fun v h => v = none ∧ ∃ t ca, h0.size ≤ t ∧ StrL Z h a t ca cs) := by
  refine enter (plainFor_of_name own_pn_java_lang_String) (fun m => own_ef_own_d4n4 m a b (0 : Int32) (Int32.ofNat cs.length)) O (allS ha all0) ?_
  intro p e s m below meth c T w
  refine i_aloadN w own_d4_0 rfl rfl (pc' := 1) rfl ?_
  refine i_initO w own_d4_1 (hw _ (List.mem_of_getElem? (i := 18) rfl)) (hw _ (List.mem_of_getElem? (i := 19) rfl)) (hw _ (List.mem_of_getElem? (i := 20) rfl)) rfl (by decide) (W := 0) (Nat.le_of_eq rfl) (by decide) (pc' := 4) rfl ?_
  intro T6 w6
  show Goes p e below _ T6 (mkF m 4 #[.val (.ref a), .val (.ref b), .val (.int (0 : Int32)), .val (.int (Int32.ofNat cs.length)), .val .null, .unset] [])
  refine i_iloadN w6 own_d4_4 rfl (pc' := 5) rfl ?_
  refine i_if_ne_Y w6 (ofNat_ne0 h1 (by omega)) own_d4_5 (pc' := 27) (by decide) ?_
  refine i_getS w6 own_d4_27 (hw _ (List.mem_of_getElem? (i := 21) rfl)) SG (pc' := 30) rfl ?_
  intro T7 w7
  refine i_if_eq_N w7 hG own_d4_30 (pc' := 33) rfl ?_
  refine i_aloadN w7 own_d4_33 rfl rfl (pc' := 34) rfl ?_
  refine i_iloadN w7 own_d4_34 rfl (pc' := 35) rfl ?_
  refine i_iloadN w7 own_d4_35 rfl (pc' := 36) rfl ?_
  refine c_static w7 (y := (⟨"java/lang/StringUTF16", "compress", "([CII)[B"⟩ : MethodName)) (argsL := [(.ref b), (.int (0 : Int32)), (.int (Int32.ofNat cs.length))]) (st := []) own_d4_36 (hw _ (List.mem_of_getElem? (i := 22) rfl)) (hw _ (List.mem_of_getElem? (i := 23) rfl)) (hw _ (List.mem_of_getElem? (i := 24) rfl)) (hw _ (List.mem_of_getElem? (i := 25) rfl)) (by decide) own_pd_pACIIqAB rfl (own_cmp3 l Z a0 hw b cb cs h0 n0 w7.old hL hn Ab) rfl (by decide) (W := 0) (Nat.le_of_eq rfl) (by decide) (by decide) (by decide) (fun _ q => nomatch q) (pc' := 39) rfl ?_
  intro v8 T8 h8 w8 K8 q8
  obtain ⟨t, ca, rfl, zt, At⟩ := q8
  show Goes p e below _ T8 (mkF m 39 #[.val (.ref a), .val (.ref b), .val (.int (0 : Int32)), .val (.int (Int32.ofNat cs.length)), .val .null, .unset] [(.ref t)])
  have Fv1 := Fv.keep K8 nin0
  have Fc1 := Fc.keep K8 nin0
  have Ea1 := Ea.keep K8
  have lat1 : a < t := Nat.lt_of_lt_of_le Ea.lt zt
  refine i_astore w8 own_d4_39 rfl (l' := #[.val (.ref a), .val (.ref b), .val (.int (0 : Int32)), .val (.int (Int32.ofNat cs.length)), .val .null, .val (.ref t)]) rfl (pc' := 41) rfl ?_
  refine i_aloadN w8 own_d4_41 rfl rfl (pc' := 42) rfl ?_
  refine i_aload w8 own_d4_42 rfl rfl (pc' := 44) rfl ?_
  refine i_iloadN w8 own_d4_44 rfl (pc' := 45) rfl ?_
  refine c_static w8 (y := (⟨"java/lang/StringUTF16", "coderFromArrayLen", "([BI)B"⟩ : MethodName)) (argsL := [(.ref t), (.int (Int32.ofNat cs.length))]) (st := [(.ref a)]) own_d4_45 (hw _ (List.mem_of_getElem? (i := 30) rfl)) (hw _ (List.mem_of_getElem? (i := 31) rfl)) (hw _ (List.mem_of_getElem? (i := 24) rfl)) (hw _ (List.mem_of_getElem? (i := 32) rfl)) (by decide) own_pd_pABIqB rfl (own_codLen l Z a0 hw t ca (lat cs) (Int32.ofNat cs.length) h8 n0 w8.old At) rfl (by decide) (W := 1) (Nat.le_of_eq rfl) (by decide) (by decide) (by decide) (fun _ q => nomatch q) (pc' := 48) rfl ?_
  intro v10 T10 h10 w10 K10 q10
  obtain ⟨rfl, rfl⟩ := q10
  show Goes p e below _ T10 (mkF m 48 #[.val (.ref a), .val (.ref b), .val (.int (0 : Int32)), .val (.int (Int32.ofNat cs.length)), .val .null, .val (.ref t)] [(.int (XT.ushr (Int32.ofNat cs.length - Int32.ofNat (lat cs).length) 31).toInt8.toInt32), (.ref a)])
  rw [lat_len, cod0]
  show Goes p e below _ T10 (mkF m 48 #[.val (.ref a), .val (.ref b), .val (.int (0 : Int32)), .val (.int (Int32.ofNat cs.length)), .val .null, .val (.ref t)] [(.int (0 : Int32)), (.ref a)])
  refine i_putF w10 own_d4_48 (hw _ (List.mem_of_getElem? (i := 33) rfl)) Fc1 Ea1 (Or.inr ⟨(hw _ (List.mem_of_getElem? (i := 34) rfl)), rfl, rfl⟩) (hw _ (List.mem_of_getElem? (i := 8) rfl)) (ty := .byte) (by decide) rfl rfl (Or.inl (List.mem_singleton.mpr rfl)) (pc' := 51) rfl ?_
  intro T11 h11 w11 W11
  show Goes p e below _ T11 (mkF m 51 #[.val (.ref a), .val (.ref b), .val (.int (0 : Int32)), .val (.int (Int32.ofNat cs.length)), .val .null, .val (.ref t)] [])
  have Fc2 := Fld.same W11 Fc1
  have Fv2 := Fv1.other W11 (Or.inr (slot_ne (Or.inr (hw _ (List.mem_of_getElem? (i := 36) rfl))) (Or.inr (hw _ (List.mem_of_getElem? (i := 34) rfl))) (by decide) (t := (.array .byte)) (t' := .byte) (by decide) (by decide)))
  have Ea2 := Ea1.wr W11
  have At2 := At.other W11 (Nat.ne_of_gt lat1)
  refine i_aloadN w11 own_d4_51 rfl rfl (pc' := 52) rfl ?_
  refine i_aload w11 own_d4_52 rfl rfl (pc' := 54) rfl ?_
  refine i_putF w11 own_d4_54 (hw _ (List.mem_of_getElem? (i := 35) rfl)) Fv2 Ea2 (Or.inr ⟨(hw _ (List.mem_of_getElem? (i := 36) rfl)), rfl, rfl⟩) (hw _ (List.mem_of_getElem? (i := 8) rfl)) (ty := (.array .byte)) (by decide) rfl rfl (Or.inl (List.mem_singleton.mpr rfl)) (pc' := 57) rfl ?_
  intro T12 h12 w12 W12
  show Goes p e below _ T12 (mkF m 57 #[.val (.ref a), .val (.ref b), .val (.int (0 : Int32)), .val (.int (Int32.ofNat cs.length)), .val .null, .val (.ref t)] [])
  have Fv3 := Fld.same W12 Fv2
  have Fc3 := Fc2.other W12 (Or.inr (slot_ne (Or.inr (hw _ (List.mem_of_getElem? (i := 34) rfl))) (Or.inr (hw _ (List.mem_of_getElem? (i := 36) rfl))) (by decide) (t := .byte) (t' := (.array .byte)) (by decide) (by decide)))
  have Ea3 := Ea2.wr W12
  have At3 := At2.other W12 (Nat.ne_of_gt lat1)
  exact i_ret0 w12 own_d4_57 rfl ⟨rfl, t, ca, zt, Ea3, Fv3, Fc3, At3, hL⟩ (by decide) (by decide)
theorem own_d3_0 : decode jdk_42_method_3_code 0 = .ok (.aload_n 0, 1) := by decide +kernel
theorem own_d3_1 : decode jdk_42_method_3_code 1 = .ok (.aload_n 1, 1) := by decide +kernel
theorem own_d3_2 : decode jdk_42_method_3_code 2 = .ok (.iconst 0, 1) := by decide +kernel
theorem own_d3_3 : decode jdk_42_method_3_code 3 = .ok (.aload_n 1, 1) := by decide +kernel
theorem own_d3_4 : decode jdk_42_method_3_code 4 = .ok (.arraylength, 1) := by decide +kernel
theorem own_d3_5 : decode jdk_42_method_3_code 5 = .ok (.aconst_null, 1) := by decide +kernel
theorem own_d3_6 : decode jdk_42_method_3_code 6 = .ok (.invokespecial 27, 3) := by decide +kernel
theorem own_d3_9 : decode jdk_42_method_3_code 9 = .ok (.return_, 1) := by decide +kernel
theorem own_pd_pACqV : parseMethodDescriptor "([C)V" = some ⟨[(.array .char)], none⟩ := by decide +kernel
theorem own_ef_own_d3 (m : MethodId) (x0 : Addr) (x1 : Addr) : entryFrame m #[(.ref x0), (.ref x1)] 2 = mkF m 0 #[.val (.ref x0), .val (.ref x1)] [] := by
  first | (simp [entryFrame, mkF, argsToLocals, Value.category]; done) | rfl
set_option maxRecDepth 65536 in
set_option maxHeartbeats 40000000 in
theorem own_new1 (l : Launch) (Z : State) (a0 : Array Value) (hw : ∀ d ∈ tables_1, d.before a0 Z = true) (a b : Addr) (cb : ClassId) (cs : List Nat) {v0 c0 : Value} (G1 : Int32) (hG : ¬ G1 = 0) (SG : Sta Z Z.heap "java/lang/String" "COMPACT_STRINGS" "Z" (.int G1)) (h0 : Heap) (n0 : Nat) (O : Old Z n0 h0) (ha : n0 ≤ a) (hL : ∀ c ∈ cs, c < 256) (h1 : 0 < cs.length) (hn : cs.length ≤ 16) (Ea : Exa Z h0 a ST) (Fv : Fld Z h0 a ST "value" "[B" v0) (Fc : Fld Z h0 a ST "coder" "B" c0) (Ab : Ary Z h0 b cb .char (chs cs)) :
    Ctr l Z n0 (⟨"java/lang/String", "<init>", "([C)V"⟩ : MethodName) jdk_42_method_3_code 2 none [] ({ frames := 3, cells := 1, slots := 16, locals := 52 } : Room) #[(.ref a), (.ref b)] h0 [a] (fun v h => v = none ∧ ∃ t ca, h0.size ≤ t ∧ StrL Z h a t ca cs) := by
  refine enter (plainFor_of_name own_pn_java_lang_String) (fun m => own_ef_own_d3 m a b) O (allS ha all0) ?_
  intro p e s m below meth c T w
  refine i_aloadN w own_d3_0 rfl rfl (pc' := 1) rfl ?_
  refine i_aloadN w own_d3_1 rfl rfl (pc' := 2) rfl ?_
  refine i_iconst w own_d3_2 (z := (0 : Int32)) (by decide) (pc' := 3) rfl ?_
  refine i_aloadN w own_d3_3 rfl rfl (pc' := 4) rfl ?_
  refine i_len w own_d3_4 Ab (z := Int32.ofNat cs.length) (by rw [chs_len]) (pc' := 5) rfl ?_
  refine i_aconstNull w own_d3_5 (pc' := 6) rfl ?_
  refine c_special w (y := (⟨"java/lang/String", "<init>", "([CIILjava/lang/Void;)V"⟩ : MethodName)) (a := a) (argsL := [(.ref b), (.int (0 : Int32)), (.int (Int32.ofNat cs.length)), .null]) (st := []) own_d3_6 rfl (hw _ (List.mem_of_getElem? (i := 14) rfl)) (hw _ (List.mem_of_getElem? (i := 15) rfl)) (hw _ (List.mem_of_getElem? (i := 9) rfl)) (hw _ (List.mem_of_getElem? (i := 17) rfl)) (by decide) own_pd_pACIILjava_lang_VoideqV rfl (own_new4 l Z a0 hw a b cb cs G1 hG SG h0 n0 w.old ha hL h1 hn Ea Fv Fc Ab) rfl (by decide) (W := 0) (Nat.le_of_eq rfl) (by decide) (by decide) (by decide) (allS (Or.inl (List.mem_singleton.mpr rfl)) all0) (pc' := 9) rfl ?_
  intro v13 T13 h13 w13 K13 q13
  obtain ⟨rfl, t, ca, zt, St⟩ := q13
  show Goes p e below _ T13 (mkF m 9 #[.val (.ref a), .val (.ref b)] [])
  exact i_ret0 w13 own_d3_9 rfl ⟨rfl, t, ca, zt, St⟩ (by decide) (by decide)
theorem own_d19_0 : decode jdk_42_method_152_code 0 = .ok (.getstatic 38, 3) := by decide +kernel
theorem own_d19_3 : decode jdk_42_method_152_code 3 = .ok (.ifCond .eq 10, 3) := by decide +kernel
theorem own_d19_6 : decode jdk_42_method_152_code 6 = .ok (.aload_n 0, 1) := by decide +kernel
theorem own_d19_7 : decode jdk_42_method_152_code 7 = .ok (.getfield 15, 3) := by decide +kernel
theorem own_d19_10 : decode jdk_42_method_152_code 10 = .ok (.goto 4, 3) := by decide +kernel
theorem own_d19_13 : decode jdk_42_method_152_code 13 = .ok (.iconst 1, 1) := by decide +kernel
theorem own_d19_14 : decode jdk_42_method_152_code 14 = .ok (.ireturn, 1) := by decide +kernel
theorem own_pd_pqB : parseMethodDescriptor "()B" = some ⟨[], some .byte⟩ := by decide +kernel
theorem own_ef_own_d19 (m : MethodId) (x0 : Addr) : entryFrame m #[(.ref x0)] 1 = mkF m 0 #[.val (.ref x0)] [] := by
  first | (simp [entryFrame, mkF, argsToLocals, Value.category]; done) | rfl
set_option maxRecDepth 65536 in
set_option maxHeartbeats 40000000 in
theorem own_coder (l : Launch) (Z : State) (a0 : Array Value) (hw : ∀ d ∈ tables_1, d.before a0 Z = true) (a : Addr) (cd : Int32) (G1 : Int32) (hG : ¬ G1 = 0) (SG : Sta Z Z.heap "java/lang/String" "COMPACT_STRINGS" "Z" (.int G1)) (h0 : Heap) (n0 : Nat) (O : Old Z n0 h0) (Fc : Fld Z h0 a ST "coder" "B" (.int cd)) (hcd : cd = 0 ∨ cd = 1) :
    Ctr l Z n0 (⟨"java/lang/String", "coder", "()B"⟩ : MethodName) jdk_42_method_152_code 1 (some .byte) [] ({ frames := 0, cells := 0, slots := 0, locals := 0 } : Room) #[(.ref a)] h0 [] (fun v h => v = some (.int cd) ∧ h0 = h) := by
  refine enter (plainFor_of_name own_pn_java_lang_String) (fun m => own_ef_own_d19 m a) O (fun _ q => nomatch q) ?_
  intro p e s m below meth c T w
  refine i_getS w own_d19_0 (hw _ (List.mem_of_getElem? (i := 21) rfl)) SG (pc' := 3) rfl ?_
  intro T15 w15
  refine i_if_eq_N w15 hG own_d19_3 (pc' := 6) rfl ?_
  refine i_aloadN w15 own_d19_6 rfl rfl (pc' := 7) rfl ?_
  refine i_getF w15 own_d19_7 (hw _ (List.mem_of_getElem? (i := 33) rfl)) Fc (pc' := 10) rfl ?_
  intro T16 w16
  refine i_goto w16 own_d19_10 (pc' := 14) (by decide) ?_
  exact i_retN w16 own_d19_14 rfl (by simp) ⟨by rcases hcd with rfl | rfl <;> rfl, rfl⟩ (by decide) (by decide)
theorem own_d18_0 : decode jdk_42_method_54_code 0 = .ok (.aload_n 0, 1) := by decide +kernel
theorem own_d18_1 : decode jdk_42_method_54_code 1 = .ok (.getfield 9, 3) := by decide +kernel
theorem own_d18_4 : decode jdk_42_method_54_code 4 = .ok (.arraylength, 1) := by decide +kernel
theorem own_d18_5 : decode jdk_42_method_54_code 5 = .ok (.aload_n 0, 1) := by decide +kernel
theorem own_d18_6 : decode jdk_42_method_54_code 6 = .ok (.invokevirtual 335, 3) := by decide +kernel
theorem own_d18_9 : decode jdk_42_method_54_code 9 = .ok (.ishr, 1) := by decide +kernel
theorem own_d18_10 : decode jdk_42_method_54_code 10 = .ok (.ireturn, 1) := by decide +kernel
theorem own_pd_pqI : parseMethodDescriptor "()I" = some ⟨[], some .int⟩ := by decide +kernel
theorem own_ef_own_d18 (m : MethodId) (x0 : Addr) : entryFrame m #[(.ref x0)] 1 = mkF m 0 #[.val (.ref x0)] [] := by
  first | (simp [entryFrame, mkF, argsToLocals, Value.category]; done) | rfl
set_option maxRecDepth 65536 in
set_option maxHeartbeats 40000000 in
theorem own_length (l : Launch) (Z : State) (a0 : Array Value) (hw : ∀ d ∈ tables_1, d.before a0 Z = true) (a t : Addr) (ca : ClassId) (cs : List Nat) (G1 : Int32) (hG : ¬ G1 = 0) (SG : Sta Z Z.heap "java/lang/String" "COMPACT_STRINGS" "Z" (.int G1)) (h0 : Heap) (n0 : Nat) (O : Old Z n0 h0) (S : Str Z h0 a t ca cs) :
    Ctr l Z n0 (⟨"java/lang/String", "length", "()I"⟩ : MethodName) jdk_42_method_54_code 1 (some .int) [] ({ frames := 1, cells := 0, slots := 0, locals := 13 } : Room) #[(.ref a)] h0 [] (fun v h => v = some (.int (Int32.ofNat cs.length)) ∧ h0 = h) := by
  refine enter (plainFor_of_name own_pn_java_lang_String) (fun m => own_ef_own_d18 m a) O (fun _ q => nomatch q) ?_
  intro p e s m below meth c T w
  refine i_aloadN w own_d18_0 rfl rfl (pc' := 1) rfl ?_
  obtain ⟨vs, cd, Fc, At, hcd, hln, -, -⟩ := S.raw
  refine i_getF w own_d18_1 (hw _ (List.mem_of_getElem? (i := 35) rfl)) S.val (pc' := 4) rfl ?_
  intro T17 w17
  refine i_len w17 own_d18_4 At rfl (pc' := 5) rfl ?_
  refine i_aloadN w17 own_d18_5 rfl rfl (pc' := 6) rfl ?_
  refine c_virtual w17 (y := (⟨"java/lang/String", "coder", "()B"⟩ : MethodName)) (C := "java/lang/String") (a := a) (argsL := []) (st := [(.int (Int32.ofNat vs.length))]) own_d18_6 (hw _ (List.mem_of_getElem? (i := 82) rfl)) (hw _ (List.mem_of_getElem? (i := 83) rfl)) (hw _ (List.mem_of_getElem? (i := 85) rfl)) (hw _ (List.mem_of_getElem? (i := 84) rfl)) (hw _ (List.mem_of_getElem? (i := 86) rfl)) (hw _ (List.mem_of_getElem? (i := 9) rfl)) (by decide) own_pd_pqB rfl S.exa (own_coder l Z a0 hw a cd G1 hG SG h0 n0 w17.old Fc hcd) rfl (by decide) (W := 1) (Nat.le_of_eq rfl) (by decide) (by decide) (by decide) (fun _ q => nomatch q) (pc' := 9) rfl ?_
  intro v18 T18 h18 w18 K18 q18
  obtain ⟨rfl, rfl⟩ := q18
  show Goes p e below _ T18 (mkF m 9 #[.val (.ref a)] [(.int cd), (.int (Int32.ofNat vs.length))])
  refine i_ishr w18 own_d18_9 (pc' := 10) rfl ?_
  exact i_retI w18 own_d18_10 rfl ⟨by rw [hln], rfl⟩ (by decide) (by decide)
theorem own_d14_0 : decode jdk_42_method_55_code 0 = .ok (.aload_n 0, 1) := by decide +kernel
theorem own_d14_1 : decode jdk_42_method_55_code 1 = .ok (.getfield 9, 3) := by decide +kernel
theorem own_d14_4 : decode jdk_42_method_55_code 4 = .ok (.arraylength, 1) := by decide +kernel
theorem own_d14_5 : decode jdk_42_method_55_code 5 = .ok (.ifCond .ne 7, 3) := by decide +kernel
theorem own_d14_8 : decode jdk_42_method_55_code 8 = .ok (.iconst 1, 1) := by decide +kernel
theorem own_d14_9 : decode jdk_42_method_55_code 9 = .ok (.goto 4, 3) := by decide +kernel
theorem own_d14_12 : decode jdk_42_method_55_code 12 = .ok (.iconst 0, 1) := by decide +kernel
theorem own_d14_13 : decode jdk_42_method_55_code 13 = .ok (.ireturn, 1) := by decide +kernel
theorem own_pd_pqZ : parseMethodDescriptor "()Z" = some ⟨[], some .boolean⟩ := by decide +kernel
theorem own_ef_own_d14 (m : MethodId) (x0 : Addr) : entryFrame m #[(.ref x0)] 1 = mkF m 0 #[.val (.ref x0)] [] := by
  first | (simp [entryFrame, mkF, argsToLocals, Value.category]; done) | rfl
set_option maxRecDepth 65536 in
set_option maxHeartbeats 40000000 in
theorem own_isEmpty (l : Launch) (Z : State) (a0 : Array Value) (hw : ∀ d ∈ tables_1, d.before a0 Z = true) (a t : Addr) (ca : ClassId) (cs : List Nat) (h0 : Heap) (n0 : Nat) (O : Old Z n0 h0) (S : Str Z h0 a t ca cs) :
    Ctr l Z n0 (⟨"java/lang/String", "isEmpty", "()Z"⟩ : MethodName) jdk_42_method_55_code 1 (some .boolean) [] ({ frames := 0, cells := 0, slots := 0, locals := 0 } : Room) #[(.ref a)] h0 [] (fun v h => v = some (.int (if cs.length = 0 then 1 else 0)) ∧ h0 = h) := by
  refine enter (plainFor_of_name own_pn_java_lang_String) (fun m => own_ef_own_d14 m a) O (fun _ q => nomatch q) ?_
  intro p e s m below meth c T w
  refine i_aloadN w own_d14_0 rfl rfl (pc' := 1) rfl ?_
  obtain ⟨vs, cd, Fc, At, hcd, -, hln, -⟩ := S.raw
  refine i_getF w own_d14_1 (hw _ (List.mem_of_getElem? (i := 35) rfl)) S.val (pc' := 4) rfl ?_
  intro T19 w19
  refine i_len w19 own_d14_4 At rfl (pc' := 5) rfl ?_
  refine i_if_ne w19 own_d14_5 (pcY := 12) (by decide) (pc' := 8) rfl (fun hc5 => ?_) (fun hc5 => ?_)
  ·
    refine i_iconst w19 own_d14_12 (z := (0 : Int32)) (by decide) (pc' := 13) rfl ?_
    exact i_retN w19 own_d14_13 rfl (by simp) ⟨by rw [if_neg (fun q => hc5 (by rw [hln.mpr q]; rfl))]; rfl, rfl⟩ (by decide) (by decide)
  ·
    refine i_iconst w19 own_d14_8 (z := (1 : Int32)) (by decide) (pc' := 9) rfl ?_
    refine i_goto w19 own_d14_9 (pc' := 13) (by decide) ?_
    exact i_retN w19 own_d14_13 rfl (by simp) ⟨by rw [if_pos (hln.mp ((eq_nat At.1 (by omega)).mp (hc5.trans (show (0 : Int32) = Int32.ofNat 0 from rfl))))]; rfl, rfl⟩ (by decide) (by decide)
theorem own_d17_0 : decode jdk_42_method_154_code 0 = .ok (.getstatic 38, 3) := by decide +kernel
theorem own_d17_3 : decode jdk_42_method_154_code 3 = .ok (.ifCond .eq 14, 3) := by decide +kernel
theorem own_d17_6 : decode jdk_42_method_154_code 6 = .ok (.aload_n 0, 1) := by decide +kernel
theorem own_d17_7 : decode jdk_42_method_154_code 7 = .ok (.getfield 15, 3) := by decide +kernel
theorem own_d17_10 : decode jdk_42_method_154_code 10 = .ok (.ifCond .ne 7, 3) := by decide +kernel
theorem own_d17_13 : decode jdk_42_method_154_code 13 = .ok (.iconst 1, 1) := by decide +kernel
theorem own_d17_14 : decode jdk_42_method_154_code 14 = .ok (.goto 4, 3) := by decide +kernel
theorem own_d17_17 : decode jdk_42_method_154_code 17 = .ok (.iconst 0, 1) := by decide +kernel
theorem own_d17_18 : decode jdk_42_method_154_code 18 = .ok (.ireturn, 1) := by decide +kernel
theorem own_ef_own_d17 (m : MethodId) (x0 : Addr) : entryFrame m #[(.ref x0)] 1 = mkF m 0 #[.val (.ref x0)] [] := by
  first | (simp [entryFrame, mkF, argsToLocals, Value.category]; done) | rfl
set_option maxRecDepth 65536 in
set_option maxHeartbeats 40000000 in
theorem own_isLatin1 (l : Launch) (Z : State) (a0 : Array Value) (hw : ∀ d ∈ tables_1, d.before a0 Z = true) (a : Addr) (cd : Int32) (G1 : Int32) (hG : ¬ G1 = 0) (SG : Sta Z Z.heap "java/lang/String" "COMPACT_STRINGS" "Z" (.int G1)) (h0 : Heap) (n0 : Nat) (O : Old Z n0 h0) (Fc : Fld Z h0 a ST "coder" "B" (.int cd)) :
    Ctr l Z n0 (⟨"java/lang/String", "isLatin1", "()Z"⟩ : MethodName) jdk_42_method_154_code 1 (some .boolean) [] ({ frames := 0, cells := 0, slots := 0, locals := 0 } : Room) #[(.ref a)] h0 [] (fun v h => v = some (.int (if cd = 0 then 1 else 0)) ∧ h0 = h) := by
  refine enter (plainFor_of_name own_pn_java_lang_String) (fun m => own_ef_own_d17 m a) O (fun _ q => nomatch q) ?_
  intro p e s m below meth c T w
  refine i_getS w own_d17_0 (hw _ (List.mem_of_getElem? (i := 21) rfl)) SG (pc' := 3) rfl ?_
  intro T20 w20
  refine i_if_eq_N w20 hG own_d17_3 (pc' := 6) rfl ?_
  refine i_aloadN w20 own_d17_6 rfl rfl (pc' := 7) rfl ?_
  refine i_getF w20 own_d17_7 (hw _ (List.mem_of_getElem? (i := 33) rfl)) Fc (pc' := 10) rfl ?_
  intro T21 w21
  refine i_if_ne w21 own_d17_10 (pcY := 17) (by decide) (pc' := 13) rfl (fun hc10 => ?_) (fun hc10 => ?_)
  ·
    refine i_iconst w21 own_d17_17 (z := (0 : Int32)) (by decide) (pc' := 18) rfl ?_
    exact i_retN w21 own_d17_18 rfl (by simp) ⟨by rw [if_neg hc10]; rfl, rfl⟩ (by decide) (by decide)
  ·
    refine i_iconst w21 own_d17_13 (z := (1 : Int32)) (by decide) (pc' := 14) rfl ?_
    refine i_goto w21 own_d17_14 (pc' := 18) (by decide) ?_
    exact i_retN w21 own_d17_18 rfl (by simp) ⟨by rw [if_pos hc10]; rfl, rfl⟩ (by decide) (by decide)
theorem own_d28_0 : decode jdk_41_method_11_code 0 = .ok (.iload_n 0, 1) := by decide +kernel
theorem own_d28_1 : decode jdk_41_method_11_code 1 = .ok (.ifCond .lt 8, 3) := by decide +kernel
theorem own_d28_4 : decode jdk_41_method_11_code 4 = .ok (.iload_n 0, 1) := by decide +kernel
theorem own_d28_5 : decode jdk_41_method_11_code 5 = .ok (.iload_n 1, 1) := by decide +kernel
theorem own_d28_6 : decode jdk_41_method_11_code 6 = .ok (.if_icmp .lt 10, 3) := by decide +kernel
theorem own_d28_9 : decode jdk_41_method_11_code 9 = .ok (.aload_n 2, 1) := by decide +kernel
theorem own_d28_10 : decode jdk_41_method_11_code 10 = .ok (.iload_n 0, 1) := by decide +kernel
theorem own_d28_11 : decode jdk_41_method_11_code 11 = .ok (.iload_n 1, 1) := by decide +kernel
theorem own_d28_12 : decode jdk_41_method_11_code 12 = .ok (.invokestatic 95, 3) := by decide +kernel
theorem own_d28_15 : decode jdk_41_method_11_code 15 = .ok (.athrow, 1) := by decide +kernel
theorem own_d28_16 : decode jdk_41_method_11_code 16 = .ok (.iload_n 0, 1) := by decide +kernel
theorem own_d28_17 : decode jdk_41_method_11_code 17 = .ok (.ireturn, 1) := by decide +kernel
theorem own_pn_jdk_internal_util_Preconditions : plainName "jdk/internal/util/Preconditions" = true := by first | (simp [plainName, overriddenIn]; done) | decide +kernel
theorem own_pd_pIILjava_util_function_BiFunctioneqI : parseMethodDescriptor "(IILjava/util/function/BiFunction;)I" = some ⟨[.int, .int, (.object "java/util/function/BiFunction")], some .int⟩ := by decide +kernel
theorem own_ef_own_d28v2 (m : MethodId) (x0 : Int32) (x1 : Int32) (x2 : Value) (hx2 : x2.isRef = true) : entryFrame m #[(.int x0), (.int x1), x2] 3 = mkF m 0 #[.val (.int x0), .val (.int x1), .val x2] [] := by
  rcases ref_cases hx2 with rfl | ⟨_, rfl⟩ <;> first | (simp [entryFrame, mkF, argsToLocals, Value.category]; done) | rfl
set_option maxRecDepth 65536 in
set_option maxHeartbeats 40000000 in
theorem own_pCheck (l : Launch) (Z : State) (a0 : Array Value) (hw : ∀ d ∈ tables_1, d.before a0 Z = true) (i n : Nat) (fm : Value) (h0 : Heap) (n0 : Nat) (O : Old Z n0 h0) (hi : i < n) (hn : n < 2147483648) (hfm : fm.isRef = true) :
    Ctr l Z n0 (⟨"jdk/internal/util/Preconditions", "checkIndex", "(IILjava/util/function/BiFunction;)I"⟩ : MethodName) jdk_41_method_11_code 3 (some .int) [] ({ frames := 0, cells := 0, slots := 0, locals := 0 } : Room) #[(.int (Int32.ofNat i)), (.int (Int32.ofNat n)), fm] h0 [] (fun v h => v = some (.int (Int32.ofNat i)) ∧ h0 = h) := by
  refine enter (plainFor_of_name own_pn_jdk_internal_util_Preconditions) (fun m => own_ef_own_d28v2 m (Int32.ofNat i) (Int32.ofNat n) fm hfm) O (fun _ q => nomatch q) ?_
  intro p e s m below meth c T w
  refine i_iloadN w own_d28_0 rfl (pc' := 1) rfl ?_
  refine i_if_lt_N w (nonneg_ofNat (by omega)) own_d28_1 (pc' := 4) rfl ?_
  refine i_iloadN w own_d28_4 rfl (pc' := 5) rfl ?_
  refine i_iloadN w own_d28_5 rfl (pc' := 6) rfl ?_
  refine i_icmp_lt_Y w ((lt_nat (by omega) (by omega)).mpr hi) own_d28_6 (pc' := 16) (by decide) ?_
  refine i_iloadN w own_d28_16 rfl (pc' := 17) rfl ?_
  exact i_retI w own_d28_17 rfl ⟨rfl, rfl⟩ (by decide) (by decide)
theorem own_d27_0 : decode jdk_42_method_155_code 0 = .ok (.iload_n 0, 1) := by decide +kernel
theorem own_d27_1 : decode jdk_42_method_155_code 1 = .ok (.iload_n 1, 1) := by decide +kernel
theorem own_d27_2 : decode jdk_42_method_155_code 2 = .ok (.getstatic 1053, 3) := by decide +kernel
theorem own_d27_5 : decode jdk_42_method_155_code 5 = .ok (.invokestatic 1059, 3) := by decide +kernel
theorem own_d27_8 : decode jdk_42_method_155_code 8 = .ok (.pop, 1) := by decide +kernel
theorem own_d27_9 : decode jdk_42_method_155_code 9 = .ok (.return_, 1) := by decide +kernel
theorem own_pd_pIIqV : parseMethodDescriptor "(II)V" = some ⟨[.int, .int], none⟩ := by decide +kernel
theorem own_ef_own_d27 (m : MethodId) (x0 : Int32) (x1 : Int32) : entryFrame m #[(.int x0), (.int x1)] 2 = mkF m 0 #[.val (.int x0), .val (.int x1)] [] := by
  first | (simp [entryFrame, mkF, argsToLocals, Value.category]; done) | rfl
set_option maxRecDepth 65536 in
set_option maxHeartbeats 40000000 in
theorem own_sCheck (l : Launch) (Z : State) (a0 : Array Value) (hw : ∀ d ∈ tables_1, d.before a0 Z = true) (i n : Nat) (G3 : Value) (hG3 : G3.isRef = true) (SF : Sta Z Z.heap "jdk/internal/util/Preconditions" "SIOOBE_FORMATTER" "Ljava/util/function/BiFunction;" G3) (h0 : Heap) (n0 : Nat) (O : Old Z n0 h0) (hi : i < n) (hn : n < 2147483648) :
    Ctr l Z n0 (⟨"java/lang/String", "checkIndex", "(II)V"⟩ : MethodName) jdk_42_method_155_code 2 none [] ({ frames := 1, cells := 0, slots := 0, locals := 14 } : Room) #[(.int (Int32.ofNat i)), (.int (Int32.ofNat n))] h0 [] (fun v h => v = none ∧ h0 = h) := by
  refine enter (plainFor_of_name own_pn_java_lang_String) (fun m => own_ef_own_d27 m (Int32.ofNat i) (Int32.ofNat n)) O (fun _ q => nomatch q) ?_
  intro p e s m below meth c T w
  refine i_iloadN w own_d27_0 rfl (pc' := 1) rfl ?_
  refine i_iloadN w own_d27_1 rfl (pc' := 2) rfl ?_
  refine i_getS w own_d27_2 (hw _ (List.mem_of_getElem? (i := 117) rfl)) SF (pc' := 5) rfl ?_
  intro T22 w22
  refine c_static w22 (y := (⟨"jdk/internal/util/Preconditions", "checkIndex", "(IILjava/util/function/BiFunction;)I"⟩ : MethodName)) (argsL := [(.int (Int32.ofNat i)), (.int (Int32.ofNat n)), G3]) (st := []) own_d27_5 (hw _ (List.mem_of_getElem? (i := 119) rfl)) (hw _ (List.mem_of_getElem? (i := 120) rfl)) (hw _ (List.mem_of_getElem? (i := 118) rfl)) (hw _ (List.mem_of_getElem? (i := 121) rfl)) (by decide) own_pd_pIILjava_util_function_BiFunctioneqI rfl (own_pCheck l Z a0 hw i n G3 h0 n0 w22.old hi hn hG3) rfl (by decide) (W := 0) (Nat.le_of_eq rfl) (by decide) (by decide) (by decide) (fun _ q => nomatch q) (pc' := 8) rfl ?_
  intro v23 T23 h23 w23 K23 q23
  obtain ⟨rfl, rfl⟩ := q23
  show Goes p e below _ T23 (mkF m 8 #[.val (.int (Int32.ofNat i)), .val (.int (Int32.ofNat n))] [(.int (Int32.ofNat i))])
  refine i_pop w23 own_d27_8 rfl (pc' := 9) rfl ?_
  exact i_ret0 w23 own_d27_9 rfl ⟨rfl, rfl⟩ (by decide) (by decide)
theorem own_d26_0 : decode jdk_43_method_2_code 0 = .ok (.iload_n 1, 1) := by decide +kernel
theorem own_d26_1 : decode jdk_43_method_2_code 1 = .ok (.aload_n 0, 1) := by decide +kernel
theorem own_d26_2 : decode jdk_43_method_2_code 2 = .ok (.arraylength, 1) := by decide +kernel
theorem own_d26_3 : decode jdk_43_method_2_code 3 = .ok (.invokestatic 9, 3) := by decide +kernel
theorem own_d26_6 : decode jdk_43_method_2_code 6 = .ok (.aload_n 0, 1) := by decide +kernel
theorem own_d26_7 : decode jdk_43_method_2_code 7 = .ok (.iload_n 1, 1) := by decide +kernel
theorem own_d26_8 : decode jdk_43_method_2_code 8 = .ok (.baload, 1) := by decide +kernel
theorem own_d26_9 : decode jdk_43_method_2_code 9 = .ok (.sipush 255, 3) := by decide +kernel
theorem own_d26_12 : decode jdk_43_method_2_code 12 = .ok (.iand, 1) := by decide +kernel
theorem own_d26_13 : decode jdk_43_method_2_code 13 = .ok (.i2c, 1) := by decide +kernel
theorem own_d26_14 : decode jdk_43_method_2_code 14 = .ok (.ireturn, 1) := by decide +kernel
theorem own_pn_java_lang_StringLatin1 : plainName "java/lang/StringLatin1" = true := by first | (simp [plainName, overriddenIn]; done) | decide +kernel
theorem own_pd_pABIqC : parseMethodDescriptor "([BI)C" = some ⟨[(.array .byte), .int], some .char⟩ := by decide +kernel
theorem own_ef_own_d26 (m : MethodId) (x0 : Addr) (x1 : Int32) : entryFrame m #[(.ref x0), (.int x1)] 2 = mkF m 0 #[.val (.ref x0), .val (.int x1)] [] := by
  first | (simp [entryFrame, mkF, argsToLocals, Value.category]; done) | rfl
set_option maxRecDepth 65536 in
set_option maxHeartbeats 40000000 in
theorem own_lCharAt (l : Launch) (Z : State) (a0 : Array Value) (hw : ∀ d ∈ tables_1, d.before a0 Z = true) (t : Addr) (ca : ClassId) (cs : List Nat) (i k : Nat) (G3 : Value) (hG3 : G3.isRef = true) (SF : Sta Z Z.heap "jdk/internal/util/Preconditions" "SIOOBE_FORMATTER" "Ljava/util/function/BiFunction;" G3) (h0 : Heap) (n0 : Nat) (O : Old Z n0 h0) (At : Ary Z h0 t ca .byte (lat cs)) (hci : cs[i]? = some k) (hk : k < 256) :
    Ctr l Z n0 (⟨"java/lang/StringLatin1", "charAt", "([BI)C"⟩ : MethodName) jdk_43_method_2_code 2 (some .char) [] ({ frames := 2, cells := 0, slots := 0, locals := 27 } : Room) #[(.ref t), (.int (Int32.ofNat i))] h0 [] (fun v h => v = some (.int (Int32.ofNat k)) ∧ h0 = h) := by
  refine enter (plainFor_of_name own_pn_java_lang_StringLatin1) (fun m => own_ef_own_d26 m t (Int32.ofNat i)) O (fun _ q => nomatch q) ?_
  intro p e s m below meth c T w
  refine i_iloadN w own_d26_0 rfl (pc' := 1) rfl ?_
  refine i_aloadN w own_d26_1 rfl rfl (pc' := 2) rfl ?_
  refine i_len w own_d26_2 At (z := Int32.ofNat cs.length) (by rw [lat_len]) (pc' := 3) rfl ?_
  refine c_static w (y := (⟨"java/lang/String", "checkIndex", "(II)V"⟩ : MethodName)) (argsL := [(.int (Int32.ofNat i)), (.int (Int32.ofNat cs.length))]) (st := []) own_d26_3 (hw _ (List.mem_of_getElem? (i := 114) rfl)) (hw _ (List.mem_of_getElem? (i := 115) rfl)) (hw _ (List.mem_of_getElem? (i := 9) rfl)) (hw _ (List.mem_of_getElem? (i := 116) rfl)) (by decide) own_pd_pIIqV rfl (own_sCheck l Z a0 hw i cs.length G3 hG3 SF h0 n0 w.old (List.getElem?_eq_some_iff.mp hci).1 (by have := At.1; rw [lat_len] at this; exact this)) rfl (by decide) (W := 0) (Nat.le_of_eq rfl) (by decide) (by decide) (by decide) (fun _ q => nomatch q) (pc' := 6) rfl ?_
  intro v24 T24 h24 w24 K24 q24
  obtain ⟨rfl, rfl⟩ := q24
  show Goes p e below _ T24 (mkF m 6 #[.val (.ref t), .val (.int (Int32.ofNat i))] [])
  refine i_aloadN w24 own_d26_6 rfl rfl (pc' := 7) rfl ?_
  refine i_iloadN w24 own_d26_7 rfl (pc' := 8) rfl ?_
  refine i_baload w24 own_d26_8 At rfl (lat_at hci) (pc' := 9) rfl ?_
  refine i_sipush w24 own_d26_9 (z := (255 : Int32)) (by decide) (pc' := 12) rfl ?_
  refine i_iand w24 own_d26_12 (pc' := 13) rfl ?_
  refine i_i2c w24 own_d26_13 (pc' := 14) rfl ?_
  exact i_retN w24 own_d26_14 rfl (by simp) ⟨by rw [char_idem, bv_char hk], rfl⟩ (by decide) (by decide)
theorem own_d25_0 : decode jdk_42_method_56_code 0 = .ok (.aload_n 0, 1) := by decide +kernel
theorem own_d25_1 : decode jdk_42_method_56_code 1 = .ok (.invokevirtual 492, 3) := by decide +kernel
theorem own_d25_4 : decode jdk_42_method_56_code 4 = .ok (.ifCond .eq 12, 3) := by decide +kernel
theorem own_d25_7 : decode jdk_42_method_56_code 7 = .ok (.aload_n 0, 1) := by decide +kernel
theorem own_d25_8 : decode jdk_42_method_56_code 8 = .ok (.getfield 9, 3) := by decide +kernel
theorem own_d25_11 : decode jdk_42_method_56_code 11 = .ok (.iload_n 1, 1) := by decide +kernel
theorem own_d25_12 : decode jdk_42_method_56_code 12 = .ok (.invokestatic 495, 3) := by decide +kernel
theorem own_d25_15 : decode jdk_42_method_56_code 15 = .ok (.ireturn, 1) := by decide +kernel
theorem own_d25_16 : decode jdk_42_method_56_code 16 = .ok (.aload_n 0, 1) := by decide +kernel
theorem own_d25_17 : decode jdk_42_method_56_code 17 = .ok (.getfield 9, 3) := by decide +kernel
theorem own_d25_20 : decode jdk_42_method_56_code 20 = .ok (.iload_n 1, 1) := by decide +kernel
theorem own_d25_21 : decode jdk_42_method_56_code 21 = .ok (.invokestatic 498, 3) := by decide +kernel
theorem own_d25_24 : decode jdk_42_method_56_code 24 = .ok (.ireturn, 1) := by decide +kernel
theorem own_pd_pIqC : parseMethodDescriptor "(I)C" = some ⟨[.int], some .char⟩ := by decide +kernel
theorem own_ef_own_d25 (m : MethodId) (x0 : Addr) (x1 : Int32) : entryFrame m #[(.ref x0), (.int x1)] 2 = mkF m 0 #[.val (.ref x0), .val (.int x1)] [] := by
  first | (simp [entryFrame, mkF, argsToLocals, Value.category]; done) | rfl
set_option maxRecDepth 65536 in
set_option maxHeartbeats 40000000 in
theorem own_charAt (l : Launch) (Z : State) (a0 : Array Value) (hw : ∀ d ∈ tables_1, d.before a0 Z = true) (a t : Addr) (ca : ClassId) (cs : List Nat) (i k : Nat) (G1 : Int32) (hG : ¬ G1 = 0) (SG : Sta Z Z.heap "java/lang/String" "COMPACT_STRINGS" "Z" (.int G1)) (G3 : Value) (hG3 : G3.isRef = true) (SF : Sta Z Z.heap "jdk/internal/util/Preconditions" "SIOOBE_FORMATTER" "Ljava/util/function/BiFunction;" G3) (h0 : Heap) (n0 : Nat) (O : Old Z n0 h0) (S : StrL Z h0 a t ca cs) (hci : cs[i]? = some k) :
    Ctr l Z n0 (⟨"java/lang/String", "charAt", "(I)C"⟩ : MethodName) jdk_42_method_56_code 2 (some .char) [] ({ frames := 3, cells := 0, slots := 0, locals := 40 } : Room) #[(.ref a), (.int (Int32.ofNat i))] h0 [] (fun v h => v = some (.int (Int32.ofNat k)) ∧ h0 = h) := by
  refine enter (plainFor_of_name own_pn_java_lang_String) (fun m => own_ef_own_d25 m a (Int32.ofNat i)) O (fun _ q => nomatch q) ?_
  intro p e s m below meth c T w
  refine i_aloadN w own_d25_0 rfl rfl (pc' := 1) rfl ?_
  refine c_virtual w (y := (⟨"java/lang/String", "isLatin1", "()Z"⟩ : MethodName)) (C := "java/lang/String") (a := a) (argsL := []) (st := []) own_d25_1 (hw _ (List.mem_of_getElem? (i := 72) rfl)) (hw _ (List.mem_of_getElem? (i := 73) rfl)) (hw _ (List.mem_of_getElem? (i := 75) rfl)) (hw _ (List.mem_of_getElem? (i := 74) rfl)) (hw _ (List.mem_of_getElem? (i := 76) rfl)) (hw _ (List.mem_of_getElem? (i := 9) rfl)) (by decide) own_pd_pqZ rfl S.1 (own_isLatin1 l Z a0 hw a 0 G1 hG SG h0 n0 w.old S.2.2.1) rfl (by decide) (W := 0) (Nat.le_of_eq rfl) (by decide) (by decide) (by decide) (fun _ q => nomatch q) (pc' := 4) rfl ?_
  intro v25 T25 h25 w25 K25 q25
  obtain ⟨rfl, rfl⟩ := q25
  show Goes p e below _ T25 (mkF m 4 #[.val (.ref a), .val (.int (Int32.ofNat i))] [(.int (1 : Int32))])
  refine i_if_eq_N w25 (by decide) own_d25_4 (pc' := 7) rfl ?_
  refine i_aloadN w25 own_d25_7 rfl rfl (pc' := 8) rfl ?_
  refine i_getF w25 own_d25_8 (hw _ (List.mem_of_getElem? (i := 35) rfl)) S.2.1 (pc' := 11) rfl ?_
  intro T26 w26
  refine i_iloadN w26 own_d25_11 rfl (pc' := 12) rfl ?_
  refine c_static w26 (y := (⟨"java/lang/StringLatin1", "charAt", "([BI)C"⟩ : MethodName)) (argsL := [(.ref t), (.int (Int32.ofNat i))]) (st := []) own_d25_12 (hw _ (List.mem_of_getElem? (i := 111) rfl)) (hw _ (List.mem_of_getElem? (i := 112) rfl)) (hw _ (List.mem_of_getElem? (i := 89) rfl)) (hw _ (List.mem_of_getElem? (i := 113) rfl)) (by decide) own_pd_pABIqC rfl (own_lCharAt l Z a0 hw t ca cs i k G3 hG3 SF h0 n0 w26.old S.2.2.2.1 hci (S.2.2.2.2 k (List.mem_of_getElem? hci))) rfl (by decide) (W := 0) (Nat.le_of_eq rfl) (by decide) (by decide) (by decide) (fun _ q => nomatch q) (pc' := 15) rfl ?_
  intro v27 T27 h27 w27 K27 q27
  obtain ⟨rfl, rfl⟩ := q27
  show Goes p e below _ T27 (mkF m 15 #[.val (.ref a), .val (.int (Int32.ofNat i))] [(.int (Int32.ofNat k))])
  exact i_retN w27 own_d25_15 rfl (by simp) ⟨by rw [char_of_nat (Nat.lt_trans (S.2.2.2.2 k (List.mem_of_getElem? hci)) (by omega))], rfl⟩ (by decide) (by decide)
theorem own_d21_0 : decode jdk_43_method_4_code 0 = .ok (.iload_n 0, 1) := by decide +kernel
theorem own_d21_1 : decode jdk_43_method_4_code 1 = .ok (.ifCond .lt 14, 3) := by decide +kernel
theorem own_d21_4 : decode jdk_43_method_4_code 4 = .ok (.iload_n 0, 1) := by decide +kernel
theorem own_d21_5 : decode jdk_43_method_4_code 5 = .ok (.sipush 255, 3) := by decide +kernel
theorem own_d21_8 : decode jdk_43_method_4_code 8 = .ok (.if_icmp .gt 7, 3) := by decide +kernel
theorem own_d21_11 : decode jdk_43_method_4_code 11 = .ok (.iconst 1, 1) := by decide +kernel
theorem own_d21_12 : decode jdk_43_method_4_code 12 = .ok (.goto 4, 3) := by decide +kernel
theorem own_d21_15 : decode jdk_43_method_4_code 15 = .ok (.iconst 0, 1) := by decide +kernel
theorem own_d21_16 : decode jdk_43_method_4_code 16 = .ok (.ireturn, 1) := by decide +kernel
theorem own_pd_pIqZ : parseMethodDescriptor "(I)Z" = some ⟨[.int], some .boolean⟩ := by decide +kernel
theorem own_ef_own_d21 (m : MethodId) (x0 : Int32) : entryFrame m #[(.int x0)] 1 = mkF m 0 #[.val (.int x0)] [] := by
  first | (simp [entryFrame, mkF, argsToLocals, Value.category]; done) | rfl
set_option maxRecDepth 65536 in
set_option maxHeartbeats 40000000 in
theorem own_canEncI (l : Launch) (Z : State) (a0 : Array Value) (hw : ∀ d ∈ tables_1, d.before a0 Z = true) (k : Nat) (h0 : Heap) (n0 : Nat) (O : Old Z n0 h0) (hk : k < 256) :
    Ctr l Z n0 (⟨"java/lang/StringLatin1", "canEncode", "(I)Z"⟩ : MethodName) jdk_43_method_4_code 1 (some .boolean) [] ({ frames := 0, cells := 0, slots := 0, locals := 0 } : Room) #[(.int (Int32.ofNat k))] h0 [] (fun v h => v = some (.int 1) ∧ h0 = h) := by
  refine enter (plainFor_of_name own_pn_java_lang_StringLatin1) (fun m => own_ef_own_d21 m (Int32.ofNat k)) O (fun _ q => nomatch q) ?_
  intro p e s m below meth c T w
  refine i_iloadN w own_d21_0 rfl (pc' := 1) rfl ?_
  refine i_if_lt_N w (nonneg_ofNat (by omega)) own_d21_1 (pc' := 4) rfl ?_
  refine i_iloadN w own_d21_4 rfl (pc' := 5) rfl ?_
  refine i_sipush w own_d21_5 (z := (255 : Int32)) (by decide) (pc' := 8) rfl ?_
  refine i_icmp_gt_N w ((le255 (by omega)).mpr hk) own_d21_8 (pc' := 11) rfl ?_
  refine i_iconst w own_d21_11 (z := (1 : Int32)) (by decide) (pc' := 12) rfl ?_
  refine i_goto w own_d21_12 (pc' := 16) (by decide) ?_
  exact i_retN w own_d21_16 rfl (by simp) ⟨rfl, rfl⟩ (by decide) (by decide)
theorem own_d22_0 : decode jdk_29_method_65_code 0 = .ok (.iload_n 0, 1) := by decide +kernel
theorem own_d22_1 : decode jdk_29_method_65_code 1 = .ok (.iload_n 1, 1) := by decide +kernel
theorem own_d22_2 : decode jdk_29_method_65_code 2 = .ok (.if_icmp .lt 7, 3) := by decide +kernel
theorem own_d22_5 : decode jdk_29_method_65_code 5 = .ok (.iload_n 0, 1) := by decide +kernel
theorem own_d22_6 : decode jdk_29_method_65_code 6 = .ok (.goto 4, 3) := by decide +kernel
theorem own_d22_9 : decode jdk_29_method_65_code 9 = .ok (.iload_n 1, 1) := by decide +kernel
theorem own_d22_10 : decode jdk_29_method_65_code 10 = .ok (.ireturn, 1) := by decide +kernel
theorem own_pf_own_d22 : plainFor (⟨"java/lang/Math", "max", "(II)I"⟩ : MethodName) = true := by decide +kernel
theorem own_pd_pIIqI : parseMethodDescriptor "(II)I" = some ⟨[.int, .int], some .int⟩ := by decide +kernel
theorem own_ef_own_d22 (m : MethodId) (x0 : Int32) (x1 : Int32) : entryFrame m #[(.int x0), (.int x1)] 2 = mkF m 0 #[.val (.int x0), .val (.int x1)] [] := by
  first | (simp [entryFrame, mkF, argsToLocals, Value.category]; done) | rfl
set_option maxRecDepth 65536 in
set_option maxHeartbeats 40000000 in
theorem own_max (l : Launch) (Z : State) (a0 : Array Value) (hw : ∀ d ∈ tables_1, d.before a0 Z = true) (x y : Int32) (h0 : Heap) (n0 : Nat) (O : Old Z n0 h0)  :
    Ctr l Z n0 (⟨"java/lang/Math", "max", "(II)I"⟩ : MethodName) jdk_29_method_65_code 2 (some .int) [] ({ frames := 0, cells := 0, slots := 0, locals := 0 } : Room) #[(.int x), (.int y)] h0 [] (fun v h => v = some (.int (if x < y then y else x)) ∧ h0 = h) := by
  refine enter own_pf_own_d22 (fun m => own_ef_own_d22 m x y) O (fun _ q => nomatch q) ?_
  intro p e s m below meth c T w
  refine i_iloadN w own_d22_0 rfl (pc' := 1) rfl ?_
  refine i_iloadN w own_d22_1 rfl (pc' := 2) rfl ?_
  refine i_icmp_lt w own_d22_2 (pcY := 9) (by decide) (pc' := 5) rfl (fun hc2 => ?_) (fun hc2 => ?_)
  ·
    refine i_iloadN w own_d22_9 rfl (pc' := 10) rfl ?_
    exact i_retI w own_d22_10 rfl ⟨by rw [if_pos hc2], rfl⟩ (by decide) (by decide)
  ·
    refine i_iloadN w own_d22_5 rfl (pc' := 6) rfl ?_
    refine i_goto w own_d22_6 (pc' := 10) (by decide) ?_
    exact i_retI w own_d22_10 rfl ⟨by rw [if_neg hc2], rfl⟩ (by decide) (by decide)
theorem own_d23_0 : decode jdk_29_method_69_code 0 = .ok (.iload_n 0, 1) := by decide +kernel
theorem own_d23_1 : decode jdk_29_method_69_code 1 = .ok (.iload_n 1, 1) := by decide +kernel
theorem own_d23_2 : decode jdk_29_method_69_code 2 = .ok (.if_icmp .gt 7, 3) := by decide +kernel
theorem own_d23_5 : decode jdk_29_method_69_code 5 = .ok (.iload_n 0, 1) := by decide +kernel
theorem own_d23_6 : decode jdk_29_method_69_code 6 = .ok (.goto 4, 3) := by decide +kernel
theorem own_d23_9 : decode jdk_29_method_69_code 9 = .ok (.iload_n 1, 1) := by decide +kernel
theorem own_d23_10 : decode jdk_29_method_69_code 10 = .ok (.ireturn, 1) := by decide +kernel
theorem own_pf_own_d23 : plainFor (⟨"java/lang/Math", "min", "(II)I"⟩ : MethodName) = true := by decide +kernel
theorem own_ef_own_d23 (m : MethodId) (x0 : Int32) (x1 : Int32) : entryFrame m #[(.int x0), (.int x1)] 2 = mkF m 0 #[.val (.int x0), .val (.int x1)] [] := by
  first | (simp [entryFrame, mkF, argsToLocals, Value.category]; done) | rfl
set_option maxRecDepth 65536 in
set_option maxHeartbeats 40000000 in
theorem own_min (l : Launch) (Z : State) (a0 : Array Value) (hw : ∀ d ∈ tables_1, d.before a0 Z = true) (x y : Int32) (h0 : Heap) (n0 : Nat) (O : Old Z n0 h0)  :
    Ctr l Z n0 (⟨"java/lang/Math", "min", "(II)I"⟩ : MethodName) jdk_29_method_69_code 2 (some .int) [] ({ frames := 0, cells := 0, slots := 0, locals := 0 } : Room) #[(.int x), (.int y)] h0 [] (fun v h => v = some (.int (if y < x then y else x)) ∧ h0 = h) := by
  refine enter own_pf_own_d23 (fun m => own_ef_own_d23 m x y) O (fun _ q => nomatch q) ?_
  intro p e s m below meth c T w
  refine i_iloadN w own_d23_0 rfl (pc' := 1) rfl ?_
  refine i_iloadN w own_d23_1 rfl (pc' := 2) rfl ?_
  refine i_icmp_gt w own_d23_2 (pcY := 9) (by decide) (pc' := 5) rfl (fun hc2 => ?_) (fun hc2 => ?_)
  ·
    refine i_iloadN w own_d23_9 rfl (pc' := 10) rfl ?_
    exact i_retI w own_d23_10 rfl ⟨by rw [if_pos hc2], rfl⟩ (by decide) (by decide)
  ·
    refine i_iloadN w own_d23_5 rfl (pc' := 6) rfl ?_
    refine i_goto w own_d23_6 (pc' := 10) (by decide) ?_
    exact i_retI w own_d23_10 rfl ⟨by rw [if_neg hc2], rfl⟩ (by decide) (by decide)
theorem own_d24_0 : decode jdk_43_method_23_code 0 = .ok (.iload_n 1, 1) := by decide +kernel
theorem own_d24_1 : decode jdk_43_method_23_code 1 = .ok (.i2b, 1) := by decide +kernel
theorem own_d24_2 : decode jdk_43_method_23_code 2 = .ok (.istore 4, 2) := by decide +kernel
theorem own_d24_4 : decode jdk_43_method_23_code 4 = .ok (.iload_n 2, 1) := by decide +kernel
theorem own_d24_5 : decode jdk_43_method_23_code 5 = .ok (.istore 5, 2) := by decide +kernel
theorem own_d24_7 : decode jdk_43_method_23_code 7 = .ok (.iload 5, 2) := by decide +kernel
theorem own_d24_9 : decode jdk_43_method_23_code 9 = .ok (.iload_n 3, 1) := by decide +kernel
theorem own_d24_10 : decode jdk_43_method_23_code 10 = .ok (.if_icmp .ge 21, 3) := by decide +kernel
theorem own_d24_13 : decode jdk_43_method_23_code 13 = .ok (.aload_n 0, 1) := by decide +kernel
theorem own_d24_14 : decode jdk_43_method_23_code 14 = .ok (.iload 5, 2) := by decide +kernel
theorem own_d24_16 : decode jdk_43_method_23_code 16 = .ok (.baload, 1) := by decide +kernel
theorem own_d24_17 : decode jdk_43_method_23_code 17 = .ok (.iload 4, 2) := by decide +kernel
theorem own_d24_19 : decode jdk_43_method_23_code 19 = .ok (.if_icmp .ne 6, 3) := by decide +kernel
theorem own_d24_22 : decode jdk_43_method_23_code 22 = .ok (.iload 5, 2) := by decide +kernel
theorem own_d24_24 : decode jdk_43_method_23_code 24 = .ok (.ireturn, 1) := by decide +kernel
theorem own_d24_25 : decode jdk_43_method_23_code 25 = .ok (.iinc 5 1, 3) := by decide +kernel
theorem own_d24_28 : decode jdk_43_method_23_code 28 = .ok (.goto (-21), 3) := by decide +kernel
theorem own_d24_31 : decode jdk_43_method_23_code 31 = .ok (.iconst (-1), 1) := by decide +kernel
theorem own_d24_32 : decode jdk_43_method_23_code 32 = .ok (.ireturn, 1) := by decide +kernel
set_option maxRecDepth 65536 in
set_option maxHeartbeats 40000000 in
theorem own_ix_loop (l : Launch) (Z : State) (t : Addr) (ca : ClassId) (cs : List Nat) (k i0 : Nat) (hL : ∀ c ∈ cs, c < 256) (hk : k < 256) (h0 : Heap) (n0 : Nat) (At : Ary Z h0 t ca .byte (lat cs)) {p : Program} {e : Env} {s : State} {m : MethodId} {args : Array Value} {below : List Frame} {meth : Method} {c : Code} {T : State}
    (w : Wk p l e ({ frames := 0, cells := 0, slots := 0, locals := 0 } : Room) s m args below meth c Z "java/lang/StringLatin1" jdk_43_method_23_code 6 (some .int) "indexOfChar" n0 h0 [] T h0 0 0) (hn : cs.length ≤ 65536) :
    ∀ (j i : Nat), i + j = cs.length → ixv k cs i = ixv k cs i0 →
      Goes p e below (PN s n0 h0 [] (fun v h => v = some (.int (ixv k cs i0)) ∧ h0 = h) 0 0) T (mkF m 7 #[.val (.ref t), .val (.int (Int32.ofNat k)), .val (.int (Int32.ofNat i0)), .val (.int (Int32.ofNat cs.length)), .val (.int (bv k)), .val (.int (Int32.ofNat i))] []) := by
  intro j
  induction j with
  | zero =>
    intro i hij hq
    refine i_iload w own_d24_7 rfl (pc' := 9) rfl ?_
    refine i_iloadN w own_d24_9 rfl (pc' := 10) rfl ?_
    refine i_icmp_ge_Y w (by rw [show i = cs.length by omega]; exact Int32.lt_irrefl) own_d24_10 (pc' := 31) (by decide) ?_
    refine i_iconst w own_d24_31 (z := (-1 : Int32)) (by decide) (pc' := 32) rfl ?_
    exact i_retI w own_d24_32 rfl ⟨by rw [← hq, ixv_end (by omega)], rfl⟩ (by decide) (by decide)
  | succ j ih =>
    intro i hij hq
    obtain ⟨ci, hci⟩ : ∃ ci, cs[i]? = some ci := ⟨_, List.getElem?_eq_getElem (by omega)⟩
    refine i_iload w own_d24_7 rfl (pc' := 9) rfl ?_
    refine i_iloadN w own_d24_9 rfl (pc' := 10) rfl ?_
    refine i_icmp_ge_N w ((lt_nat (by omega) (by omega)).mpr (by omega)) own_d24_10 (pc' := 13) rfl ?_
    refine i_aloadN w own_d24_13 rfl rfl (pc' := 14) rfl ?_
    refine i_iload w own_d24_14 rfl (pc' := 16) rfl ?_
    refine i_baload w own_d24_16 At rfl (lat_at hci) (pc' := 17) rfl ?_
    refine i_iload w own_d24_17 rfl (pc' := 19) rfl ?_
    refine i_icmp_ne w own_d24_19 (pcY := 25) (by decide) (pc' := 22) rfl (fun hc19 => ?_) (fun hc19 => ?_)
    ·
      refine i_iinc w own_d24_25 rfl (z := (Int32.ofNat (i + 1))) (inc_nat i) (l' := #[.val (.ref t), .val (.int (Int32.ofNat k)), .val (.int (Int32.ofNat i0)), .val (.int (Int32.ofNat cs.length)), .val (.int (bv k)), .val (.int (Int32.ofNat (i + 1)))]) rfl (pc' := 28) rfl ?_
      refine i_goto w own_d24_28 (pc' := 7) (by decide) ?_
      exact ih (i + 1) (by omega) ((ixv_miss hci (fun q => hc19 (by rw [q]))).symm.trans hq)
    ·
      refine i_iload w own_d24_22 rfl (pc' := 24) rfl ?_
      exact i_retI w own_d24_24 rfl ⟨by rw [← hq, ixv_hit (by rw [hci, bv_inj (hL ci (List.mem_of_getElem? hci)) hk hc19])], rfl⟩ (by decide) (by decide)
theorem own_pd_pABIIIqI : parseMethodDescriptor "([BIII)I" = some ⟨[(.array .byte), .int, .int, .int], some .int⟩ := by decide +kernel
theorem own_ef_own_d24 (m : MethodId) (x0 : Addr) (x1 : Int32) (x2 : Int32) (x3 : Int32) : entryFrame m #[(.ref x0), (.int x1), (.int x2), (.int x3)] 6 = mkF m 0 #[.val (.ref x0), .val (.int x1), .val (.int x2), .val (.int x3), .unset, .unset] [] := by
  first | (simp [entryFrame, mkF, argsToLocals, Value.category]; done) | rfl
set_option maxRecDepth 65536 in
set_option maxHeartbeats 40000000 in
theorem own_ixChar (l : Launch) (Z : State) (a0 : Array Value) (hw : ∀ d ∈ tables_1, d.before a0 Z = true) (t : Addr) (ca : ClassId) (cs : List Nat) (k i0 : Nat) (h0 : Heap) (n0 : Nat) (O : Old Z n0 h0) (At : Ary Z h0 t ca .byte (lat cs)) (hL : ∀ c ∈ cs, c < 256) (hk : k < 256) (hn : cs.length ≤ 65536) (hi : i0 ≤ cs.length) :
    Ctr l Z n0 (⟨"java/lang/StringLatin1", "indexOfChar", "([BIII)I"⟩ : MethodName) jdk_43_method_23_code 6 (some .int) [] ({ frames := 0, cells := 0, slots := 0, locals := 0 } : Room) #[(.ref t), (.int (Int32.ofNat k)), (.int (Int32.ofNat i0)), (.int (Int32.ofNat cs.length))] h0 [] (fun v h => v = some (.int (ixv k cs i0)) ∧ h0 = h) := by
  refine enter (plainFor_of_name own_pn_java_lang_StringLatin1) (fun m => own_ef_own_d24 m t (Int32.ofNat k) (Int32.ofNat i0) (Int32.ofNat cs.length)) O (fun _ q => nomatch q) ?_
  intro p e s m below meth c T w
  refine i_iloadN w own_d24_0 rfl (pc' := 1) rfl ?_
  refine i_i2b w own_d24_1 (pc' := 2) rfl ?_
  refine i_istore w own_d24_2 (l' := #[.val (.ref t), .val (.int (Int32.ofNat k)), .val (.int (Int32.ofNat i0)), .val (.int (Int32.ofNat cs.length)), .val (.int ((Int32.ofNat k).toInt8.toInt32)), .unset]) rfl (pc' := 4) rfl ?_
  refine i_iloadN w own_d24_4 rfl (pc' := 5) rfl ?_
  refine i_istore w own_d24_5 (l' := #[.val (.ref t), .val (.int (Int32.ofNat k)), .val (.int (Int32.ofNat i0)), .val (.int (Int32.ofNat cs.length)), .val (.int ((Int32.ofNat k).toInt8.toInt32)), .val (.int (Int32.ofNat i0))]) rfl (pc' := 7) rfl ?_
  exact own_ix_loop l Z t ca cs k i0 hL hk h0 n0 At w hn (cs.length - i0) i0 (by omega) rfl
theorem own_d20_0 : decode jdk_43_method_22_code 0 = .ok (.iload_n 1, 1) := by decide +kernel
theorem own_d20_1 : decode jdk_43_method_22_code 1 = .ok (.invokestatic 88, 3) := by decide +kernel
theorem own_d20_4 : decode jdk_43_method_22_code 4 = .ok (.ifCond .ne 5, 3) := by decide +kernel
theorem own_d20_7 : decode jdk_43_method_22_code 7 = .ok (.iconst (-1), 1) := by decide +kernel
theorem own_d20_8 : decode jdk_43_method_22_code 8 = .ok (.ireturn, 1) := by decide +kernel
theorem own_d20_9 : decode jdk_43_method_22_code 9 = .ok (.iload_n 2, 1) := by decide +kernel
theorem own_d20_10 : decode jdk_43_method_22_code 10 = .ok (.iconst 0, 1) := by decide +kernel
theorem own_d20_11 : decode jdk_43_method_22_code 11 = .ok (.invokestatic 92, 3) := by decide +kernel
theorem own_d20_14 : decode jdk_43_method_22_code 14 = .ok (.istore_n 2, 1) := by decide +kernel
theorem own_d20_15 : decode jdk_43_method_22_code 15 = .ok (.iload_n 3, 1) := by decide +kernel
theorem own_d20_16 : decode jdk_43_method_22_code 16 = .ok (.aload_n 0, 1) := by decide +kernel
theorem own_d20_17 : decode jdk_43_method_22_code 17 = .ok (.arraylength, 1) := by decide +kernel
theorem own_d20_18 : decode jdk_43_method_22_code 18 = .ok (.invokestatic 38, 3) := by decide +kernel
theorem own_d20_21 : decode jdk_43_method_22_code 21 = .ok (.istore_n 3, 1) := by decide +kernel
theorem own_d20_22 : decode jdk_43_method_22_code 22 = .ok (.iload_n 2, 1) := by decide +kernel
theorem own_d20_23 : decode jdk_43_method_22_code 23 = .ok (.iload_n 3, 1) := by decide +kernel
theorem own_d20_24 : decode jdk_43_method_22_code 24 = .ok (.if_icmp .lt 5, 3) := by decide +kernel
theorem own_d20_27 : decode jdk_43_method_22_code 27 = .ok (.iconst (-1), 1) := by decide +kernel
theorem own_d20_28 : decode jdk_43_method_22_code 28 = .ok (.ireturn, 1) := by decide +kernel
theorem own_d20_29 : decode jdk_43_method_22_code 29 = .ok (.aload_n 0, 1) := by decide +kernel
theorem own_d20_30 : decode jdk_43_method_22_code 30 = .ok (.iload_n 1, 1) := by decide +kernel
theorem own_d20_31 : decode jdk_43_method_22_code 31 = .ok (.iload_n 2, 1) := by decide +kernel
theorem own_d20_32 : decode jdk_43_method_22_code 32 = .ok (.iload_n 3, 1) := by decide +kernel
theorem own_d20_33 : decode jdk_43_method_22_code 33 = .ok (.invokestatic 95, 3) := by decide +kernel
theorem own_d20_36 : decode jdk_43_method_22_code 36 = .ok (.ireturn, 1) := by decide +kernel
theorem own_ef_own_d20 (m : MethodId) (x0 : Addr) (x1 : Int32) (x2 : Int32) (x3 : Int32) : entryFrame m #[(.ref x0), (.int x1), (.int x2), (.int x3)] 4 = mkF m 0 #[.val (.ref x0), .val (.int x1), .val (.int x2), .val (.int x3)] [] := by
  first | (simp [entryFrame, mkF, argsToLocals, Value.category]; done) | rfl
set_option maxRecDepth 65536 in
set_option maxHeartbeats 40000000 in
theorem own_lIndexOf (l : Launch) (Z : State) (a0 : Array Value) (hw : ∀ d ∈ tables_1, d.before a0 Z = true) (t : Addr) (ca : ClassId) (cs : List Nat) (k i : Nat) (h0 : Heap) (n0 : Nat) (O : Old Z n0 h0) (At : Ary Z h0 t ca .byte (lat cs)) (hL : ∀ c ∈ cs, c < 256) (hk : k < 256) (hn : cs.length ≤ 65536) (hi0 : i ≤ 65536) :
    Ctr l Z n0 (⟨"java/lang/StringLatin1", "indexOf", "([BIII)I"⟩ : MethodName) jdk_43_method_22_code 4 (some .int) [] ({ frames := 1, cells := 0, slots := 0, locals := 17 } : Room) #[(.ref t), (.int (Int32.ofNat k)), (.int (Int32.ofNat i)), (.int (Int32.ofNat cs.length))] h0 [] (fun v h => v = some (.int (ixv k cs i)) ∧ h0 = h) := by
  refine enter (plainFor_of_name own_pn_java_lang_StringLatin1) (fun m => own_ef_own_d20 m t (Int32.ofNat k) (Int32.ofNat i) (Int32.ofNat cs.length)) O (fun _ q => nomatch q) ?_
  intro p e s m below meth c T w
  refine i_iloadN w own_d20_0 rfl (pc' := 1) rfl ?_
  refine c_static w (y := (⟨"java/lang/StringLatin1", "canEncode", "(I)Z"⟩ : MethodName)) (argsL := [(.int (Int32.ofNat k))]) (st := []) own_d20_1 (hw _ (List.mem_of_getElem? (i := 91) rfl)) (hw _ (List.mem_of_getElem? (i := 92) rfl)) (hw _ (List.mem_of_getElem? (i := 89) rfl)) (hw _ (List.mem_of_getElem? (i := 93) rfl)) (by decide) own_pd_pIqZ rfl (own_canEncI l Z a0 hw k h0 n0 w.old hk) rfl (by decide) (W := 0) (Nat.le_of_eq rfl) (by decide) (by decide) (by decide) (fun _ q => nomatch q) (pc' := 4) rfl ?_
  intro v28 T28 h28 w28 K28 q28
  obtain ⟨rfl, rfl⟩ := q28
  show Goes p e below _ T28 (mkF m 4 #[.val (.ref t), .val (.int (Int32.ofNat k)), .val (.int (Int32.ofNat i)), .val (.int (Int32.ofNat cs.length))] [(.int (1 : Int32))])
  refine i_if_ne_Y w28 (by decide) own_d20_4 (pc' := 9) (by decide) ?_
  refine i_iloadN w28 own_d20_9 rfl (pc' := 10) rfl ?_
  refine i_iconst w28 own_d20_10 (z := (0 : Int32)) (by decide) (pc' := 11) rfl ?_
  refine c_static w28 (y := (⟨"java/lang/Math", "max", "(II)I"⟩ : MethodName)) (argsL := [(.int (Int32.ofNat i)), (.int (0 : Int32))]) (st := []) own_d20_11 (hw _ (List.mem_of_getElem? (i := 94) rfl)) (hw _ (List.mem_of_getElem? (i := 95) rfl)) (hw _ (List.mem_of_getElem? (i := 96) rfl)) (hw _ (List.mem_of_getElem? (i := 97) rfl)) (by decide) own_pd_pIIqI rfl (own_max l Z a0 hw (Int32.ofNat i) 0 h0 n0 w28.old ) rfl (by decide) (W := 0) (Nat.le_of_eq rfl) (by decide) (by decide) (by decide) (fun _ q => nomatch q) (pc' := 14) rfl ?_
  intro v29 T29 h29 w29 K29 q29
  obtain ⟨rfl, rfl⟩ := q29
  show Goes p e below _ T29 (mkF m 14 #[.val (.ref t), .val (.int (Int32.ofNat k)), .val (.int (Int32.ofNat i)), .val (.int (Int32.ofNat cs.length))] [(.int (if (Int32.ofNat i) < (0 : Int32) then 0 else (Int32.ofNat i)))])
  rw [if_neg (nonneg_ofNat (by omega))]
  show Goes p e below _ T29 (mkF m 14 #[.val (.ref t), .val (.int (Int32.ofNat k)), .val (.int (Int32.ofNat i)), .val (.int (Int32.ofNat cs.length))] [(.int (Int32.ofNat i))])
  refine i_istoreN w29 own_d20_14 (l' := #[.val (.ref t), .val (.int (Int32.ofNat k)), .val (.int (Int32.ofNat i)), .val (.int (Int32.ofNat cs.length))]) rfl (pc' := 15) rfl ?_
  refine i_iloadN w29 own_d20_15 rfl (pc' := 16) rfl ?_
  refine i_aloadN w29 own_d20_16 rfl rfl (pc' := 17) rfl ?_
  refine i_len w29 own_d20_17 At (z := Int32.ofNat cs.length) (by rw [lat_len]) (pc' := 18) rfl ?_
  refine c_static w29 (y := (⟨"java/lang/Math", "min", "(II)I"⟩ : MethodName)) (argsL := [(.int (Int32.ofNat cs.length)), (.int (Int32.ofNat cs.length))]) (st := []) own_d20_18 (hw _ (List.mem_of_getElem? (i := 98) rfl)) (hw _ (List.mem_of_getElem? (i := 99) rfl)) (hw _ (List.mem_of_getElem? (i := 96) rfl)) (hw _ (List.mem_of_getElem? (i := 100) rfl)) (by decide) own_pd_pIIqI rfl (own_min l Z a0 hw (Int32.ofNat cs.length) (Int32.ofNat cs.length) h0 n0 w29.old ) rfl (by decide) (W := 0) (Nat.le_of_eq rfl) (by decide) (by decide) (by decide) (fun _ q => nomatch q) (pc' := 21) rfl ?_
  intro v30 T30 h30 w30 K30 q30
  obtain ⟨rfl, rfl⟩ := q30
  show Goes p e below _ T30 (mkF m 21 #[.val (.ref t), .val (.int (Int32.ofNat k)), .val (.int (Int32.ofNat i)), .val (.int (Int32.ofNat cs.length))] [(.int (if (Int32.ofNat cs.length) < (Int32.ofNat cs.length) then (Int32.ofNat cs.length) else (Int32.ofNat cs.length)))])
  rw [if_neg Int32.lt_irrefl]
  show Goes p e below _ T30 (mkF m 21 #[.val (.ref t), .val (.int (Int32.ofNat k)), .val (.int (Int32.ofNat i)), .val (.int (Int32.ofNat cs.length))] [(.int (Int32.ofNat cs.length))])
  refine i_istoreN w30 own_d20_21 (l' := #[.val (.ref t), .val (.int (Int32.ofNat k)), .val (.int (Int32.ofNat i)), .val (.int (Int32.ofNat cs.length))]) rfl (pc' := 22) rfl ?_
  refine i_iloadN w30 own_d20_22 rfl (pc' := 23) rfl ?_
  refine i_iloadN w30 own_d20_23 rfl (pc' := 24) rfl ?_
  refine i_icmp_lt w30 own_d20_24 (pcY := 29) (by decide) (pc' := 27) rfl (fun hc24 => ?_) (fun hc24 => ?_)
  ·
    refine i_aloadN w30 own_d20_29 rfl rfl (pc' := 30) rfl ?_
    refine i_iloadN w30 own_d20_30 rfl (pc' := 31) rfl ?_
    refine i_iloadN w30 own_d20_31 rfl (pc' := 32) rfl ?_
    refine i_iloadN w30 own_d20_32 rfl (pc' := 33) rfl ?_
    have hi : i < cs.length := (lt_nat (by omega) (by omega)).mp hc24
    refine c_static w30 (y := (⟨"java/lang/StringLatin1", "indexOfChar", "([BIII)I"⟩ : MethodName)) (argsL := [(.ref t), (.int (Int32.ofNat k)), (.int (Int32.ofNat i)), (.int (Int32.ofNat cs.length))]) (st := []) own_d20_33 (hw _ (List.mem_of_getElem? (i := 101) rfl)) (hw _ (List.mem_of_getElem? (i := 102) rfl)) (hw _ (List.mem_of_getElem? (i := 89) rfl)) (hw _ (List.mem_of_getElem? (i := 103) rfl)) (by decide) own_pd_pABIIIqI rfl (own_ixChar l Z a0 hw t ca cs k i h0 n0 w30.old At hL hk hn (by omega)) rfl (by decide) (W := 0) (Nat.le_of_eq rfl) (by decide) (by decide) (by decide) (fun _ q => nomatch q) (pc' := 36) rfl ?_
    intro v31 T31 h31 w31 K31 q31
    obtain ⟨rfl, rfl⟩ := q31
    show Goes p e below _ T31 (mkF m 36 #[.val (.ref t), .val (.int (Int32.ofNat k)), .val (.int (Int32.ofNat i)), .val (.int (Int32.ofNat cs.length))] [(.int (ixv k cs i))])
    exact i_retI w31 own_d20_36 rfl ⟨rfl, rfl⟩ (by decide) (by decide)
  ·
    refine i_iconst w30 own_d20_27 (z := (-1 : Int32)) (by decide) (pc' := 28) rfl ?_
    exact i_retI w30 own_d20_28 rfl ⟨by rw [ixv_end (by rw [lt_nat (by omega) (by omega)] at hc24; omega)], rfl⟩ (by decide) (by decide)
theorem own_d16_0 : decode jdk_42_method_80_code 0 = .ok (.aload_n 0, 1) := by decide +kernel
theorem own_d16_1 : decode jdk_42_method_80_code 1 = .ok (.invokevirtual 492, 3) := by decide +kernel
theorem own_d16_4 : decode jdk_42_method_80_code 4 = .ok (.ifCond .eq 19, 3) := by decide +kernel
theorem own_d16_7 : decode jdk_42_method_80_code 7 = .ok (.aload_n 0, 1) := by decide +kernel
theorem own_d16_8 : decode jdk_42_method_80_code 8 = .ok (.getfield 9, 3) := by decide +kernel
theorem own_d16_11 : decode jdk_42_method_80_code 11 = .ok (.iload_n 1, 1) := by decide +kernel
theorem own_d16_12 : decode jdk_42_method_80_code 12 = .ok (.iload_n 2, 1) := by decide +kernel
theorem own_d16_13 : decode jdk_42_method_80_code 13 = .ok (.aload_n 0, 1) := by decide +kernel
theorem own_d16_14 : decode jdk_42_method_80_code 14 = .ok (.invokevirtual 505, 3) := by decide +kernel
theorem own_d16_17 : decode jdk_42_method_80_code 17 = .ok (.invokestatic 637, 3) := by decide +kernel
theorem own_d16_20 : decode jdk_42_method_80_code 20 = .ok (.goto 16, 3) := by decide +kernel
theorem own_d16_23 : decode jdk_42_method_80_code 23 = .ok (.aload_n 0, 1) := by decide +kernel
theorem own_d16_24 : decode jdk_42_method_80_code 24 = .ok (.getfield 9, 3) := by decide +kernel
theorem own_d16_27 : decode jdk_42_method_80_code 27 = .ok (.iload_n 1, 1) := by decide +kernel
theorem own_d16_28 : decode jdk_42_method_80_code 28 = .ok (.iload_n 2, 1) := by decide +kernel
theorem own_d16_29 : decode jdk_42_method_80_code 29 = .ok (.aload_n 0, 1) := by decide +kernel
theorem own_d16_30 : decode jdk_42_method_80_code 30 = .ok (.invokevirtual 505, 3) := by decide +kernel
theorem own_d16_33 : decode jdk_42_method_80_code 33 = .ok (.invokestatic 640, 3) := by decide +kernel
theorem own_d16_36 : decode jdk_42_method_80_code 36 = .ok (.ireturn, 1) := by decide +kernel
theorem own_ef_own_d16 (m : MethodId) (x0 : Addr) (x1 : Int32) (x2 : Int32) : entryFrame m #[(.ref x0), (.int x1), (.int x2)] 3 = mkF m 0 #[.val (.ref x0), .val (.int x1), .val (.int x2)] [] := by
  first | (simp [entryFrame, mkF, argsToLocals, Value.category]; done) | rfl
set_option maxRecDepth 65536 in
set_option maxHeartbeats 40000000 in
theorem own_indexOf2 (l : Launch) (Z : State) (a0 : Array Value) (hw : ∀ d ∈ tables_1, d.before a0 Z = true) (a t : Addr) (ca : ClassId) (cs : List Nat) (k i : Nat) (G1 : Int32) (hG : ¬ G1 = 0) (SG : Sta Z Z.heap "java/lang/String" "COMPACT_STRINGS" "Z" (.int G1)) (h0 : Heap) (n0 : Nat) (O : Old Z n0 h0) (S : StrL Z h0 a t ca cs) (hk : k < 256) (hn : cs.length ≤ 65536) (hi0 : i ≤ 65536) :
    Ctr l Z n0 (⟨"java/lang/String", "indexOf", "(II)I"⟩ : MethodName) jdk_42_method_80_code 3 (some .int) [] ({ frames := 2, cells := 0, slots := 0, locals := 32 } : Room) #[(.ref a), (.int (Int32.ofNat k)), (.int (Int32.ofNat i))] h0 [] (fun v h => v = some (.int (ixv k cs i)) ∧ h0 = h) := by
  refine enter (plainFor_of_name own_pn_java_lang_String) (fun m => own_ef_own_d16 m a (Int32.ofNat k) (Int32.ofNat i)) O (fun _ q => nomatch q) ?_
  intro p e s m below meth c T w
  refine i_aloadN w own_d16_0 rfl rfl (pc' := 1) rfl ?_
  refine c_virtual w (y := (⟨"java/lang/String", "isLatin1", "()Z"⟩ : MethodName)) (C := "java/lang/String") (a := a) (argsL := []) (st := []) own_d16_1 (hw _ (List.mem_of_getElem? (i := 72) rfl)) (hw _ (List.mem_of_getElem? (i := 73) rfl)) (hw _ (List.mem_of_getElem? (i := 75) rfl)) (hw _ (List.mem_of_getElem? (i := 74) rfl)) (hw _ (List.mem_of_getElem? (i := 76) rfl)) (hw _ (List.mem_of_getElem? (i := 9) rfl)) (by decide) own_pd_pqZ rfl S.1 (own_isLatin1 l Z a0 hw a 0 G1 hG SG h0 n0 w.old S.2.2.1) rfl (by decide) (W := 0) (Nat.le_of_eq rfl) (by decide) (by decide) (by decide) (fun _ q => nomatch q) (pc' := 4) rfl ?_
  intro v32 T32 h32 w32 K32 q32
  obtain ⟨rfl, rfl⟩ := q32
  show Goes p e below _ T32 (mkF m 4 #[.val (.ref a), .val (.int (Int32.ofNat k)), .val (.int (Int32.ofNat i))] [(.int (1 : Int32))])
  refine i_if_eq_N w32 (by decide) own_d16_4 (pc' := 7) rfl ?_
  refine i_aloadN w32 own_d16_7 rfl rfl (pc' := 8) rfl ?_
  refine i_getF w32 own_d16_8 (hw _ (List.mem_of_getElem? (i := 35) rfl)) S.2.1 (pc' := 11) rfl ?_
  intro T33 w33
  refine i_iloadN w33 own_d16_11 rfl (pc' := 12) rfl ?_
  refine i_iloadN w33 own_d16_12 rfl (pc' := 13) rfl ?_
  refine i_aloadN w33 own_d16_13 rfl rfl (pc' := 14) rfl ?_
  refine c_virtual w33 (y := (⟨"java/lang/String", "length", "()I"⟩ : MethodName)) (C := "java/lang/String") (a := a) (argsL := []) (st := [(.int (Int32.ofNat i)), (.int (Int32.ofNat k)), (.ref t)]) own_d16_14 (hw _ (List.mem_of_getElem? (i := 77) rfl)) (hw _ (List.mem_of_getElem? (i := 78) rfl)) (hw _ (List.mem_of_getElem? (i := 80) rfl)) (hw _ (List.mem_of_getElem? (i := 79) rfl)) (hw _ (List.mem_of_getElem? (i := 81) rfl)) (hw _ (List.mem_of_getElem? (i := 9) rfl)) (by decide) own_pd_pqI rfl S.1 (own_length l Z a0 hw a t ca cs G1 hG SG h0 n0 w33.old (Or.inl S)) rfl (by decide) (W := 3) (Nat.le_of_eq rfl) (by decide) (by decide) (by decide) (fun _ q => nomatch q) (pc' := 17) rfl ?_
  intro v34 T34 h34 w34 K34 q34
  obtain ⟨rfl, rfl⟩ := q34
  show Goes p e below _ T34 (mkF m 17 #[.val (.ref a), .val (.int (Int32.ofNat k)), .val (.int (Int32.ofNat i))] [(.int (Int32.ofNat cs.length)), (.int (Int32.ofNat i)), (.int (Int32.ofNat k)), (.ref t)])
  refine c_static w34 (y := (⟨"java/lang/StringLatin1", "indexOf", "([BIII)I"⟩ : MethodName)) (argsL := [(.ref t), (.int (Int32.ofNat k)), (.int (Int32.ofNat i)), (.int (Int32.ofNat cs.length))]) (st := []) own_d16_17 (hw _ (List.mem_of_getElem? (i := 87) rfl)) (hw _ (List.mem_of_getElem? (i := 88) rfl)) (hw _ (List.mem_of_getElem? (i := 89) rfl)) (hw _ (List.mem_of_getElem? (i := 90) rfl)) (by decide) own_pd_pABIIIqI rfl (own_lIndexOf l Z a0 hw t ca cs k i h0 n0 w34.old S.2.2.2.1 S.2.2.2.2 hk hn hi0) rfl (by decide) (W := 0) (Nat.le_of_eq rfl) (by decide) (by decide) (by decide) (fun _ q => nomatch q) (pc' := 20) rfl ?_
  intro v35 T35 h35 w35 K35 q35
  obtain ⟨rfl, rfl⟩ := q35
  show Goes p e below _ T35 (mkF m 20 #[.val (.ref a), .val (.int (Int32.ofNat k)), .val (.int (Int32.ofNat i))] [(.int (ixv k cs i))])
  refine i_goto w35 own_d16_20 (pc' := 36) (by decide) ?_
  exact i_retI w35 own_d16_36 rfl ⟨rfl, rfl⟩ (by decide) (by decide)
theorem own_d15_0 : decode jdk_42_method_79_code 0 = .ok (.aload_n 0, 1) := by decide +kernel
theorem own_d15_1 : decode jdk_42_method_79_code 1 = .ok (.iload_n 1, 1) := by decide +kernel
theorem own_d15_2 : decode jdk_42_method_79_code 2 = .ok (.iconst 0, 1) := by decide +kernel
theorem own_d15_3 : decode jdk_42_method_79_code 3 = .ok (.invokevirtual 633, 3) := by decide +kernel
theorem own_d15_6 : decode jdk_42_method_79_code 6 = .ok (.ireturn, 1) := by decide +kernel
theorem own_pd_pIqI : parseMethodDescriptor "(I)I" = some ⟨[.int], some .int⟩ := by decide +kernel
theorem own_ef_own_d15 (m : MethodId) (x0 : Addr) (x1 : Int32) : entryFrame m #[(.ref x0), (.int x1)] 2 = mkF m 0 #[.val (.ref x0), .val (.int x1)] [] := by
  first | (simp [entryFrame, mkF, argsToLocals, Value.category]; done) | rfl
set_option maxRecDepth 65536 in
set_option maxHeartbeats 40000000 in
theorem own_indexOf (l : Launch) (Z : State) (a0 : Array Value) (hw : ∀ d ∈ tables_1, d.before a0 Z = true) (a t : Addr) (ca : ClassId) (cs : List Nat) (k : Nat) (G1 : Int32) (hG : ¬ G1 = 0) (SG : Sta Z Z.heap "java/lang/String" "COMPACT_STRINGS" "Z" (.int G1)) (h0 : Heap) (n0 : Nat) (O : Old Z n0 h0) (S : StrL Z h0 a t ca cs) (hk : k < 256) (hn : cs.length ≤ 65536) :
    Ctr l Z n0 (⟨"java/lang/String", "indexOf", "(I)I"⟩ : MethodName) jdk_42_method_79_code 2 (some .int) [] ({ frames := 3, cells := 0, slots := 0, locals := 46 } : Room) #[(.ref a), (.int (Int32.ofNat k))] h0 [] (fun v h => v = some (.int (ixv k cs 0)) ∧ h0 = h) := by
  refine enter (plainFor_of_name own_pn_java_lang_String) (fun m => own_ef_own_d15 m a (Int32.ofNat k)) O (fun _ q => nomatch q) ?_
  intro p e s m below meth c T w
  refine i_aloadN w own_d15_0 rfl rfl (pc' := 1) rfl ?_
  refine i_iloadN w own_d15_1 rfl (pc' := 2) rfl ?_
  refine i_iconst w own_d15_2 (z := (0 : Int32)) (by decide) (pc' := 3) rfl ?_
  refine c_virtual w (y := (⟨"java/lang/String", "indexOf", "(II)I"⟩ : MethodName)) (C := "java/lang/String") (a := a) (argsL := [(.int (Int32.ofNat k)), (.int (0 : Int32))]) (st := []) own_d15_3 (hw _ (List.mem_of_getElem? (i := 67) rfl)) (hw _ (List.mem_of_getElem? (i := 68) rfl)) (hw _ (List.mem_of_getElem? (i := 70) rfl)) (hw _ (List.mem_of_getElem? (i := 69) rfl)) (hw _ (List.mem_of_getElem? (i := 71) rfl)) (hw _ (List.mem_of_getElem? (i := 9) rfl)) (by decide) own_pd_pIIqI rfl S.1 (own_indexOf2 l Z a0 hw a t ca cs k 0 G1 hG SG h0 n0 w.old S hk hn (by omega)) rfl (by decide) (W := 0) (Nat.le_of_eq rfl) (by decide) (by decide) (by decide) (fun _ q => nomatch q) (pc' := 6) rfl ?_
  intro v36 T36 h36 w36 K36 q36
  obtain ⟨rfl, rfl⟩ := q36
  show Goes p e below _ T36 (mkF m 6 #[.val (.ref a), .val (.int (Int32.ofNat k))] [(.int (ixv k cs 0))])
  exact i_retI w36 own_d15_6 rfl ⟨rfl, rfl⟩ (by decide) (by decide)
theorem own_d31_0 : decode jdk_41_method_12_code 0 = .ok (.iload_n 0, 1) := by decide +kernel
theorem own_d31_1 : decode jdk_41_method_12_code 1 = .ok (.ifCond .lt 13, 3) := by decide +kernel
theorem own_d31_4 : decode jdk_41_method_12_code 4 = .ok (.iload_n 0, 1) := by decide +kernel
theorem own_d31_5 : decode jdk_41_method_12_code 5 = .ok (.iload_n 1, 1) := by decide +kernel
theorem own_d31_6 : decode jdk_41_method_12_code 6 = .ok (.if_icmp .gt 8, 3) := by decide +kernel
theorem own_d31_9 : decode jdk_41_method_12_code 9 = .ok (.iload_n 1, 1) := by decide +kernel
theorem own_d31_10 : decode jdk_41_method_12_code 10 = .ok (.iload_n 2, 1) := by decide +kernel
theorem own_d31_11 : decode jdk_41_method_12_code 11 = .ok (.if_icmp .le 11, 3) := by decide +kernel
theorem own_d31_14 : decode jdk_41_method_12_code 14 = .ok (.aload_n 3, 1) := by decide +kernel
theorem own_d31_15 : decode jdk_41_method_12_code 15 = .ok (.iload_n 0, 1) := by decide +kernel
theorem own_d31_16 : decode jdk_41_method_12_code 16 = .ok (.iload_n 1, 1) := by decide +kernel
theorem own_d31_17 : decode jdk_41_method_12_code 17 = .ok (.iload_n 2, 1) := by decide +kernel
theorem own_d31_18 : decode jdk_41_method_12_code 18 = .ok (.invokestatic 99, 3) := by decide +kernel
theorem own_d31_21 : decode jdk_41_method_12_code 21 = .ok (.athrow, 1) := by decide +kernel
theorem own_d31_22 : decode jdk_41_method_12_code 22 = .ok (.iload_n 0, 1) := by decide +kernel
theorem own_d31_23 : decode jdk_41_method_12_code 23 = .ok (.ireturn, 1) := by decide +kernel
theorem own_pd_pIIILjava_util_function_BiFunctioneqI : parseMethodDescriptor "(IIILjava/util/function/BiFunction;)I" = some ⟨[.int, .int, .int, (.object "java/util/function/BiFunction")], some .int⟩ := by decide +kernel
theorem own_ef_own_d31v3 (m : MethodId) (x0 : Int32) (x1 : Int32) (x2 : Int32) (x3 : Value) (hx3 : x3.isRef = true) : entryFrame m #[(.int x0), (.int x1), (.int x2), x3] 4 = mkF m 0 #[.val (.int x0), .val (.int x1), .val (.int x2), .val x3] [] := by
  rcases ref_cases hx3 with rfl | ⟨_, rfl⟩ <;> first | (simp [entryFrame, mkF, argsToLocals, Value.category]; done) | rfl
set_option maxRecDepth 65536 in
set_option maxHeartbeats 40000000 in
theorem own_pFromTo (l : Launch) (Z : State) (a0 : Array Value) (hw : ∀ d ∈ tables_1, d.before a0 Z = true) (i j n : Nat) (fm : Value) (h0 : Heap) (n0 : Nat) (O : Old Z n0 h0) (hi : i ≤ j) (hj : j ≤ n) (hn : n < 2147483648) (hfm : fm.isRef = true) :
    Ctr l Z n0 (⟨"jdk/internal/util/Preconditions", "checkFromToIndex", "(IIILjava/util/function/BiFunction;)I"⟩ : MethodName) jdk_41_method_12_code 4 (some .int) [] ({ frames := 0, cells := 0, slots := 0, locals := 0 } : Room) #[(.int (Int32.ofNat i)), (.int (Int32.ofNat j)), (.int (Int32.ofNat n)), fm] h0 [] (fun v h => v = some (.int (Int32.ofNat i)) ∧ h0 = h) := by
  refine enter (plainFor_of_name own_pn_jdk_internal_util_Preconditions) (fun m => own_ef_own_d31v3 m (Int32.ofNat i) (Int32.ofNat j) (Int32.ofNat n) fm hfm) O (fun _ q => nomatch q) ?_
  intro p e s m below meth c T w
  refine i_iloadN w own_d31_0 rfl (pc' := 1) rfl ?_
  refine i_if_lt_N w (nonneg_ofNat (by omega)) own_d31_1 (pc' := 4) rfl ?_
  refine i_iloadN w own_d31_4 rfl (pc' := 5) rfl ?_
  refine i_iloadN w own_d31_5 rfl (pc' := 6) rfl ?_
  refine i_icmp_gt_N w (by rw [lt_nat (by omega) (by omega)]; omega) own_d31_6 (pc' := 9) rfl ?_
  refine i_iloadN w own_d31_9 rfl (pc' := 10) rfl ?_
  refine i_iloadN w own_d31_10 rfl (pc' := 11) rfl ?_
  refine i_icmp_le_Y w (by rw [lt_nat (by omega) (by omega)]; omega) own_d31_11 (pc' := 22) (by decide) ?_
  refine i_iloadN w own_d31_22 rfl (pc' := 23) rfl ?_
  exact i_retI w own_d31_23 rfl ⟨rfl, rfl⟩ (by decide) (by decide)
theorem own_d30_0 : decode jdk_42_method_158_code 0 = .ok (.iload_n 0, 1) := by decide +kernel
theorem own_d30_1 : decode jdk_42_method_158_code 1 = .ok (.iload_n 1, 1) := by decide +kernel
theorem own_d30_2 : decode jdk_42_method_158_code 2 = .ok (.iload_n 2, 1) := by decide +kernel
theorem own_d30_3 : decode jdk_42_method_158_code 3 = .ok (.getstatic 1053, 3) := by decide +kernel
theorem own_d30_6 : decode jdk_42_method_158_code 6 = .ok (.invokestatic 1062, 3) := by decide +kernel
theorem own_d30_9 : decode jdk_42_method_158_code 9 = .ok (.pop, 1) := by decide +kernel
theorem own_d30_10 : decode jdk_42_method_158_code 10 = .ok (.return_, 1) := by decide +kernel
theorem own_pd_pIIIqV : parseMethodDescriptor "(III)V" = some ⟨[.int, .int, .int], none⟩ := by decide +kernel
theorem own_ef_own_d30 (m : MethodId) (x0 : Int32) (x1 : Int32) (x2 : Int32) : entryFrame m #[(.int x0), (.int x1), (.int x2)] 3 = mkF m 0 #[.val (.int x0), .val (.int x1), .val (.int x2)] [] := by
  first | (simp [entryFrame, mkF, argsToLocals, Value.category]; done) | rfl
set_option maxRecDepth 65536 in
set_option maxHeartbeats 40000000 in
theorem own_sBounds (l : Launch) (Z : State) (a0 : Array Value) (hw : ∀ d ∈ tables_1, d.before a0 Z = true) (i j n : Nat) (G3 : Value) (hG3 : G3.isRef = true) (SF : Sta Z Z.heap "jdk/internal/util/Preconditions" "SIOOBE_FORMATTER" "Ljava/util/function/BiFunction;" G3) (h0 : Heap) (n0 : Nat) (O : Old Z n0 h0) (hi : i ≤ j) (hj : j ≤ n) (hn : n < 2147483648) :
    Ctr l Z n0 (⟨"java/lang/String", "checkBoundsBeginEnd", "(III)V"⟩ : MethodName) jdk_42_method_158_code 3 none [] ({ frames := 1, cells := 0, slots := 0, locals := 15 } : Room) #[(.int (Int32.ofNat i)), (.int (Int32.ofNat j)), (.int (Int32.ofNat n))] h0 [] (fun v h => v = none ∧ h0 = h) := by
  refine enter (plainFor_of_name own_pn_java_lang_String) (fun m => own_ef_own_d30 m (Int32.ofNat i) (Int32.ofNat j) (Int32.ofNat n)) O (fun _ q => nomatch q) ?_
  intro p e s m below meth c T w
  refine i_iloadN w own_d30_0 rfl (pc' := 1) rfl ?_
  refine i_iloadN w own_d30_1 rfl (pc' := 2) rfl ?_
  refine i_iloadN w own_d30_2 rfl (pc' := 3) rfl ?_
  refine i_getS w own_d30_3 (hw _ (List.mem_of_getElem? (i := 117) rfl)) SF (pc' := 6) rfl ?_
  intro T37 w37
  refine c_static w37 (y := (⟨"jdk/internal/util/Preconditions", "checkFromToIndex", "(IIILjava/util/function/BiFunction;)I"⟩ : MethodName)) (argsL := [(.int (Int32.ofNat i)), (.int (Int32.ofNat j)), (.int (Int32.ofNat n)), G3]) (st := []) own_d30_6 (hw _ (List.mem_of_getElem? (i := 130) rfl)) (hw _ (List.mem_of_getElem? (i := 131) rfl)) (hw _ (List.mem_of_getElem? (i := 118) rfl)) (hw _ (List.mem_of_getElem? (i := 132) rfl)) (by decide) own_pd_pIIILjava_util_function_BiFunctioneqI rfl (own_pFromTo l Z a0 hw i j n G3 h0 n0 w37.old hi hj hn hG3) rfl (by decide) (W := 0) (Nat.le_of_eq rfl) (by decide) (by decide) (by decide) (fun _ q => nomatch q) (pc' := 9) rfl ?_
  intro v38 T38 h38 w38 K38 q38
  obtain ⟨rfl, rfl⟩ := q38
  show Goes p e below _ T38 (mkF m 9 #[.val (.int (Int32.ofNat i)), .val (.int (Int32.ofNat j)), .val (.int (Int32.ofNat n))] [(.int (Int32.ofNat i))])
  refine i_pop w38 own_d30_9 rfl (pc' := 10) rfl ?_
  exact i_ret0 w38 own_d30_10 rfl ⟨rfl, rfl⟩ (by decide) (by decide)
theorem own_d35_0 : decode jdk_65_method_131_code 0 = .ok (.iload_n 1, 1) := by decide +kernel
theorem own_d35_1 : decode jdk_65_method_131_code 1 = .ok (.iload_n 0, 1) := by decide +kernel
theorem own_d35_2 : decode jdk_65_method_131_code 2 = .ok (.if_icmp .ge 35, 3) := by decide +kernel
theorem own_d35_5 : decode jdk_65_method_131_code 5 = .ok (.new 43, 3) := by decide +kernel
theorem own_d35_8 : decode jdk_65_method_131_code 8 = .ok (.dup, 1) := by decide +kernel
theorem own_d35_9 : decode jdk_65_method_131_code 9 = .ok (.new 45, 3) := by decide +kernel
theorem own_d35_12 : decode jdk_65_method_131_code 12 = .ok (.dup, 1) := by decide +kernel
theorem own_d35_13 : decode jdk_65_method_131_code 13 = .ok (.invokespecial 47, 3) := by decide +kernel
theorem own_d35_16 : decode jdk_65_method_131_code 16 = .ok (.iload_n 0, 1) := by decide +kernel
theorem own_d35_17 : decode jdk_65_method_131_code 17 = .ok (.invokevirtual 54, 3) := by decide +kernel
theorem own_d35_20 : decode jdk_65_method_131_code 20 = .ok (.ldc_w 337, 3) := by decide +kernel
theorem own_d35_23 : decode jdk_65_method_131_code 23 = .ok (.invokevirtual 50, 3) := by decide +kernel
theorem own_d35_26 : decode jdk_65_method_131_code 26 = .ok (.iload_n 1, 1) := by decide +kernel
theorem own_d35_27 : decode jdk_65_method_131_code 27 = .ok (.invokevirtual 54, 3) := by decide +kernel
theorem own_d35_30 : decode jdk_65_method_131_code 30 = .ok (.invokevirtual 61, 3) := by decide +kernel
theorem own_d35_33 : decode jdk_65_method_131_code 33 = .ok (.invokespecial 65, 3) := by decide +kernel
theorem own_d35_36 : decode jdk_65_method_131_code 36 = .ok (.athrow, 1) := by decide +kernel
theorem own_d35_37 : decode jdk_65_method_131_code 37 = .ok (.return_, 1) := by decide +kernel
theorem own_pn_java_util_Arrays : plainName "java/util/Arrays" = true := by first | (simp [plainName, overriddenIn]; done) | decide +kernel
theorem own_ef_own_d35 (m : MethodId) (x0 : Int32) (x1 : Int32) : entryFrame m #[(.int x0), (.int x1)] 2 = mkF m 0 #[.val (.int x0), .val (.int x1)] [] := by
  first | (simp [entryFrame, mkF, argsToLocals, Value.category]; done) | rfl
set_option maxRecDepth 65536 in
set_option maxHeartbeats 40000000 in
theorem own_chkLen (l : Launch) (Z : State) (a0 : Array Value) (hw : ∀ d ∈ tables_1, d.before a0 Z = true) (i j : Nat) (h0 : Heap) (n0 : Nat) (O : Old Z n0 h0) (hi : i ≤ j) (hn : j < 2147483648) :
    Ctr l Z n0 (⟨"java/util/Arrays", "checkLength", "(II)V"⟩ : MethodName) jdk_65_method_131_code 2 none [] ({ frames := 0, cells := 0, slots := 0, locals := 0 } : Room) #[(.int (Int32.ofNat i)), (.int (Int32.ofNat j))] h0 [] (fun v h => v = none ∧ h0 = h) := by
  refine enter (plainFor_of_name own_pn_java_util_Arrays) (fun m => own_ef_own_d35 m (Int32.ofNat i) (Int32.ofNat j)) O (fun _ q => nomatch q) ?_
  intro p e s m below meth c T w
  refine i_iloadN w own_d35_0 rfl (pc' := 1) rfl ?_
  refine i_iloadN w own_d35_1 rfl (pc' := 2) rfl ?_
  refine i_icmp_ge_Y w (by rw [lt_nat (by omega) (by omega)]; omega) own_d35_2 (pc' := 37) (by decide) ?_
  exact i_ret0 w own_d35_37 rfl ⟨rfl, rfl⟩ (by decide) (by decide)
theorem own_d34_0 : decode jdk_65_method_133_code 0 = .ok (.iload_n 1, 1) := by decide +kernel
theorem own_d34_1 : decode jdk_65_method_133_code 1 = .ok (.iload_n 2, 1) := by decide +kernel
theorem own_d34_2 : decode jdk_65_method_133_code 2 = .ok (.invokestatic 343, 3) := by decide +kernel
theorem own_d34_5 : decode jdk_65_method_133_code 5 = .ok (.iload_n 2, 1) := by decide +kernel
theorem own_d34_6 : decode jdk_65_method_133_code 6 = .ok (.iload_n 1, 1) := by decide +kernel
theorem own_d34_7 : decode jdk_65_method_133_code 7 = .ok (.isub, 1) := by decide +kernel
theorem own_d34_8 : decode jdk_65_method_133_code 8 = .ok (.istore_n 3, 1) := by decide +kernel
theorem own_d34_9 : decode jdk_65_method_133_code 9 = .ok (.iload_n 3, 1) := by decide +kernel
theorem own_d34_10 : decode jdk_65_method_133_code 10 = .ok (.newarray .byte, 2) := by decide +kernel
theorem own_d34_12 : decode jdk_65_method_133_code 12 = .ok (.astore 4, 2) := by decide +kernel
theorem own_d34_14 : decode jdk_65_method_133_code 14 = .ok (.aload_n 0, 1) := by decide +kernel
theorem own_d34_15 : decode jdk_65_method_133_code 15 = .ok (.iload_n 1, 1) := by decide +kernel
theorem own_d34_16 : decode jdk_65_method_133_code 16 = .ok (.aload 4, 2) := by decide +kernel
theorem own_d34_18 : decode jdk_65_method_133_code 18 = .ok (.iconst 0, 1) := by decide +kernel
theorem own_d34_19 : decode jdk_65_method_133_code 19 = .ok (.aload_n 0, 1) := by decide +kernel
theorem own_d34_20 : decode jdk_65_method_133_code 20 = .ok (.arraylength, 1) := by decide +kernel
theorem own_d34_21 : decode jdk_65_method_133_code 21 = .ok (.iload_n 1, 1) := by decide +kernel
theorem own_d34_22 : decode jdk_65_method_133_code 22 = .ok (.isub, 1) := by decide +kernel
theorem own_d34_23 : decode jdk_65_method_133_code 23 = .ok (.iload_n 3, 1) := by decide +kernel
theorem own_d34_24 : decode jdk_65_method_133_code 24 = .ok (.invokestatic 304, 3) := by decide +kernel
theorem own_d34_27 : decode jdk_65_method_133_code 27 = .ok (.invokestatic 150, 3) := by decide +kernel
theorem own_d34_30 : decode jdk_65_method_133_code 30 = .ok (.aload 4, 2) := by decide +kernel
theorem own_d34_32 : decode jdk_65_method_133_code 32 = .ok (.areturn, 1) := by decide +kernel
theorem own_pd_pABIIqAB : parseMethodDescriptor "([BII)[B" = some ⟨[(.array .byte), .int, .int], some (.array .byte)⟩ := by decide +kernel
theorem own_ef_own_d34 (m : MethodId) (x0 : Addr) (x1 : Int32) (x2 : Int32) : entryFrame m #[(.ref x0), (.int x1), (.int x2)] 5 = mkF m 0 #[.val (.ref x0), .val (.int x1), .val (.int x2), .unset, .unset] [] := by
  first | (simp [entryFrame, mkF, argsToLocals, Value.category]; done) | rfl
set_option maxRecDepth 65536 in
set_option maxHeartbeats 40000000 in
theorem own_corB (l : Launch) (Z : State) (a0 : Array Value) (hw : ∀ d ∈ tables_1, d.before a0 Z = true) (t : Addr) (ca : ClassId) (vs : List Value) (i j : Nat) (h0 : Heap) (n0 : Nat) (O : Old Z n0 h0) (At : Ary Z h0 t ca .byte vs) (hij : i ≤ j) (hj : j ≤ vs.length) (hc : j - i ≤ 32) :
    Ctr l Z n0 (⟨"java/util/Arrays", "copyOfRangeByte", "([BII)[B"⟩ : MethodName) jdk_65_method_133_code 5 (some (.array .byte)) [] ({ frames := 1, cells := 1, slots := 32, locals := 18 } : Room) #[(.ref t), (.int (Int32.ofNat i)), (.int (Int32.ofNat j))] h0 [] (fun v h => ∃ d cd, v = some (.ref d) ∧ h0.size ≤ d ∧ Ary Z h d cd .byte ((vs.drop i).take (j - i))) := by
  refine enter (plainFor_of_name own_pn_java_util_Arrays) (fun m => own_ef_own_d34 m t (Int32.ofNat i) (Int32.ofNat j)) O (fun _ q => nomatch q) ?_
  intro p e s m below meth c T w
  refine i_iloadN w own_d34_0 rfl (pc' := 1) rfl ?_
  refine i_iloadN w own_d34_1 rfl (pc' := 2) rfl ?_
  refine c_static w (y := (⟨"java/util/Arrays", "checkLength", "(II)V"⟩ : MethodName)) (argsL := [(.int (Int32.ofNat i)), (.int (Int32.ofNat j))]) (st := []) own_d34_2 (hw _ (List.mem_of_getElem? (i := 144) rfl)) (hw _ (List.mem_of_getElem? (i := 145) rfl)) (hw _ (List.mem_of_getElem? (i := 139) rfl)) (hw _ (List.mem_of_getElem? (i := 146) rfl)) (by decide) own_pd_pIIqV rfl (own_chkLen l Z a0 hw i j h0 n0 w.old hij (by have := At.1; omega)) rfl (by decide) (W := 0) (Nat.le_of_eq rfl) (by decide) (by decide) (by decide) (fun _ q => nomatch q) (pc' := 5) rfl ?_
  intro v39 T39 h39 w39 K39 q39
  obtain ⟨rfl, rfl⟩ := q39
  show Goes p e below _ T39 (mkF m 5 #[.val (.ref t), .val (.int (Int32.ofNat i)), .val (.int (Int32.ofNat j)), .unset, .unset] [])
  refine i_iloadN w39 own_d34_5 rfl (pc' := 6) rfl ?_
  refine i_iloadN w39 own_d34_6 rfl (pc' := 7) rfl ?_
  refine i_isub w39 own_d34_7 (pc' := 8) rfl ?_
  rw [sub_nat hij]
  show Goes p e below _ T39 (mkF m 8 #[.val (.ref t), .val (.int (Int32.ofNat i)), .val (.int (Int32.ofNat j)), .unset, .unset] [(.int (Int32.ofNat (j - i)))])
  refine i_istoreN w39 own_d34_8 (l' := #[.val (.ref t), .val (.int (Int32.ofNat i)), .val (.int (Int32.ofNat j)), .val (.int (Int32.ofNat (j - i))), .unset]) rfl (pc' := 9) rfl ?_
  refine i_iloadN w39 own_d34_9 rfl (pc' := 10) rfl ?_
  refine i_newP w39 own_d34_10 (hw _ (List.mem_of_getElem? (i := 26) rfl)) (N := (j - i)) rfl (by omega) (cap := 32) (by omega) (by decide) (by decide) (by decide) (pc' := 12) rfl ?_
  intro d T40 h40 ca_d g_d w40 z_d E40 A_d
  show Goes p e below _ T40 (mkF m 12 #[.val (.ref t), .val (.int (Int32.ofNat i)), .val (.int (Int32.ofNat j)), .val (.int (Int32.ofNat (j - i))), .unset] [(.ref d)])
  have At1 := At.ext E40
  refine i_astore w40 own_d34_12 rfl (l' := #[.val (.ref t), .val (.int (Int32.ofNat i)), .val (.int (Int32.ofNat j)), .val (.int (Int32.ofNat (j - i))), .val (.ref d)]) rfl (pc' := 14) rfl ?_
  refine i_aloadN w40 own_d34_14 rfl rfl (pc' := 15) rfl ?_
  refine i_iloadN w40 own_d34_15 rfl (pc' := 16) rfl ?_
  refine i_aload w40 own_d34_16 rfl rfl (pc' := 18) rfl ?_
  refine i_iconst w40 own_d34_18 (z := (0 : Int32)) (by decide) (pc' := 19) rfl ?_
  refine i_aloadN w40 own_d34_19 rfl rfl (pc' := 20) rfl ?_
  refine i_len w40 own_d34_20 At1 rfl (pc' := 21) rfl ?_
  refine i_iloadN w40 own_d34_21 rfl (pc' := 22) rfl ?_
  refine i_isub w40 own_d34_22 (pc' := 23) rfl ?_
  refine i_iloadN w40 own_d34_23 rfl (pc' := 24) rfl ?_
  rw [sub_nat (by omega)]
  show Goes p e below _ T40 (mkF m 24 #[.val (.ref t), .val (.int (Int32.ofNat i)), .val (.int (Int32.ofNat j)), .val (.int (Int32.ofNat (j - i))), .val (.ref d)] [(.int (Int32.ofNat (j - i))), (.int (Int32.ofNat (vs.length - i))), (.int (0 : Int32)), (.ref d), (.int (Int32.ofNat i)), (.ref t)])
  refine c_static w40 (y := (⟨"java/lang/Math", "min", "(II)I"⟩ : MethodName)) (argsL := [(.int (Int32.ofNat (vs.length - i))), (.int (Int32.ofNat (j - i)))]) (st := [(.int (0 : Int32)), (.ref d), (.int (Int32.ofNat i)), (.ref t)]) own_d34_24 (hw _ (List.mem_of_getElem? (i := 147) rfl)) (hw _ (List.mem_of_getElem? (i := 99) rfl)) (hw _ (List.mem_of_getElem? (i := 96) rfl)) (hw _ (List.mem_of_getElem? (i := 100) rfl)) (by decide) own_pd_pIIqI rfl (own_min l Z a0 hw (Int32.ofNat (vs.length - i)) (Int32.ofNat (j - i)) h40 n0 w40.old ) rfl (by decide) (W := 4) (Nat.le_of_eq rfl) (by decide) (by decide) (by decide) (fun _ q => nomatch q) (pc' := 27) rfl ?_
  intro v42 T42 h42 w42 K42 q42
  obtain ⟨rfl, rfl⟩ := q42
  show Goes p e below _ T42 (mkF m 27 #[.val (.ref t), .val (.int (Int32.ofNat i)), .val (.int (Int32.ofNat j)), .val (.int (Int32.ofNat (j - i))), .val (.ref d)] [(.int (if (Int32.ofNat (j - i)) < (Int32.ofNat (vs.length - i)) then (Int32.ofNat (j - i)) else (Int32.ofNat (vs.length - i)))), (.int (0 : Int32)), (.ref d), (.int (Int32.ofNat i)), (.ref t)])
  rw [show (if Int32.ofNat (j - i) < Int32.ofNat (vs.length - i) then Int32.ofNat (j - i) else Int32.ofNat (vs.length - i)) = Int32.ofNat (j - i) from by have := At.1; split; rfl; rename_i q; rw [lt_nat (by omega) (by omega)] at q; congr 1; omega]
  show Goes p e below _ T42 (mkF m 27 #[.val (.ref t), .val (.int (Int32.ofNat i)), .val (.int (Int32.ofNat j)), .val (.int (Int32.ofNat (j - i))), .val (.ref d)] [(.int (Int32.ofNat (j - i))), (.int (0 : Int32)), (.ref d), (.int (Int32.ofNat i)), (.ref t)])
  refine i_acopy w42 (sp := i) (dp := 0) (nn := j - i) own_d34_27 (hw _ (List.mem_of_getElem? (i := 148) rfl)) (hw _ (List.mem_of_getElem? (i := 151) rfl)) (hw _ (List.mem_of_getElem? (i := 149) rfl)) (hw _ (List.mem_of_getElem? (i := 150) rfl)) At1 A_d rfl (by omega) (by simp) (Or.inr z_d) rfl (by decide) (W := 0) (Nat.le_of_eq rfl) (by decide) (pc' := 30) rfl ?_
  intro T43 h43 w43 K43 Ad
  show Goes p e below _ T43 (mkF m 30 #[.val (.ref t), .val (.int (Int32.ofNat i)), .val (.int (Int32.ofNat j)), .val (.int (Int32.ofNat (j - i))), .val (.ref d)] [])
  rw [show List.take 0 (List.replicate (j - i) (defaultValue (newarray.typeOf .byte))) ++ List.take (j - i) (List.drop i vs) ++ List.drop (0 + (j - i)) (List.replicate (j - i) (defaultValue (newarray.typeOf .byte))) = (vs.drop i).take (j - i) from by simp] at Ad
  refine i_aload w43 own_d34_30 rfl rfl (pc' := 32) rfl ?_
  exact i_retA w43 own_d34_32 rfl rfl rfl ⟨d, ca_d, rfl, z_d, Ad⟩ (by decide) (by decide)
theorem own_d33_0 : decode jdk_65_method_132_code 0 = .ok (.iload_n 1, 1) := by decide +kernel
theorem own_d33_1 : decode jdk_65_method_132_code 1 = .ok (.ifCond .ne 9, 3) := by decide +kernel
theorem own_d33_4 : decode jdk_65_method_132_code 4 = .ok (.iload_n 2, 1) := by decide +kernel
theorem own_d33_5 : decode jdk_65_method_132_code 5 = .ok (.aload_n 0, 1) := by decide +kernel
theorem own_d33_6 : decode jdk_65_method_132_code 6 = .ok (.arraylength, 1) := by decide +kernel
theorem own_d33_7 : decode jdk_65_method_132_code 7 = .ok (.if_icmp .eq 10, 3) := by decide +kernel
theorem own_d33_10 : decode jdk_65_method_132_code 10 = .ok (.aload_n 0, 1) := by decide +kernel
theorem own_d33_11 : decode jdk_65_method_132_code 11 = .ok (.iload_n 1, 1) := by decide +kernel
theorem own_d33_12 : decode jdk_65_method_132_code 12 = .ok (.iload_n 2, 1) := by decide +kernel
theorem own_d33_13 : decode jdk_65_method_132_code 13 = .ok (.invokestatic 339, 3) := by decide +kernel
theorem own_d33_16 : decode jdk_65_method_132_code 16 = .ok (.areturn, 1) := by decide +kernel
theorem own_d33_17 : decode jdk_65_method_132_code 17 = .ok (.aload_n 0, 1) := by decide +kernel
theorem own_d33_18 : decode jdk_65_method_132_code 18 = .ok (.invokevirtual 310, 3) := by decide +kernel
theorem own_d33_21 : decode jdk_65_method_132_code 21 = .ok (.checkcast 311, 3) := by decide +kernel
theorem own_d33_24 : decode jdk_65_method_132_code 24 = .ok (.areturn, 1) := by decide +kernel
theorem own_ef_own_d33 (m : MethodId) (x0 : Addr) (x1 : Int32) (x2 : Int32) : entryFrame m #[(.ref x0), (.int x1), (.int x2)] 3 = mkF m 0 #[.val (.ref x0), .val (.int x1), .val (.int x2)] [] := by
  first | (simp [entryFrame, mkF, argsToLocals, Value.category]; done) | rfl
set_option maxRecDepth 65536 in
set_option maxHeartbeats 40000000 in
theorem own_cor (l : Launch) (Z : State) (a0 : Array Value) (hw : ∀ d ∈ tables_1, d.before a0 Z = true) (t : Addr) (ca : ClassId) (vs : List Value) (i j : Nat) (h0 : Heap) (n0 : Nat) (O : Old Z n0 h0) (At : Ary Z h0 t ca .byte vs) (hij : i ≤ j) (hj : j ≤ vs.length) (hc : j - i ≤ 32) (hne : i = 0 → ¬ j = vs.length) :
    Ctr l Z n0 (⟨"java/util/Arrays", "copyOfRange", "([BII)[B"⟩ : MethodName) jdk_65_method_132_code 3 (some (.array .byte)) [] ({ frames := 2, cells := 1, slots := 32, locals := 34 } : Room) #[(.ref t), (.int (Int32.ofNat i)), (.int (Int32.ofNat j))] h0 [] (fun v h => ∃ d cd, v = some (.ref d) ∧ h0.size ≤ d ∧ Ary Z h d cd .byte ((vs.drop i).take (j - i))) := by
  refine enter (plainFor_of_name own_pn_java_util_Arrays) (fun m => own_ef_own_d33 m t (Int32.ofNat i) (Int32.ofNat j)) O (fun _ q => nomatch q) ?_
  intro p e s m below meth c T w
  have hl31 := At.1
  refine i_iloadN w own_d33_0 rfl (pc' := 1) rfl ?_
  refine i_if_ne w own_d33_1 (pcY := 10) (by decide) (pc' := 4) rfl (fun hc1 => ?_) (fun hc1 => ?_)
  ·
    refine i_aloadN w own_d33_10 rfl rfl (pc' := 11) rfl ?_
    refine i_iloadN w own_d33_11 rfl (pc' := 12) rfl ?_
    refine i_iloadN w own_d33_12 rfl (pc' := 13) rfl ?_
    refine c_static w (y := (⟨"java/util/Arrays", "copyOfRangeByte", "([BII)[B"⟩ : MethodName)) (argsL := [(.ref t), (.int (Int32.ofNat i)), (.int (Int32.ofNat j))]) (st := []) own_d33_13 (hw _ (List.mem_of_getElem? (i := 141) rfl)) (hw _ (List.mem_of_getElem? (i := 142) rfl)) (hw _ (List.mem_of_getElem? (i := 139) rfl)) (hw _ (List.mem_of_getElem? (i := 143) rfl)) (by decide) own_pd_pABIIqAB rfl (own_corB l Z a0 hw t ca vs i j h0 n0 w.old At hij hj hc) rfl (by decide) (W := 0) (Nat.le_of_eq rfl) (by decide) (by decide) (by decide) (fun _ q => nomatch q) (pc' := 16) rfl ?_
    intro v44 T44 h44 w44 K44 q44
    obtain ⟨d, cd, rfl, zd, Ad⟩ := q44
    show Goes p e below _ T44 (mkF m 16 #[.val (.ref t), .val (.int (Int32.ofNat i)), .val (.int (Int32.ofNat j))] [(.ref d)])
    exact i_retA w44 own_d33_16 rfl rfl rfl ⟨d, cd, rfl, zd, Ad⟩ (by decide) (by decide)
  ·
    refine i_iloadN w own_d33_4 rfl (pc' := 5) rfl ?_
    refine i_aloadN w own_d33_5 rfl rfl (pc' := 6) rfl ?_
    refine i_len w own_d33_6 At rfl (pc' := 7) rfl ?_
    refine i_icmp_eq_N w (fun q => hne ((eq_nat (by omega) (by omega)).mp (hc1.trans (show (0 : Int32) = Int32.ofNat 0 from rfl))) ((eq_nat (by omega) At.1).mp q)) own_d33_7 (pc' := 10) rfl ?_
    refine i_aloadN w own_d33_10 rfl rfl (pc' := 11) rfl ?_
    refine i_iloadN w own_d33_11 rfl (pc' := 12) rfl ?_
    refine i_iloadN w own_d33_12 rfl (pc' := 13) rfl ?_
    refine c_static w (y := (⟨"java/util/Arrays", "copyOfRangeByte", "([BII)[B"⟩ : MethodName)) (argsL := [(.ref t), (.int (Int32.ofNat i)), (.int (Int32.ofNat j))]) (st := []) own_d33_13 (hw _ (List.mem_of_getElem? (i := 141) rfl)) (hw _ (List.mem_of_getElem? (i := 142) rfl)) (hw _ (List.mem_of_getElem? (i := 139) rfl)) (hw _ (List.mem_of_getElem? (i := 143) rfl)) (by decide) own_pd_pABIIqAB rfl (own_corB l Z a0 hw t ca vs i j h0 n0 w.old At hij hj hc) rfl (by decide) (W := 0) (Nat.le_of_eq rfl) (by decide) (by decide) (by decide) (fun _ q => nomatch q) (pc' := 16) rfl ?_
    intro v46 T46 h46 w46 K46 q46
    obtain ⟨d, cd, rfl, zd, Ad⟩ := q46
    show Goes p e below _ T46 (mkF m 16 #[.val (.ref t), .val (.int (Int32.ofNat i)), .val (.int (Int32.ofNat j))] [(.ref d)])
    exact i_retA w46 own_d33_16 rfl rfl rfl ⟨d, cd, rfl, zd, Ad⟩ (by decide) (by decide)
theorem own_d36_0 : decode jdk_42_method_151_code 0 = .ok (.aload_n 0, 1) := by decide +kernel
theorem own_d36_1 : decode jdk_42_method_151_code 1 = .ok (.invokespecial 1, 3) := by decide +kernel
theorem own_d36_4 : decode jdk_42_method_151_code 4 = .ok (.aload_n 0, 1) := by decide +kernel
theorem own_d36_5 : decode jdk_42_method_151_code 5 = .ok (.aload_n 1, 1) := by decide +kernel
theorem own_d36_6 : decode jdk_42_method_151_code 6 = .ok (.putfield 9, 3) := by decide +kernel
theorem own_d36_9 : decode jdk_42_method_151_code 9 = .ok (.aload_n 0, 1) := by decide +kernel
theorem own_d36_10 : decode jdk_42_method_151_code 10 = .ok (.iload_n 2, 1) := by decide +kernel
theorem own_d36_11 : decode jdk_42_method_151_code 11 = .ok (.putfield 15, 3) := by decide +kernel
theorem own_d36_14 : decode jdk_42_method_151_code 14 = .ok (.return_, 1) := by decide +kernel
theorem own_pd_pABBqV : parseMethodDescriptor "([BB)V" = some ⟨[(.array .byte), .byte], none⟩ := by decide +kernel
theorem own_ef_own_d36 (m : MethodId) (x0 : Addr) (x1 : Addr) (x2 : Int32) : entryFrame m #[(.ref x0), (.ref x1), (.int x2)] 3 = mkF m 0 #[.val (.ref x0), .val (.ref x1), .val (.int x2)] [] := by
  first | (simp [entryFrame, mkF, argsToLocals, Value.category]; done) | rfl
set_option maxRecDepth 65536 in
set_option maxHeartbeats 40000000 in
theorem own_initBB (l : Launch) (Z : State) (a0 : Array Value) (hw : ∀ d ∈ tables_1, d.before a0 Z = true) (a t : Addr) (cd : Int32) {v0 c0 : Value} (h0 : Heap) (n0 : Nat) (O : Old Z n0 h0) (ha : n0 ≤ a) (Ea : Exa Z h0 a ST) (Fv : Fld Z h0 a ST "value" "[B" v0) (Fc : Fld Z h0 a ST "coder" "B" c0) (hnb : narrow .byte (.int cd) = .int cd) (hfb : fits .byte (.int cd) = true) :
    Ctr l Z n0 (⟨"java/lang/String", "<init>", "([BB)V"⟩ : MethodName) jdk_42_method_151_code 3 none [] ({ frames := 1, cells := 0, slots := 0, locals := 12 } : Room) #[(.ref a), (.ref t), (.int cd)] h0 [a] (fun v h => v = none ∧ Exa Z h a ST ∧ Fld Z h a ST "value" "[B" (.ref t) ∧ Fld Z h a ST "coder" "B" (.int cd)) := by
  refine enter (plainFor_of_name own_pn_java_lang_String) (fun m => own_ef_own_d36 m a t cd) O (allS ha all0) ?_
  intro p e s m below meth c T w
  refine i_aloadN w own_d36_0 rfl rfl (pc' := 1) rfl ?_
  refine i_initO w own_d36_1 (hw _ (List.mem_of_getElem? (i := 18) rfl)) (hw _ (List.mem_of_getElem? (i := 19) rfl)) (hw _ (List.mem_of_getElem? (i := 20) rfl)) rfl (by decide) (W := 0) (Nat.le_of_eq rfl) (by decide) (pc' := 4) rfl ?_
  intro T48 w48
  show Goes p e below _ T48 (mkF m 4 #[.val (.ref a), .val (.ref t), .val (.int cd)] [])
  refine i_aloadN w48 own_d36_4 rfl rfl (pc' := 5) rfl ?_
  refine i_aloadN w48 own_d36_5 rfl rfl (pc' := 6) rfl ?_
  refine i_putF w48 own_d36_6 (hw _ (List.mem_of_getElem? (i := 35) rfl)) Fv Ea (Or.inr ⟨(hw _ (List.mem_of_getElem? (i := 36) rfl)), rfl, rfl⟩) (hw _ (List.mem_of_getElem? (i := 8) rfl)) (ty := (.array .byte)) (by decide) rfl rfl (Or.inl (List.mem_singleton.mpr rfl)) (pc' := 9) rfl ?_
  intro T49 h49 w49 W49
  show Goes p e below _ T49 (mkF m 9 #[.val (.ref a), .val (.ref t), .val (.int cd)] [])
  have Fv1 := Fld.same W49 Fv
  have Fc1 := Fc.other W49 (Or.inr (slot_ne (Or.inr (hw _ (List.mem_of_getElem? (i := 34) rfl))) (Or.inr (hw _ (List.mem_of_getElem? (i := 36) rfl))) (by decide) (t := .byte) (t' := (.array .byte)) (by decide) (by decide)))
  have Ea1 := Ea.wr W49
  refine i_aloadN w49 own_d36_9 rfl rfl (pc' := 10) rfl ?_
  refine i_iloadN w49 own_d36_10 rfl (pc' := 11) rfl ?_
  refine i_putF w49 own_d36_11 (hw _ (List.mem_of_getElem? (i := 33) rfl)) Fc1 Ea1 (Or.inr ⟨(hw _ (List.mem_of_getElem? (i := 34) rfl)), rfl, rfl⟩) (hw _ (List.mem_of_getElem? (i := 8) rfl)) (ty := .byte) (by decide) hnb hfb (Or.inl (List.mem_singleton.mpr rfl)) (pc' := 14) rfl ?_
  intro T50 h50 w50 W50
  show Goes p e below _ T50 (mkF m 14 #[.val (.ref a), .val (.ref t), .val (.int cd)] [])
  have Fc2 := Fld.same W50 Fc1
  have Fv2 := Fv1.other W50 (Or.inr (slot_ne (Or.inr (hw _ (List.mem_of_getElem? (i := 36) rfl))) (Or.inr (hw _ (List.mem_of_getElem? (i := 34) rfl))) (by decide) (t := (.array .byte)) (t' := .byte) (by decide) (by decide)))
  have Ea2 := Ea1.wr W50
  exact i_ret0 w50 own_d36_14 rfl ⟨rfl, Ea2, Fv2, Fc2⟩ (by decide) (by decide)
theorem own_d32_0 : decode jdk_43_method_47_code 0 = .ok (.iload_n 2, 1) := by decide +kernel
theorem own_d32_1 : decode jdk_43_method_47_code 1 = .ok (.ifCond .ne 6, 3) := by decide +kernel
theorem own_d32_4 : decode jdk_43_method_47_code 4 = .ok (.ldc 151, 2) := by decide +kernel
theorem own_d32_6 : decode jdk_43_method_47_code 6 = .ok (.areturn, 1) := by decide +kernel
theorem own_d32_7 : decode jdk_43_method_47_code 7 = .ok (.new 1, 3) := by decide +kernel
theorem own_d32_10 : decode jdk_43_method_47_code 10 = .ok (.dup, 1) := by decide +kernel
theorem own_d32_11 : decode jdk_43_method_47_code 11 = .ok (.aload_n 0, 1) := by decide +kernel
theorem own_d32_12 : decode jdk_43_method_47_code 12 = .ok (.iload_n 1, 1) := by decide +kernel
theorem own_d32_13 : decode jdk_43_method_47_code 13 = .ok (.iload_n 1, 1) := by decide +kernel
theorem own_d32_14 : decode jdk_43_method_47_code 14 = .ok (.iload_n 2, 1) := by decide +kernel
theorem own_d32_15 : decode jdk_43_method_47_code 15 = .ok (.iadd, 1) := by decide +kernel
theorem own_d32_16 : decode jdk_43_method_47_code 16 = .ok (.invokestatic 232, 3) := by decide +kernel
theorem own_d32_19 : decode jdk_43_method_47_code 19 = .ok (.iconst 0, 1) := by decide +kernel
theorem own_d32_20 : decode jdk_43_method_47_code 20 = .ok (.invokespecial 112, 3) := by decide +kernel
theorem own_d32_23 : decode jdk_43_method_47_code 23 = .ok (.areturn, 1) := by decide +kernel
theorem own_pd_pABIIqLjava_lang_Stringe : parseMethodDescriptor "([BII)Ljava/lang/String;" = some ⟨[(.array .byte), .int, .int], some (.object "java/lang/String")⟩ := by decide +kernel
theorem own_ef_own_d32 (m : MethodId) (x0 : Addr) (x1 : Int32) (x2 : Int32) : entryFrame m #[(.ref x0), (.int x1), (.int x2)] 3 = mkF m 0 #[.val (.ref x0), .val (.int x1), .val (.int x2)] [] := by
  first | (simp [entryFrame, mkF, argsToLocals, Value.category]; done) | rfl
set_option maxRecDepth 65536 in
set_option maxHeartbeats 40000000 in
theorem own_newStr (l : Launch) (Z : State) (a0 : Array Value) (hw : ∀ d ∈ tables_1, d.before a0 Z = true) (t : Addr) (ca : ClassId) (cs : List Nat) (i n : Nat) (h0 : Heap) (n0 : Nat) (O : Old Z n0 h0) (At : Ary Z h0 t ca .byte (lat cs)) (hL : ∀ c ∈ cs, c < 256) (h1 : 0 < n) (hn : n ≤ 32) (hj : i + n ≤ cs.length) (hne : i = 0 → ¬ i + n = cs.length) :
    Ctr l Z n0 (⟨"java/lang/StringLatin1", "newString", "([BII)Ljava/lang/String;"⟩ : MethodName) jdk_43_method_47_code 3 (some (.object "java/lang/String")) [] ({ frames := 3, cells := 2, slots := 36, locals := 50 } : Room) #[(.ref t), (.int (Int32.ofNat i)), (.int (Int32.ofNat n))] h0 [] (fun v h => ∃ a t' c', v = some (.ref a) ∧ h0.size ≤ a ∧ a < t' ∧ StrL Z h a t' c' ((cs.drop i).take n)) := by
  refine enter (plainFor_of_name own_pn_java_lang_StringLatin1) (fun m => own_ef_own_d32 m t (Int32.ofNat i) (Int32.ofNat n)) O (fun _ q => nomatch q) ?_
  intro p e s m below meth c T w
  refine i_iloadN w own_d32_0 rfl (pc' := 1) rfl ?_
  refine i_if_ne_Y w (ofNat_ne0 h1 (by omega)) own_d32_1 (pc' := 7) (by decide) ?_
  refine i_new w own_d32_7 (hw _ (List.mem_of_getElem? (i := 136) rfl)) (hw _ (List.mem_of_getElem? (i := 8) rfl)) (hw _ (List.mem_of_getElem? (i := 9) rfl)) (by decide) (by decide) (pc' := 10) rfl ?_
  intro a T51 h51 g_a w51 z_a E51 A_a D_a
  show Goes p e below _ T51 (mkF m 10 #[.val (.ref t), .val (.int (Int32.ofNat i)), .val (.int (Int32.ofNat n))] [(.ref a)])
  have At1 := At.ext E51
  have Fv : Fld Z h51 a ST "value" "[B" .null := D_a (Or.inr (hw _ (List.mem_of_getElem? (i := 36) rfl))) (ty := .array .byte) (by decide)
  have Fc : Fld Z h51 a ST "coder" "B" (.int 0) := D_a (Or.inr (hw _ (List.mem_of_getElem? (i := 34) rfl))) (ty := .byte) (by decide)
  refine i_dup w51 own_d32_10 rfl (pc' := 11) rfl ?_
  refine i_aloadN w51 own_d32_11 rfl rfl (pc' := 12) rfl ?_
  refine i_iloadN w51 own_d32_12 rfl (pc' := 13) rfl ?_
  refine i_iloadN w51 own_d32_13 rfl (pc' := 14) rfl ?_
  refine i_iloadN w51 own_d32_14 rfl (pc' := 15) rfl ?_
  refine i_iadd w51 own_d32_15 (pc' := 16) rfl ?_
  rw [add_nat]
  show Goes p e below _ T51 (mkF m 16 #[.val (.ref t), .val (.int (Int32.ofNat i)), .val (.int (Int32.ofNat n))] [(.int (Int32.ofNat (i + n))), (.int (Int32.ofNat i)), (.ref t), (.ref a), (.ref a)])
  refine c_static w51 (y := (⟨"java/util/Arrays", "copyOfRange", "([BII)[B"⟩ : MethodName)) (argsL := [(.ref t), (.int (Int32.ofNat i)), (.int (Int32.ofNat (i + n)))]) (st := [(.ref a), (.ref a)]) own_d32_16 (hw _ (List.mem_of_getElem? (i := 137) rfl)) (hw _ (List.mem_of_getElem? (i := 138) rfl)) (hw _ (List.mem_of_getElem? (i := 139) rfl)) (hw _ (List.mem_of_getElem? (i := 140) rfl)) (by decide) own_pd_pABIIqAB rfl (own_cor l Z a0 hw t ca (lat cs) i (i + n) h51 n0 w51.old At1 (by omega) (by rw [lat_len]; exact hj) (by omega) (by rw [lat_len]; exact hne)) rfl (by decide) (W := 2) (Nat.le_of_eq rfl) (by decide) (by decide) (by decide) (fun _ q => nomatch q) (pc' := 19) rfl ?_
  intro v53 T53 h53 w53 K53 q53
  obtain ⟨d, cd, rfl, zd, Ad⟩ := q53
  show Goes p e below _ T53 (mkF m 19 #[.val (.ref t), .val (.int (Int32.ofNat i)), .val (.int (Int32.ofNat n))] [(.ref d), (.ref a), (.ref a)])
  rw [Nat.add_sub_cancel_left, lat_take_drop] at Ad
  have Fv1 := Fv.keep K53 nin0
  have Fc1 := Fc.keep K53 nin0
  have Ea1 := A_a.keep K53
  have lad : a < d := Nat.lt_of_lt_of_le A_a.lt zd
  refine i_iconst w53 own_d32_19 (z := (0 : Int32)) (by decide) (pc' := 20) rfl ?_
  refine c_special w53 (y := (⟨"java/lang/String", "<init>", "([BB)V"⟩ : MethodName)) (a := a) (argsL := [(.ref d), (.int (0 : Int32))]) (st := [(.ref a)]) own_d32_20 rfl (hw _ (List.mem_of_getElem? (i := 152) rfl)) (hw _ (List.mem_of_getElem? (i := 153) rfl)) (hw _ (List.mem_of_getElem? (i := 9) rfl)) (hw _ (List.mem_of_getElem? (i := 154) rfl)) (by decide) own_pd_pABBqV rfl (own_initBB l Z a0 hw a d 0 h53 n0 w53.old (Nat.le_trans w53.n0h0 z_a) Ea1 Fv1 Fc1 rfl rfl) rfl (by decide) (W := 1) (Nat.le_of_eq rfl) (by decide) (by decide) (by decide) (allS (Or.inr z_a) all0) (pc' := 23) rfl ?_
  intro v55 T55 h55 w55 K55 q55
  obtain ⟨rfl, Ea2, Fv2, Fc2⟩ := q55
  show Goes p e below _ T55 (mkF m 23 #[.val (.ref t), .val (.int (Int32.ofNat i)), .val (.int (Int32.ofNat n))] [(.ref a)])
  have Ad2 := Ad.keep K55 (ninS (Nat.ne_of_gt lad) nin0)
  exact i_retA w55 own_d32_23 rfl rfl rfl ⟨a, d, cd, rfl, z_a, lad, Ea2, Fv2, Fc2, Ad2, fun c hc => hL c (List.mem_of_mem_drop (List.mem_of_mem_take hc))⟩ (by decide) (by decide)
theorem own_d29_0 : decode jdk_42_method_92_code 0 = .ok (.aload_n 0, 1) := by decide +kernel
theorem own_d29_1 : decode jdk_42_method_92_code 1 = .ok (.invokevirtual 505, 3) := by decide +kernel
theorem own_d29_4 : decode jdk_42_method_92_code 4 = .ok (.istore_n 3, 1) := by decide +kernel
theorem own_d29_5 : decode jdk_42_method_92_code 5 = .ok (.iload_n 1, 1) := by decide +kernel
theorem own_d29_6 : decode jdk_42_method_92_code 6 = .ok (.iload_n 2, 1) := by decide +kernel
theorem own_d29_7 : decode jdk_42_method_92_code 7 = .ok (.iload_n 3, 1) := by decide +kernel
theorem own_d29_8 : decode jdk_42_method_92_code 8 = .ok (.invokestatic 521, 3) := by decide +kernel
theorem own_d29_11 : decode jdk_42_method_92_code 11 = .ok (.iload_n 1, 1) := by decide +kernel
theorem own_d29_12 : decode jdk_42_method_92_code 12 = .ok (.ifCond .ne 10, 3) := by decide +kernel
theorem own_d29_15 : decode jdk_42_method_92_code 15 = .ok (.iload_n 2, 1) := by decide +kernel
theorem own_d29_16 : decode jdk_42_method_92_code 16 = .ok (.iload_n 3, 1) := by decide +kernel
theorem own_d29_17 : decode jdk_42_method_92_code 17 = .ok (.if_icmp .ne 5, 3) := by decide +kernel
theorem own_d29_20 : decode jdk_42_method_92_code 20 = .ok (.aload_n 0, 1) := by decide +kernel
theorem own_d29_21 : decode jdk_42_method_92_code 21 = .ok (.areturn, 1) := by decide +kernel
theorem own_d29_22 : decode jdk_42_method_92_code 22 = .ok (.iload_n 2, 1) := by decide +kernel
theorem own_d29_23 : decode jdk_42_method_92_code 23 = .ok (.iload_n 1, 1) := by decide +kernel
theorem own_d29_24 : decode jdk_42_method_92_code 24 = .ok (.isub, 1) := by decide +kernel
theorem own_d29_25 : decode jdk_42_method_92_code 25 = .ok (.istore 4, 2) := by decide +kernel
theorem own_d29_27 : decode jdk_42_method_92_code 27 = .ok (.aload_n 0, 1) := by decide +kernel
theorem own_d29_28 : decode jdk_42_method_92_code 28 = .ok (.invokevirtual 492, 3) := by decide +kernel
theorem own_d29_31 : decode jdk_42_method_92_code 31 = .ok (.ifCond .eq 16, 3) := by decide +kernel
theorem own_d29_34 : decode jdk_42_method_92_code 34 = .ok (.aload_n 0, 1) := by decide +kernel
theorem own_d29_35 : decode jdk_42_method_92_code 35 = .ok (.getfield 9, 3) := by decide +kernel
theorem own_d29_38 : decode jdk_42_method_92_code 38 = .ok (.iload_n 1, 1) := by decide +kernel
theorem own_d29_39 : decode jdk_42_method_92_code 39 = .ok (.iload 4, 2) := by decide +kernel
theorem own_d29_41 : decode jdk_42_method_92_code 41 = .ok (.invokestatic 685, 3) := by decide +kernel
theorem own_d29_44 : decode jdk_42_method_92_code 44 = .ok (.goto 13, 3) := by decide +kernel
theorem own_d29_47 : decode jdk_42_method_92_code 47 = .ok (.aload_n 0, 1) := by decide +kernel
theorem own_d29_48 : decode jdk_42_method_92_code 48 = .ok (.getfield 9, 3) := by decide +kernel
theorem own_d29_51 : decode jdk_42_method_92_code 51 = .ok (.iload_n 1, 1) := by decide +kernel
theorem own_d29_52 : decode jdk_42_method_92_code 52 = .ok (.iload 4, 2) := by decide +kernel
theorem own_d29_54 : decode jdk_42_method_92_code 54 = .ok (.invokestatic 689, 3) := by decide +kernel
theorem own_d29_57 : decode jdk_42_method_92_code 57 = .ok (.areturn, 1) := by decide +kernel
theorem own_pd_pIIqLjava_lang_Stringe : parseMethodDescriptor "(II)Ljava/lang/String;" = some ⟨[.int, .int], some (.object "java/lang/String")⟩ := by decide +kernel
theorem own_ef_own_d29 (m : MethodId) (x0 : Addr) (x1 : Int32) (x2 : Int32) : entryFrame m #[(.ref x0), (.int x1), (.int x2)] 5 = mkF m 0 #[.val (.ref x0), .val (.int x1), .val (.int x2), .unset, .unset] [] := by
  first | (simp [entryFrame, mkF, argsToLocals, Value.category]; done) | rfl
set_option maxRecDepth 65536 in
set_option maxHeartbeats 40000000 in
theorem own_substr (l : Launch) (Z : State) (a0 : Array Value) (hw : ∀ d ∈ tables_1, d.before a0 Z = true) (a t : Addr) (ca : ClassId) (cs : List Nat) (i n : Nat) (G1 : Int32) (hG : ¬ G1 = 0) (SG : Sta Z Z.heap "java/lang/String" "COMPACT_STRINGS" "Z" (.int G1)) (G3 : Value) (hG3 : G3.isRef = true) (SF : Sta Z Z.heap "jdk/internal/util/Preconditions" "SIOOBE_FORMATTER" "Ljava/util/function/BiFunction;" G3) (h0 : Heap) (n0 : Nat) (O : Old Z n0 h0) (S : StrL Z h0 a t ca cs) (hi : 0 < i) (h1 : 0 < n) (hn : n ≤ 32) (hj : i + n ≤ cs.length) (hcl : cs.length ≤ 65536) :
    Ctr l Z n0 (⟨"java/lang/String", "substring", "(II)Ljava/lang/String;"⟩ : MethodName) jdk_42_method_92_code 5 (some (.object "java/lang/String")) [] ({ frames := 4, cells := 2, slots := 36, locals := 64 } : Room) #[(.ref a), (.int (Int32.ofNat i)), (.int (Int32.ofNat (i + n)))] h0 [] (fun v h => ∃ r t' c', v = some (.ref r) ∧ h0.size ≤ r ∧ r < t' ∧ StrL Z h r t' c' ((cs.drop i).take n)) := by
  refine enter (plainFor_of_name own_pn_java_lang_String) (fun m => own_ef_own_d29 m a (Int32.ofNat i) (Int32.ofNat (i + n))) O (fun _ q => nomatch q) ?_
  intro p e s m below meth c T w
  refine i_aloadN w own_d29_0 rfl rfl (pc' := 1) rfl ?_
  refine c_virtual w (y := (⟨"java/lang/String", "length", "()I"⟩ : MethodName)) (C := "java/lang/String") (a := a) (argsL := []) (st := []) own_d29_1 (hw _ (List.mem_of_getElem? (i := 77) rfl)) (hw _ (List.mem_of_getElem? (i := 78) rfl)) (hw _ (List.mem_of_getElem? (i := 80) rfl)) (hw _ (List.mem_of_getElem? (i := 79) rfl)) (hw _ (List.mem_of_getElem? (i := 81) rfl)) (hw _ (List.mem_of_getElem? (i := 9) rfl)) (by decide) own_pd_pqI rfl S.1 (own_length l Z a0 hw a t ca cs G1 hG SG h0 n0 w.old (Or.inl S)) rfl (by decide) (W := 0) (Nat.le_of_eq rfl) (by decide) (by decide) (by decide) (fun _ q => nomatch q) (pc' := 4) rfl ?_
  intro v57 T57 h57 w57 K57 q57
  obtain ⟨rfl, rfl⟩ := q57
  show Goes p e below _ T57 (mkF m 4 #[.val (.ref a), .val (.int (Int32.ofNat i)), .val (.int (Int32.ofNat (i + n))), .unset, .unset] [(.int (Int32.ofNat cs.length))])
  refine i_istoreN w57 own_d29_4 (l' := #[.val (.ref a), .val (.int (Int32.ofNat i)), .val (.int (Int32.ofNat (i + n))), .val (.int (Int32.ofNat cs.length)), .unset]) rfl (pc' := 5) rfl ?_
  refine i_iloadN w57 own_d29_5 rfl (pc' := 6) rfl ?_
  refine i_iloadN w57 own_d29_6 rfl (pc' := 7) rfl ?_
  refine i_iloadN w57 own_d29_7 rfl (pc' := 8) rfl ?_
  refine c_static w57 (y := (⟨"java/lang/String", "checkBoundsBeginEnd", "(III)V"⟩ : MethodName)) (argsL := [(.int (Int32.ofNat i)), (.int (Int32.ofNat (i + n))), (.int (Int32.ofNat cs.length))]) (st := []) own_d29_8 (hw _ (List.mem_of_getElem? (i := 127) rfl)) (hw _ (List.mem_of_getElem? (i := 128) rfl)) (hw _ (List.mem_of_getElem? (i := 9) rfl)) (hw _ (List.mem_of_getElem? (i := 129) rfl)) (by decide) own_pd_pIIIqV rfl (own_sBounds l Z a0 hw i (i + n) cs.length G3 hG3 SF h0 n0 w57.old (by omega) hj (by omega)) rfl (by decide) (W := 0) (Nat.le_of_eq rfl) (by decide) (by decide) (by decide) (fun _ q => nomatch q) (pc' := 11) rfl ?_
  intro v58 T58 h58 w58 K58 q58
  obtain ⟨rfl, rfl⟩ := q58
  show Goes p e below _ T58 (mkF m 11 #[.val (.ref a), .val (.int (Int32.ofNat i)), .val (.int (Int32.ofNat (i + n))), .val (.int (Int32.ofNat cs.length)), .unset] [])
  refine i_iloadN w58 own_d29_11 rfl (pc' := 12) rfl ?_
  refine i_if_ne_Y w58 (ofNat_ne0 hi (by omega)) own_d29_12 (pc' := 22) (by decide) ?_
  refine i_iloadN w58 own_d29_22 rfl (pc' := 23) rfl ?_
  refine i_iloadN w58 own_d29_23 rfl (pc' := 24) rfl ?_
  refine i_isub w58 own_d29_24 (pc' := 25) rfl ?_
  rw [sub_nat (by omega), Nat.add_sub_cancel_left]
  show Goes p e below _ T58 (mkF m 25 #[.val (.ref a), .val (.int (Int32.ofNat i)), .val (.int (Int32.ofNat (i + n))), .val (.int (Int32.ofNat cs.length)), .unset] [(.int (Int32.ofNat n))])
  refine i_istore w58 own_d29_25 (l' := #[.val (.ref a), .val (.int (Int32.ofNat i)), .val (.int (Int32.ofNat (i + n))), .val (.int (Int32.ofNat cs.length)), .val (.int (Int32.ofNat n))]) rfl (pc' := 27) rfl ?_
  refine i_aloadN w58 own_d29_27 rfl rfl (pc' := 28) rfl ?_
  refine c_virtual w58 (y := (⟨"java/lang/String", "isLatin1", "()Z"⟩ : MethodName)) (C := "java/lang/String") (a := a) (argsL := []) (st := []) own_d29_28 (hw _ (List.mem_of_getElem? (i := 72) rfl)) (hw _ (List.mem_of_getElem? (i := 73) rfl)) (hw _ (List.mem_of_getElem? (i := 75) rfl)) (hw _ (List.mem_of_getElem? (i := 74) rfl)) (hw _ (List.mem_of_getElem? (i := 76) rfl)) (hw _ (List.mem_of_getElem? (i := 9) rfl)) (by decide) own_pd_pqZ rfl S.1 (own_isLatin1 l Z a0 hw a 0 G1 hG SG h0 n0 w58.old S.2.2.1) rfl (by decide) (W := 0) (Nat.le_of_eq rfl) (by decide) (by decide) (by decide) (fun _ q => nomatch q) (pc' := 31) rfl ?_
  intro v59 T59 h59 w59 K59 q59
  obtain ⟨rfl, rfl⟩ := q59
  show Goes p e below _ T59 (mkF m 31 #[.val (.ref a), .val (.int (Int32.ofNat i)), .val (.int (Int32.ofNat (i + n))), .val (.int (Int32.ofNat cs.length)), .val (.int (Int32.ofNat n))] [(.int (1 : Int32))])
  refine i_if_eq_N w59 (by decide) own_d29_31 (pc' := 34) rfl ?_
  refine i_aloadN w59 own_d29_34 rfl rfl (pc' := 35) rfl ?_
  refine i_getF w59 own_d29_35 (hw _ (List.mem_of_getElem? (i := 35) rfl)) S.2.1 (pc' := 38) rfl ?_
  intro T60 w60
  refine i_iloadN w60 own_d29_38 rfl (pc' := 39) rfl ?_
  refine i_iload w60 own_d29_39 rfl (pc' := 41) rfl ?_
  refine c_static w60 (y := (⟨"java/lang/StringLatin1", "newString", "([BII)Ljava/lang/String;"⟩ : MethodName)) (argsL := [(.ref t), (.int (Int32.ofNat i)), (.int (Int32.ofNat n))]) (st := []) own_d29_41 (hw _ (List.mem_of_getElem? (i := 133) rfl)) (hw _ (List.mem_of_getElem? (i := 134) rfl)) (hw _ (List.mem_of_getElem? (i := 89) rfl)) (hw _ (List.mem_of_getElem? (i := 135) rfl)) (by decide) own_pd_pABIIqLjava_lang_Stringe rfl (own_newStr l Z a0 hw t ca cs i n h0 n0 w60.old S.2.2.2.1 S.2.2.2.2 h1 hn hj (fun q => absurd q (by omega))) rfl (by decide) (W := 0) (Nat.le_of_eq rfl) (by decide) (by decide) (by decide) (fun _ q => nomatch q) (pc' := 44) rfl ?_
  intro v61 T61 h61 w61 K61 q61
  obtain ⟨r, t', c', rfl, zr, lr, Sr⟩ := q61
  show Goes p e below _ T61 (mkF m 44 #[.val (.ref a), .val (.int (Int32.ofNat i)), .val (.int (Int32.ofNat (i + n))), .val (.int (Int32.ofNat cs.length)), .val (.int (Int32.ofNat n))] [(.ref r)])
  refine i_goto w61 own_d29_44 (pc' := 57) (by decide) ?_
  exact i_retA w61 own_d29_57 rfl rfl rfl ⟨r, t', c', rfl, zr, lr, Sr⟩ (by decide) (by decide)
theorem own_d13_0 : decode jdk_31_method_11_code 0 = .ok (.aload_n 0, 1) := by decide +kernel
theorem own_d13_1 : decode jdk_31_method_11_code 1 = .ok (.ifnonnull 12, 3) := by decide +kernel
theorem own_d13_4 : decode jdk_31_method_11_code 4 = .ok (.new 84, 3) := by decide +kernel
theorem own_d13_7 : decode jdk_31_method_11_code 7 = .ok (.dup, 1) := by decide +kernel
theorem own_d13_8 : decode jdk_31_method_11_code 8 = .ok (.aload_n 1, 1) := by decide +kernel
theorem own_d13_9 : decode jdk_31_method_11_code 9 = .ok (.invokespecial 87, 3) := by decide +kernel
theorem own_d13_12 : decode jdk_31_method_11_code 12 = .ok (.athrow, 1) := by decide +kernel
theorem own_d13_13 : decode jdk_31_method_11_code 13 = .ok (.aload_n 0, 1) := by decide +kernel
theorem own_d13_14 : decode jdk_31_method_11_code 14 = .ok (.areturn, 1) := by decide +kernel
theorem own_pn_java_util_Objects : plainName "java/util/Objects" = true := by first | (simp [plainName, overriddenIn]; done) | decide +kernel
theorem own_pd_pLjava_lang_ObjecteLjava_lang_StringeqLjava_lang_Objecte : parseMethodDescriptor "(Ljava/lang/Object;Ljava/lang/String;)Ljava/lang/Object;" = some ⟨[(.object "java/lang/Object"), (.object "java/lang/String")], some (.object "java/lang/Object")⟩ := by decide +kernel
theorem own_ef_own_d13 (m : MethodId) (x0 : Addr) (x1 : Addr) : entryFrame m #[(.ref x0), (.ref x1)] 2 = mkF m 0 #[.val (.ref x0), .val (.ref x1)] [] := by
  first | (simp [entryFrame, mkF, argsToLocals, Value.category]; done) | rfl
set_option maxRecDepth 65536 in
set_option maxHeartbeats 40000000 in
theorem own_reqNN (l : Launch) (Z : State) (a0 : Array Value) (hw : ∀ d ∈ tables_1, d.before a0 Z = true) (a u : Addr) (h0 : Heap) (n0 : Nat) (O : Old Z n0 h0)  :
    Ctr l Z n0 (⟨"java/util/Objects", "requireNonNull", "(Ljava/lang/Object;Ljava/lang/String;)Ljava/lang/Object;"⟩ : MethodName) jdk_31_method_11_code 2 (some (.object "java/lang/Object")) [] ({ frames := 0, cells := 0, slots := 0, locals := 0 } : Room) #[(.ref a), (.ref u)] h0 [] (fun v h => v = some (.ref a) ∧ h0 = h) := by
  refine enter (plainFor_of_name own_pn_java_util_Objects) (fun m => own_ef_own_d13 m a u) O (fun _ q => nomatch q) ?_
  intro p e s m below meth c T w
  refine i_aloadN w own_d13_0 rfl rfl (pc' := 1) rfl ?_
  refine i_ifnonnull_Y w own_d13_1 (pc' := 13) (by decide) ?_
  refine i_aloadN w own_d13_13 rfl rfl (pc' := 14) rfl ?_
  exact i_retA w own_d13_14 rfl rfl rfl ⟨rfl, rfl⟩ (by decide) (by decide)
theorem own_d1_0 : decode method_2_code 0 = .ok (.iload_n 0, 1) := by decide +kernel
theorem own_d1_1 : decode method_2_code 1 = .ok (.bipush 8, 2) := by decide +kernel
theorem own_d1_3 : decode method_2_code 3 = .ok (.iushr, 1) := by decide +kernel
theorem own_d1_4 : decode method_2_code 4 = .ok (.iconst 3, 1) := by decide +kernel
theorem own_d1_5 : decode method_2_code 5 = .ok (.iand, 1) := by decide +kernel
theorem own_d1_6 : decode method_2_code 6 = .ok (.istore_n 1, 1) := by decide +kernel
theorem own_d1_7 : decode method_2_code 7 = .ok (.iload_n 1, 1) := by decide +kernel
theorem own_d1_8 : decode method_2_code 8 = .ok (.ifCond .ne 6, 3) := by decide +kernel
theorem own_d1_11 : decode method_2_code 11 = .ok (.bipush 123, 2) := by decide +kernel
theorem own_d1_13 : decode method_2_code 13 = .ok (.ireturn, 1) := by decide +kernel
theorem own_d1_14 : decode method_2_code 14 = .ok (.iload_n 1, 1) := by decide +kernel
theorem own_d1_15 : decode method_2_code 15 = .ok (.iconst 1, 1) := by decide +kernel
theorem own_d1_16 : decode method_2_code 16 = .ok (.if_icmp .ne 6, 3) := by decide +kernel
theorem own_d1_19 : decode method_2_code 19 = .ok (.bipush 125, 2) := by decide +kernel
theorem own_d1_21 : decode method_2_code 21 = .ok (.ireturn, 1) := by decide +kernel
theorem own_d1_22 : decode method_2_code 22 = .ok (.iload_n 0, 1) := by decide +kernel
theorem own_d1_23 : decode method_2_code 23 = .ok (.sipush 255, 3) := by decide +kernel
theorem own_d1_26 : decode method_2_code 26 = .ok (.iand, 1) := by decide +kernel
theorem own_d1_27 : decode method_2_code 27 = .ok (.i2c, 1) := by decide +kernel
theorem own_d1_28 : decode method_2_code 28 = .ok (.ireturn, 1) := by decide +kernel
theorem own_pn_com_example_cluster_lock_clusterlock_redis_LockKeysHashTagPinLaw : plainName "com/example/cluster_lock/clusterlock/redis/LockKeysHashTagPinLaw" = true := by first | (simp [plainName, overriddenIn]; done) | decide +kernel
theorem own_ef_own_d1 (m : MethodId) (x0 : Int32) : entryFrame m #[(.int x0)] 2 = mkF m 0 #[.val (.int x0), .unset] [] := by
  first | (simp [entryFrame, mkF, argsToLocals, Value.category]; done) | rfl
set_option maxRecDepth 65536 in
set_option maxHeartbeats 40000000 in
theorem own_chr (l : Launch) (Z : State) (a0 : Array Value) (hw : ∀ d ∈ tables_1, d.before a0 Z = true) (x : Int32) (h0 : Heap) (n0 : Nat) (O : Old Z n0 h0)  :
    Ctr l Z n0 (⟨"com/example/cluster_lock/clusterlock/redis/LockKeysHashTagPinLaw", "ch", "(I)C"⟩ : MethodName) method_2_code 2 (some .char) [] ({ frames := 0, cells := 0, slots := 0, locals := 0 } : Room) #[(.int x)] h0 [] (fun v h => ∃ k, k < 256 ∧ v = some (.int (Int32.ofNat k)) ∧ h0 = h) := by
  refine enter (plainFor_of_name own_pn_com_example_cluster_lock_clusterlock_redis_LockKeysHashTagPinLaw) (fun m => own_ef_own_d1 m x) O (fun _ q => nomatch q) ?_
  intro p e s m below meth c T w
  refine i_iloadN w own_d1_0 rfl (pc' := 1) rfl ?_
  refine i_bipush w own_d1_1 (z := (8 : Int32)) (by decide) (pc' := 3) rfl ?_
  refine i_iushr w own_d1_3 (pc' := 4) rfl ?_
  refine i_iconst w own_d1_4 (z := (3 : Int32)) (by decide) (pc' := 5) rfl ?_
  refine i_iand w own_d1_5 (pc' := 6) rfl ?_
  refine i_istoreN w own_d1_6 (l' := #[.val (.int x), .val (.int ((XT.ushr x (8 : Int32)) &&& (3 : Int32)))]) rfl (pc' := 7) rfl ?_
  refine i_iloadN w own_d1_7 rfl (pc' := 8) rfl ?_
  refine i_if_ne w own_d1_8 (pcY := 14) (by decide) (pc' := 11) rfl (fun hc8 => ?_) (fun hc8 => ?_)
  ·
    refine i_iloadN w own_d1_14 rfl (pc' := 15) rfl ?_
    refine i_iconst w own_d1_15 (z := (1 : Int32)) (by decide) (pc' := 16) rfl ?_
    refine i_icmp_ne w own_d1_16 (pcY := 22) (by decide) (pc' := 19) rfl (fun hc16 => ?_) (fun hc16 => ?_)
    ·
      refine i_iloadN w own_d1_22 rfl (pc' := 23) rfl ?_
      refine i_sipush w own_d1_23 (z := (255 : Int32)) (by decide) (pc' := 26) rfl ?_
      refine i_iand w own_d1_26 (pc' := 27) rfl ?_
      refine i_i2c w own_d1_27 (pc' := 28) rfl ?_
      exact i_retN w own_d1_28 rfl (by simp) (by obtain ⟨k, h1, e1⟩ := own_ch8 x; exact ⟨k, h1, by rw [e1], rfl⟩) (by decide) (by decide)
    ·
      refine i_bipush w own_d1_19 (z := (125 : Int32)) (by decide) (pc' := 21) rfl ?_
      exact i_retN w own_d1_21 rfl (by simp) ⟨125, by decide, rfl, rfl⟩ (by decide) (by decide)
  ·
    refine i_bipush w own_d1_11 (z := (123 : Int32)) (by decide) (pc' := 13) rfl ?_
    exact i_retN w own_d1_13 rfl (by simp) ⟨123, by decide, rfl, rfl⟩ (by decide) (by decide)
theorem own_d2_0 : decode method_3_code 0 = .ok (.iload_n 0, 1) := by decide +kernel
theorem own_d2_1 : decode method_3_code 1 = .ok (.iconst 1, 1) := by decide +kernel
theorem own_d2_2 : decode method_3_code 2 = .ok (.if_icmp .ne 18, 3) := by decide +kernel
theorem own_d2_5 : decode method_3_code 5 = .ok (.new 7, 3) := by decide +kernel
theorem own_d2_8 : decode method_3_code 8 = .ok (.dup, 1) := by decide +kernel
theorem own_d2_9 : decode method_3_code 9 = .ok (.iconst 1, 1) := by decide +kernel
theorem own_d2_10 : decode method_3_code 10 = .ok (.newarray .char, 2) := by decide +kernel
theorem own_d2_12 : decode method_3_code 12 = .ok (.dup, 1) := by decide +kernel
theorem own_d2_13 : decode method_3_code 13 = .ok (.iconst 0, 1) := by decide +kernel
theorem own_d2_14 : decode method_3_code 14 = .ok (.iload_n 1, 1) := by decide +kernel
theorem own_d2_15 : decode method_3_code 15 = .ok (.castore, 1) := by decide +kernel
theorem own_d2_16 : decode method_3_code 16 = .ok (.invokespecial 9, 3) := by decide +kernel
theorem own_d2_19 : decode method_3_code 19 = .ok (.areturn, 1) := by decide +kernel
theorem own_d2_20 : decode method_3_code 20 = .ok (.iload_n 0, 1) := by decide +kernel
theorem own_d2_21 : decode method_3_code 21 = .ok (.iconst 2, 1) := by decide +kernel
theorem own_d2_22 : decode method_3_code 22 = .ok (.if_icmp .ne 22, 3) := by decide +kernel
theorem own_d2_25 : decode method_3_code 25 = .ok (.new 7, 3) := by decide +kernel
theorem own_d2_28 : decode method_3_code 28 = .ok (.dup, 1) := by decide +kernel
theorem own_d2_29 : decode method_3_code 29 = .ok (.iconst 2, 1) := by decide +kernel
theorem own_d2_30 : decode method_3_code 30 = .ok (.newarray .char, 2) := by decide +kernel
theorem own_d2_32 : decode method_3_code 32 = .ok (.dup, 1) := by decide +kernel
theorem own_d2_33 : decode method_3_code 33 = .ok (.iconst 0, 1) := by decide +kernel
theorem own_d2_34 : decode method_3_code 34 = .ok (.iload_n 1, 1) := by decide +kernel
theorem own_d2_35 : decode method_3_code 35 = .ok (.castore, 1) := by decide +kernel
theorem own_d2_36 : decode method_3_code 36 = .ok (.dup, 1) := by decide +kernel
theorem own_d2_37 : decode method_3_code 37 = .ok (.iconst 1, 1) := by decide +kernel
theorem own_d2_38 : decode method_3_code 38 = .ok (.iload_n 2, 1) := by decide +kernel
theorem own_d2_39 : decode method_3_code 39 = .ok (.castore, 1) := by decide +kernel
theorem own_d2_40 : decode method_3_code 40 = .ok (.invokespecial 9, 3) := by decide +kernel
theorem own_d2_43 : decode method_3_code 43 = .ok (.areturn, 1) := by decide +kernel
theorem own_d2_44 : decode method_3_code 44 = .ok (.iload_n 0, 1) := by decide +kernel
theorem own_d2_45 : decode method_3_code 45 = .ok (.iconst 3, 1) := by decide +kernel
theorem own_d2_46 : decode method_3_code 46 = .ok (.if_icmp .ne 26, 3) := by decide +kernel
theorem own_d2_49 : decode method_3_code 49 = .ok (.new 7, 3) := by decide +kernel
theorem own_d2_52 : decode method_3_code 52 = .ok (.dup, 1) := by decide +kernel
theorem own_d2_53 : decode method_3_code 53 = .ok (.iconst 3, 1) := by decide +kernel
theorem own_d2_54 : decode method_3_code 54 = .ok (.newarray .char, 2) := by decide +kernel
theorem own_d2_56 : decode method_3_code 56 = .ok (.dup, 1) := by decide +kernel
theorem own_d2_57 : decode method_3_code 57 = .ok (.iconst 0, 1) := by decide +kernel
theorem own_d2_58 : decode method_3_code 58 = .ok (.iload_n 1, 1) := by decide +kernel
theorem own_d2_59 : decode method_3_code 59 = .ok (.castore, 1) := by decide +kernel
theorem own_d2_60 : decode method_3_code 60 = .ok (.dup, 1) := by decide +kernel
theorem own_d2_61 : decode method_3_code 61 = .ok (.iconst 1, 1) := by decide +kernel
theorem own_d2_62 : decode method_3_code 62 = .ok (.iload_n 2, 1) := by decide +kernel
theorem own_d2_63 : decode method_3_code 63 = .ok (.castore, 1) := by decide +kernel
theorem own_d2_64 : decode method_3_code 64 = .ok (.dup, 1) := by decide +kernel
theorem own_d2_65 : decode method_3_code 65 = .ok (.iconst 2, 1) := by decide +kernel
theorem own_d2_66 : decode method_3_code 66 = .ok (.iload_n 3, 1) := by decide +kernel
theorem own_d2_67 : decode method_3_code 67 = .ok (.castore, 1) := by decide +kernel
theorem own_d2_68 : decode method_3_code 68 = .ok (.invokespecial 9, 3) := by decide +kernel
theorem own_d2_71 : decode method_3_code 71 = .ok (.areturn, 1) := by decide +kernel
theorem own_d2_72 : decode method_3_code 72 = .ok (.new 7, 3) := by decide +kernel
theorem own_d2_75 : decode method_3_code 75 = .ok (.dup, 1) := by decide +kernel
theorem own_d2_76 : decode method_3_code 76 = .ok (.iconst 4, 1) := by decide +kernel
theorem own_d2_77 : decode method_3_code 77 = .ok (.newarray .char, 2) := by decide +kernel
theorem own_d2_79 : decode method_3_code 79 = .ok (.dup, 1) := by decide +kernel
theorem own_d2_80 : decode method_3_code 80 = .ok (.iconst 0, 1) := by decide +kernel
theorem own_d2_81 : decode method_3_code 81 = .ok (.iload_n 1, 1) := by decide +kernel
theorem own_d2_82 : decode method_3_code 82 = .ok (.castore, 1) := by decide +kernel
theorem own_d2_83 : decode method_3_code 83 = .ok (.dup, 1) := by decide +kernel
theorem own_d2_84 : decode method_3_code 84 = .ok (.iconst 1, 1) := by decide +kernel
theorem own_d2_85 : decode method_3_code 85 = .ok (.iload_n 2, 1) := by decide +kernel
theorem own_d2_86 : decode method_3_code 86 = .ok (.castore, 1) := by decide +kernel
theorem own_d2_87 : decode method_3_code 87 = .ok (.dup, 1) := by decide +kernel
theorem own_d2_88 : decode method_3_code 88 = .ok (.iconst 2, 1) := by decide +kernel
theorem own_d2_89 : decode method_3_code 89 = .ok (.iload_n 3, 1) := by decide +kernel
theorem own_d2_90 : decode method_3_code 90 = .ok (.castore, 1) := by decide +kernel
theorem own_d2_91 : decode method_3_code 91 = .ok (.dup, 1) := by decide +kernel
theorem own_d2_92 : decode method_3_code 92 = .ok (.iconst 3, 1) := by decide +kernel
theorem own_d2_93 : decode method_3_code 93 = .ok (.iload 4, 2) := by decide +kernel
theorem own_d2_95 : decode method_3_code 95 = .ok (.castore, 1) := by decide +kernel
theorem own_d2_96 : decode method_3_code 96 = .ok (.invokespecial 9, 3) := by decide +kernel
theorem own_d2_99 : decode method_3_code 99 = .ok (.areturn, 1) := by decide +kernel
theorem own_pd_pICCCCqLjava_lang_Stringe : parseMethodDescriptor "(ICCCC)Ljava/lang/String;" = some ⟨[.int, .char, .char, .char, .char], some (.object "java/lang/String")⟩ := by decide +kernel
theorem own_ef_own_d2 (m : MethodId) (x0 : Int32) (x1 : Int32) (x2 : Int32) (x3 : Int32) (x4 : Int32) : entryFrame m #[(.int x0), (.int x1), (.int x2), (.int x3), (.int x4)] 5 = mkF m 0 #[.val (.int x0), .val (.int x1), .val (.int x2), .val (.int x3), .val (.int x4)] [] := by
  first | (simp [entryFrame, mkF, argsToLocals, Value.category]; done) | rfl
set_option maxRecDepth 65536 in
set_option maxHeartbeats 40000000 in
theorem own_make1 (l : Launch) (Z : State) (a0 : Array Value) (hw : ∀ d ∈ tables_1, d.before a0 Z = true) (ka kb kc kd : Nat) (G1 : Int32) (hG : ¬ G1 = 0) (SG : Sta Z Z.heap "java/lang/String" "COMPACT_STRINGS" "Z" (.int G1)) (h0 : Heap) (n0 : Nat) (O : Old Z n0 h0) (hka : ka < 256) (hkb : kb < 256) (hkc : kc < 256) (hkd : kd < 256) :
    Ctr l Z n0 (⟨"com/example/cluster_lock/clusterlock/redis/LockKeysHashTagPinLaw", "make", "(ICCCC)Ljava/lang/String;"⟩ : MethodName) method_3_code 5 (some (.object "java/lang/String")) [] ({ frames := 4, cells := 3, slots := 21, locals := 66 } : Room) #[(.int (1 : Int32)), (.int (Int32.ofNat ka)), (.int (Int32.ofNat kb)), (.int (Int32.ofNat kc)), (.int (Int32.ofNat kd))] h0 [] (fun v h => ∃ a t ct, v = some (.ref a) ∧ h0.size ≤ a ∧ a < t ∧ StrL Z h a t ct [ka]) := by
  refine enter (plainFor_of_name own_pn_com_example_cluster_lock_clusterlock_redis_LockKeysHashTagPinLaw) (fun m => own_ef_own_d2 m (1 : Int32) (Int32.ofNat ka) (Int32.ofNat kb) (Int32.ofNat kc) (Int32.ofNat kd)) O (fun _ q => nomatch q) ?_
  intro p e s m below meth c T w
  refine i_iloadN w own_d2_0 rfl (pc' := 1) rfl ?_
  refine i_iconst w own_d2_1 (z := (1 : Int32)) (by decide) (pc' := 2) rfl ?_
  refine i_icmp_ne_N w rfl own_d2_2 (pc' := 5) rfl ?_
  refine i_new w own_d2_5 (hw _ (List.mem_of_getElem? (i := 7) rfl)) (hw _ (List.mem_of_getElem? (i := 8) rfl)) (hw _ (List.mem_of_getElem? (i := 9) rfl)) (by decide) (by decide) (pc' := 8) rfl ?_
  intro a T63 h63 g_a w63 z_a E63 A_a D_a
  show Goes p e below _ T63 (mkF m 8 #[.val (.int (1 : Int32)), .val (.int (Int32.ofNat ka)), .val (.int (Int32.ofNat kb)), .val (.int (Int32.ofNat kc)), .val (.int (Int32.ofNat kd))] [(.ref a)])
  have Fv : Fld Z h63 a ST "value" "[B" .null := D_a (Or.inr (hw _ (List.mem_of_getElem? (i := 36) rfl))) (ty := .array .byte) (by decide)
  have Fc : Fld Z h63 a ST "coder" "B" (.int 0) := D_a (Or.inr (hw _ (List.mem_of_getElem? (i := 34) rfl))) (ty := .byte) (by decide)
  refine i_dup w63 own_d2_8 rfl (pc' := 9) rfl ?_
  refine i_iconst w63 own_d2_9 (z := (1 : Int32)) (by decide) (pc' := 10) rfl ?_
  refine i_newP w63 own_d2_10 (hw _ (List.mem_of_getElem? (i := 10) rfl)) (N := 1) rfl (by decide) (cap := 1) (by decide) (by decide) (by decide) (by decide) (pc' := 12) rfl ?_
  intro b T65 h65 ca_b g_b w65 z_b E65 A_b
  show Goes p e below _ T65 (mkF m 12 #[.val (.int (1 : Int32)), .val (.int (Int32.ofNat ka)), .val (.int (Int32.ofNat kb)), .val (.int (Int32.ofNat kc)), .val (.int (Int32.ofNat kd))] [(.ref b), (.ref a), (.ref a)])
  have lt_a_b : a < b := Nat.lt_of_lt_of_le A_a.lt (Nat.le_of_eq g_b.symm)
  have E_a_66 := A_a.ext E65
  have Fv_66 := Fv.ext E65
  have Fc_66 := Fc.ext E65
  refine i_dup w65 own_d2_12 rfl (pc' := 13) rfl ?_
  refine i_iconst w65 own_d2_13 (z := (0 : Int32)) (by decide) (pc' := 14) rfl ?_
  refine i_iloadN w65 own_d2_14 rfl (pc' := 15) rfl ?_
  refine i_castore w65 own_d2_15 A_b (i := 0) rfl (Nat.le_of_ble_eq_true rfl) (Or.inr z_b) (pc' := 16) rfl ?_
  intro T67 h67 w67 K67 Ab_0
  show Goes p e below _ T67 (mkF m 16 #[.val (.int (1 : Int32)), .val (.int (Int32.ofNat ka)), .val (.int (Int32.ofNat kb)), .val (.int (Int32.ofNat kc)), .val (.int (Int32.ofNat kd))] [(.ref b), (.ref a), (.ref a)])
  have E_a_68 := E_a_66.keep K67
  have Fv_68 := Fv_66.keep K67 (ninS (Nat.ne_of_lt lt_a_b) nin0)
  have Fc_68 := Fc_66.keep K67 (ninS (Nat.ne_of_lt lt_a_b) nin0)
  rw [char_of_nat (show ka < 65536 by omega)] at Ab_0
  refine c_special w67 (y := (⟨"java/lang/String", "<init>", "([C)V"⟩ : MethodName)) (a := a) (argsL := [(.ref b)]) (st := [(.ref a)]) own_d2_16 rfl (hw _ (List.mem_of_getElem? (i := 11) rfl)) (hw _ (List.mem_of_getElem? (i := 12) rfl)) (hw _ (List.mem_of_getElem? (i := 9) rfl)) (hw _ (List.mem_of_getElem? (i := 13) rfl)) (by decide) own_pd_pACqV rfl (own_new1 l Z a0 hw a b ca_b [ka] G1 hG SG h67 n0 w67.old (Nat.le_trans w67.n0h0 z_a) (fun c hc => by simp at hc; omega) (Nat.le_of_ble_eq_true rfl) (Nat.le_of_ble_eq_true rfl) E_a_68 Fv_68 Fc_68 Ab_0) rfl (by decide) (W := 1) (Nat.le_of_eq rfl) (by decide) (by decide) (by decide) (allS (Or.inr z_a) all0) (pc' := 19) rfl ?_
  intro v69 T69 h69 w69 K69 q69
  obtain ⟨rfl, t, ct, zt, St⟩ := q69
  show Goes p e below _ T69 (mkF m 19 #[.val (.int (1 : Int32)), .val (.int (Int32.ofNat ka)), .val (.int (Int32.ofNat kb)), .val (.int (Int32.ofNat kc)), .val (.int (Int32.ofNat kd))] [(.ref a)])
  have lt_a_t : a < t := Nat.lt_of_lt_of_le E_a_68.lt zt
  have lt_b_t : b < t := Nat.lt_of_lt_of_le Ab_0.lt zt
  have E_a_70 := E_a_68.keep K69
  have A_b_70 := Ab_0.keep K69 (ninS (Nat.ne_of_gt lt_a_b) nin0)
  exact i_retA w69 own_d2_19 rfl rfl rfl ⟨a, t, ct, rfl, z_a, lt_a_t, St⟩ (by decide) (by decide)
set_option maxRecDepth 65536 in
set_option maxHeartbeats 40000000 in
theorem own_make2 (l : Launch) (Z : State) (a0 : Array Value) (hw : ∀ d ∈ tables_1, d.before a0 Z = true) (ka kb kc kd : Nat) (G1 : Int32) (hG : ¬ G1 = 0) (SG : Sta Z Z.heap "java/lang/String" "COMPACT_STRINGS" "Z" (.int G1)) (h0 : Heap) (n0 : Nat) (O : Old Z n0 h0) (hka : ka < 256) (hkb : kb < 256) (hkc : kc < 256) (hkd : kd < 256) :
    Ctr l Z n0 (⟨"com/example/cluster_lock/clusterlock/redis/LockKeysHashTagPinLaw", "make", "(ICCCC)Ljava/lang/String;"⟩ : MethodName) method_3_code 5 (some (.object "java/lang/String")) [] ({ frames := 4, cells := 3, slots := 22, locals := 66 } : Room) #[(.int (2 : Int32)), (.int (Int32.ofNat ka)), (.int (Int32.ofNat kb)), (.int (Int32.ofNat kc)), (.int (Int32.ofNat kd))] h0 [] (fun v h => ∃ a t ct, v = some (.ref a) ∧ h0.size ≤ a ∧ a < t ∧ StrL Z h a t ct [ka, kb]) := by
  refine enter (plainFor_of_name own_pn_com_example_cluster_lock_clusterlock_redis_LockKeysHashTagPinLaw) (fun m => own_ef_own_d2 m (2 : Int32) (Int32.ofNat ka) (Int32.ofNat kb) (Int32.ofNat kc) (Int32.ofNat kd)) O (fun _ q => nomatch q) ?_
  intro p e s m below meth c T w
  refine i_iloadN w own_d2_0 rfl (pc' := 1) rfl ?_
  refine i_iconst w own_d2_1 (z := (1 : Int32)) (by decide) (pc' := 2) rfl ?_
  refine i_icmp_ne_Y w (by decide) own_d2_2 (pc' := 20) (by decide) ?_
  refine i_iloadN w own_d2_20 rfl (pc' := 21) rfl ?_
  refine i_iconst w own_d2_21 (z := (2 : Int32)) (by decide) (pc' := 22) rfl ?_
  refine i_icmp_ne_N w rfl own_d2_22 (pc' := 25) rfl ?_
  refine i_new w own_d2_25 (hw _ (List.mem_of_getElem? (i := 7) rfl)) (hw _ (List.mem_of_getElem? (i := 8) rfl)) (hw _ (List.mem_of_getElem? (i := 9) rfl)) (by decide) (by decide) (pc' := 28) rfl ?_
  intro a T71 h71 g_a w71 z_a E71 A_a D_a
  show Goes p e below _ T71 (mkF m 28 #[.val (.int (2 : Int32)), .val (.int (Int32.ofNat ka)), .val (.int (Int32.ofNat kb)), .val (.int (Int32.ofNat kc)), .val (.int (Int32.ofNat kd))] [(.ref a)])
  have Fv : Fld Z h71 a ST "value" "[B" .null := D_a (Or.inr (hw _ (List.mem_of_getElem? (i := 36) rfl))) (ty := .array .byte) (by decide)
  have Fc : Fld Z h71 a ST "coder" "B" (.int 0) := D_a (Or.inr (hw _ (List.mem_of_getElem? (i := 34) rfl))) (ty := .byte) (by decide)
  refine i_dup w71 own_d2_28 rfl (pc' := 29) rfl ?_
  refine i_iconst w71 own_d2_29 (z := (2 : Int32)) (by decide) (pc' := 30) rfl ?_
  refine i_newP w71 own_d2_30 (hw _ (List.mem_of_getElem? (i := 10) rfl)) (N := 2) rfl (by decide) (cap := 2) (by decide) (by decide) (by decide) (by decide) (pc' := 32) rfl ?_
  intro b T73 h73 ca_b g_b w73 z_b E73 A_b
  show Goes p e below _ T73 (mkF m 32 #[.val (.int (2 : Int32)), .val (.int (Int32.ofNat ka)), .val (.int (Int32.ofNat kb)), .val (.int (Int32.ofNat kc)), .val (.int (Int32.ofNat kd))] [(.ref b), (.ref a), (.ref a)])
  have lt_a_b : a < b := Nat.lt_of_lt_of_le A_a.lt (Nat.le_of_eq g_b.symm)
  have E_a_74 := A_a.ext E73
  have Fv_74 := Fv.ext E73
  have Fc_74 := Fc.ext E73
  refine i_dup w73 own_d2_32 rfl (pc' := 33) rfl ?_
  refine i_iconst w73 own_d2_33 (z := (0 : Int32)) (by decide) (pc' := 34) rfl ?_
  refine i_iloadN w73 own_d2_34 rfl (pc' := 35) rfl ?_
  refine i_castore w73 own_d2_35 A_b (i := 0) rfl (Nat.le_of_ble_eq_true rfl) (Or.inr z_b) (pc' := 36) rfl ?_
  intro T75 h75 w75 K75 Ab_0
  show Goes p e below _ T75 (mkF m 36 #[.val (.int (2 : Int32)), .val (.int (Int32.ofNat ka)), .val (.int (Int32.ofNat kb)), .val (.int (Int32.ofNat kc)), .val (.int (Int32.ofNat kd))] [(.ref b), (.ref a), (.ref a)])
  have E_a_76 := E_a_74.keep K75
  have Fv_76 := Fv_74.keep K75 (ninS (Nat.ne_of_lt lt_a_b) nin0)
  have Fc_76 := Fc_74.keep K75 (ninS (Nat.ne_of_lt lt_a_b) nin0)
  rw [char_of_nat (show ka < 65536 by omega)] at Ab_0
  refine i_dup w75 own_d2_36 rfl (pc' := 37) rfl ?_
  refine i_iconst w75 own_d2_37 (z := (1 : Int32)) (by decide) (pc' := 38) rfl ?_
  refine i_iloadN w75 own_d2_38 rfl (pc' := 39) rfl ?_
  refine i_castore w75 own_d2_39 Ab_0 (i := 1) rfl (Nat.le_of_ble_eq_true rfl) (Or.inr z_b) (pc' := 40) rfl ?_
  intro T77 h77 w77 K77 Ab_1
  show Goes p e below _ T77 (mkF m 40 #[.val (.int (2 : Int32)), .val (.int (Int32.ofNat ka)), .val (.int (Int32.ofNat kb)), .val (.int (Int32.ofNat kc)), .val (.int (Int32.ofNat kd))] [(.ref b), (.ref a), (.ref a)])
  have E_a_78 := E_a_76.keep K77
  have Fv_78 := Fv_76.keep K77 (ninS (Nat.ne_of_lt lt_a_b) nin0)
  have Fc_78 := Fc_76.keep K77 (ninS (Nat.ne_of_lt lt_a_b) nin0)
  rw [char_of_nat (show kb < 65536 by omega)] at Ab_1
  refine c_special w77 (y := (⟨"java/lang/String", "<init>", "([C)V"⟩ : MethodName)) (a := a) (argsL := [(.ref b)]) (st := [(.ref a)]) own_d2_40 rfl (hw _ (List.mem_of_getElem? (i := 11) rfl)) (hw _ (List.mem_of_getElem? (i := 12) rfl)) (hw _ (List.mem_of_getElem? (i := 9) rfl)) (hw _ (List.mem_of_getElem? (i := 13) rfl)) (by decide) own_pd_pACqV rfl (own_new1 l Z a0 hw a b ca_b [ka, kb] G1 hG SG h77 n0 w77.old (Nat.le_trans w77.n0h0 z_a) (fun c hc => by simp at hc; omega) (Nat.le_of_ble_eq_true rfl) (Nat.le_of_ble_eq_true rfl) E_a_78 Fv_78 Fc_78 Ab_1) rfl (by decide) (W := 1) (Nat.le_of_eq rfl) (by decide) (by decide) (by decide) (allS (Or.inr z_a) all0) (pc' := 43) rfl ?_
  intro v79 T79 h79 w79 K79 q79
  obtain ⟨rfl, t, ct, zt, St⟩ := q79
  show Goes p e below _ T79 (mkF m 43 #[.val (.int (2 : Int32)), .val (.int (Int32.ofNat ka)), .val (.int (Int32.ofNat kb)), .val (.int (Int32.ofNat kc)), .val (.int (Int32.ofNat kd))] [(.ref a)])
  have lt_a_t : a < t := Nat.lt_of_lt_of_le E_a_78.lt zt
  have lt_b_t : b < t := Nat.lt_of_lt_of_le Ab_1.lt zt
  have E_a_80 := E_a_78.keep K79
  have A_b_80 := Ab_1.keep K79 (ninS (Nat.ne_of_gt lt_a_b) nin0)
  exact i_retA w79 own_d2_43 rfl rfl rfl ⟨a, t, ct, rfl, z_a, lt_a_t, St⟩ (by decide) (by decide)
set_option maxRecDepth 65536 in
set_option maxHeartbeats 40000000 in
theorem own_make3 (l : Launch) (Z : State) (a0 : Array Value) (hw : ∀ d ∈ tables_1, d.before a0 Z = true) (ka kb kc kd : Nat) (G1 : Int32) (hG : ¬ G1 = 0) (SG : Sta Z Z.heap "java/lang/String" "COMPACT_STRINGS" "Z" (.int G1)) (h0 : Heap) (n0 : Nat) (O : Old Z n0 h0) (hka : ka < 256) (hkb : kb < 256) (hkc : kc < 256) (hkd : kd < 256) :
    Ctr l Z n0 (⟨"com/example/cluster_lock/clusterlock/redis/LockKeysHashTagPinLaw", "make", "(ICCCC)Ljava/lang/String;"⟩ : MethodName) method_3_code 5 (some (.object "java/lang/String")) [] ({ frames := 4, cells := 3, slots := 23, locals := 66 } : Room) #[(.int (3 : Int32)), (.int (Int32.ofNat ka)), (.int (Int32.ofNat kb)), (.int (Int32.ofNat kc)), (.int (Int32.ofNat kd))] h0 [] (fun v h => ∃ a t ct, v = some (.ref a) ∧ h0.size ≤ a ∧ a < t ∧ StrL Z h a t ct [ka, kb, kc]) := by
  refine enter (plainFor_of_name own_pn_com_example_cluster_lock_clusterlock_redis_LockKeysHashTagPinLaw) (fun m => own_ef_own_d2 m (3 : Int32) (Int32.ofNat ka) (Int32.ofNat kb) (Int32.ofNat kc) (Int32.ofNat kd)) O (fun _ q => nomatch q) ?_
  intro p e s m below meth c T w
  refine i_iloadN w own_d2_0 rfl (pc' := 1) rfl ?_
  refine i_iconst w own_d2_1 (z := (1 : Int32)) (by decide) (pc' := 2) rfl ?_
  refine i_icmp_ne_Y w (by decide) own_d2_2 (pc' := 20) (by decide) ?_
  refine i_iloadN w own_d2_20 rfl (pc' := 21) rfl ?_
  refine i_iconst w own_d2_21 (z := (2 : Int32)) (by decide) (pc' := 22) rfl ?_
  refine i_icmp_ne_Y w (by decide) own_d2_22 (pc' := 44) (by decide) ?_
  refine i_iloadN w own_d2_44 rfl (pc' := 45) rfl ?_
  refine i_iconst w own_d2_45 (z := (3 : Int32)) (by decide) (pc' := 46) rfl ?_
  refine i_icmp_ne_N w rfl own_d2_46 (pc' := 49) rfl ?_
  refine i_new w own_d2_49 (hw _ (List.mem_of_getElem? (i := 7) rfl)) (hw _ (List.mem_of_getElem? (i := 8) rfl)) (hw _ (List.mem_of_getElem? (i := 9) rfl)) (by decide) (by decide) (pc' := 52) rfl ?_
  intro a T81 h81 g_a w81 z_a E81 A_a D_a
  show Goes p e below _ T81 (mkF m 52 #[.val (.int (3 : Int32)), .val (.int (Int32.ofNat ka)), .val (.int (Int32.ofNat kb)), .val (.int (Int32.ofNat kc)), .val (.int (Int32.ofNat kd))] [(.ref a)])
  have Fv : Fld Z h81 a ST "value" "[B" .null := D_a (Or.inr (hw _ (List.mem_of_getElem? (i := 36) rfl))) (ty := .array .byte) (by decide)
  have Fc : Fld Z h81 a ST "coder" "B" (.int 0) := D_a (Or.inr (hw _ (List.mem_of_getElem? (i := 34) rfl))) (ty := .byte) (by decide)
  refine i_dup w81 own_d2_52 rfl (pc' := 53) rfl ?_
  refine i_iconst w81 own_d2_53 (z := (3 : Int32)) (by decide) (pc' := 54) rfl ?_
  refine i_newP w81 own_d2_54 (hw _ (List.mem_of_getElem? (i := 10) rfl)) (N := 3) rfl (by decide) (cap := 3) (by decide) (by decide) (by decide) (by decide) (pc' := 56) rfl ?_
  intro b T83 h83 ca_b g_b w83 z_b E83 A_b
  show Goes p e below _ T83 (mkF m 56 #[.val (.int (3 : Int32)), .val (.int (Int32.ofNat ka)), .val (.int (Int32.ofNat kb)), .val (.int (Int32.ofNat kc)), .val (.int (Int32.ofNat kd))] [(.ref b), (.ref a), (.ref a)])
  have lt_a_b : a < b := Nat.lt_of_lt_of_le A_a.lt (Nat.le_of_eq g_b.symm)
  have E_a_84 := A_a.ext E83
  have Fv_84 := Fv.ext E83
  have Fc_84 := Fc.ext E83
  refine i_dup w83 own_d2_56 rfl (pc' := 57) rfl ?_
  refine i_iconst w83 own_d2_57 (z := (0 : Int32)) (by decide) (pc' := 58) rfl ?_
  refine i_iloadN w83 own_d2_58 rfl (pc' := 59) rfl ?_
  refine i_castore w83 own_d2_59 A_b (i := 0) rfl (Nat.le_of_ble_eq_true rfl) (Or.inr z_b) (pc' := 60) rfl ?_
  intro T85 h85 w85 K85 Ab_0
  show Goes p e below _ T85 (mkF m 60 #[.val (.int (3 : Int32)), .val (.int (Int32.ofNat ka)), .val (.int (Int32.ofNat kb)), .val (.int (Int32.ofNat kc)), .val (.int (Int32.ofNat kd))] [(.ref b), (.ref a), (.ref a)])
  have E_a_86 := E_a_84.keep K85
  have Fv_86 := Fv_84.keep K85 (ninS (Nat.ne_of_lt lt_a_b) nin0)
  have Fc_86 := Fc_84.keep K85 (ninS (Nat.ne_of_lt lt_a_b) nin0)
  rw [char_of_nat (show ka < 65536 by omega)] at Ab_0
  refine i_dup w85 own_d2_60 rfl (pc' := 61) rfl ?_
  refine i_iconst w85 own_d2_61 (z := (1 : Int32)) (by decide) (pc' := 62) rfl ?_
  refine i_iloadN w85 own_d2_62 rfl (pc' := 63) rfl ?_
  refine i_castore w85 own_d2_63 Ab_0 (i := 1) rfl (Nat.le_of_ble_eq_true rfl) (Or.inr z_b) (pc' := 64) rfl ?_
  intro T87 h87 w87 K87 Ab_1
  show Goes p e below _ T87 (mkF m 64 #[.val (.int (3 : Int32)), .val (.int (Int32.ofNat ka)), .val (.int (Int32.ofNat kb)), .val (.int (Int32.ofNat kc)), .val (.int (Int32.ofNat kd))] [(.ref b), (.ref a), (.ref a)])
  have E_a_88 := E_a_86.keep K87
  have Fv_88 := Fv_86.keep K87 (ninS (Nat.ne_of_lt lt_a_b) nin0)
  have Fc_88 := Fc_86.keep K87 (ninS (Nat.ne_of_lt lt_a_b) nin0)
  rw [char_of_nat (show kb < 65536 by omega)] at Ab_1
  refine i_dup w87 own_d2_64 rfl (pc' := 65) rfl ?_
  refine i_iconst w87 own_d2_65 (z := (2 : Int32)) (by decide) (pc' := 66) rfl ?_
  refine i_iloadN w87 own_d2_66 rfl (pc' := 67) rfl ?_
  refine i_castore w87 own_d2_67 Ab_1 (i := 2) rfl (Nat.le_of_ble_eq_true rfl) (Or.inr z_b) (pc' := 68) rfl ?_
  intro T89 h89 w89 K89 Ab_2
  show Goes p e below _ T89 (mkF m 68 #[.val (.int (3 : Int32)), .val (.int (Int32.ofNat ka)), .val (.int (Int32.ofNat kb)), .val (.int (Int32.ofNat kc)), .val (.int (Int32.ofNat kd))] [(.ref b), (.ref a), (.ref a)])
  have E_a_90 := E_a_88.keep K89
  have Fv_90 := Fv_88.keep K89 (ninS (Nat.ne_of_lt lt_a_b) nin0)
  have Fc_90 := Fc_88.keep K89 (ninS (Nat.ne_of_lt lt_a_b) nin0)
  rw [char_of_nat (show kc < 65536 by omega)] at Ab_2
  refine c_special w89 (y := (⟨"java/lang/String", "<init>", "([C)V"⟩ : MethodName)) (a := a) (argsL := [(.ref b)]) (st := [(.ref a)]) own_d2_68 rfl (hw _ (List.mem_of_getElem? (i := 11) rfl)) (hw _ (List.mem_of_getElem? (i := 12) rfl)) (hw _ (List.mem_of_getElem? (i := 9) rfl)) (hw _ (List.mem_of_getElem? (i := 13) rfl)) (by decide) own_pd_pACqV rfl (own_new1 l Z a0 hw a b ca_b [ka, kb, kc] G1 hG SG h89 n0 w89.old (Nat.le_trans w89.n0h0 z_a) (fun c hc => by simp at hc; omega) (Nat.le_of_ble_eq_true rfl) (Nat.le_of_ble_eq_true rfl) E_a_90 Fv_90 Fc_90 Ab_2) rfl (by decide) (W := 1) (Nat.le_of_eq rfl) (by decide) (by decide) (by decide) (allS (Or.inr z_a) all0) (pc' := 71) rfl ?_
  intro v91 T91 h91 w91 K91 q91
  obtain ⟨rfl, t, ct, zt, St⟩ := q91
  show Goes p e below _ T91 (mkF m 71 #[.val (.int (3 : Int32)), .val (.int (Int32.ofNat ka)), .val (.int (Int32.ofNat kb)), .val (.int (Int32.ofNat kc)), .val (.int (Int32.ofNat kd))] [(.ref a)])
  have lt_a_t : a < t := Nat.lt_of_lt_of_le E_a_90.lt zt
  have lt_b_t : b < t := Nat.lt_of_lt_of_le Ab_2.lt zt
  have E_a_92 := E_a_90.keep K91
  have A_b_92 := Ab_2.keep K91 (ninS (Nat.ne_of_gt lt_a_b) nin0)
  exact i_retA w91 own_d2_71 rfl rfl rfl ⟨a, t, ct, rfl, z_a, lt_a_t, St⟩ (by decide) (by decide)
set_option maxRecDepth 65536 in
set_option maxHeartbeats 40000000 in
theorem own_make4 (l : Launch) (Z : State) (a0 : Array Value) (hw : ∀ d ∈ tables_1, d.before a0 Z = true) (ka kb kc kd : Nat) (G1 : Int32) (hG : ¬ G1 = 0) (SG : Sta Z Z.heap "java/lang/String" "COMPACT_STRINGS" "Z" (.int G1)) (h0 : Heap) (n0 : Nat) (O : Old Z n0 h0) (hka : ka < 256) (hkb : kb < 256) (hkc : kc < 256) (hkd : kd < 256) :
    Ctr l Z n0 (⟨"com/example/cluster_lock/clusterlock/redis/LockKeysHashTagPinLaw", "make", "(ICCCC)Ljava/lang/String;"⟩ : MethodName) method_3_code 5 (some (.object "java/lang/String")) [] ({ frames := 4, cells := 3, slots := 24, locals := 66 } : Room) #[(.int (4 : Int32)), (.int (Int32.ofNat ka)), (.int (Int32.ofNat kb)), (.int (Int32.ofNat kc)), (.int (Int32.ofNat kd))] h0 [] (fun v h => ∃ a t ct, v = some (.ref a) ∧ h0.size ≤ a ∧ a < t ∧ StrL Z h a t ct [ka, kb, kc, kd]) := by
  refine enter (plainFor_of_name own_pn_com_example_cluster_lock_clusterlock_redis_LockKeysHashTagPinLaw) (fun m => own_ef_own_d2 m (4 : Int32) (Int32.ofNat ka) (Int32.ofNat kb) (Int32.ofNat kc) (Int32.ofNat kd)) O (fun _ q => nomatch q) ?_
  intro p e s m below meth c T w
  refine i_iloadN w own_d2_0 rfl (pc' := 1) rfl ?_
  refine i_iconst w own_d2_1 (z := (1 : Int32)) (by decide) (pc' := 2) rfl ?_
  refine i_icmp_ne_Y w (by decide) own_d2_2 (pc' := 20) (by decide) ?_
  refine i_iloadN w own_d2_20 rfl (pc' := 21) rfl ?_
  refine i_iconst w own_d2_21 (z := (2 : Int32)) (by decide) (pc' := 22) rfl ?_
  refine i_icmp_ne_Y w (by decide) own_d2_22 (pc' := 44) (by decide) ?_
  refine i_iloadN w own_d2_44 rfl (pc' := 45) rfl ?_
  refine i_iconst w own_d2_45 (z := (3 : Int32)) (by decide) (pc' := 46) rfl ?_
  refine i_icmp_ne_Y w (by decide) own_d2_46 (pc' := 72) (by decide) ?_
  refine i_new w own_d2_72 (hw _ (List.mem_of_getElem? (i := 7) rfl)) (hw _ (List.mem_of_getElem? (i := 8) rfl)) (hw _ (List.mem_of_getElem? (i := 9) rfl)) (by decide) (by decide) (pc' := 75) rfl ?_
  intro a T93 h93 g_a w93 z_a E93 A_a D_a
  show Goes p e below _ T93 (mkF m 75 #[.val (.int (4 : Int32)), .val (.int (Int32.ofNat ka)), .val (.int (Int32.ofNat kb)), .val (.int (Int32.ofNat kc)), .val (.int (Int32.ofNat kd))] [(.ref a)])
  have Fv : Fld Z h93 a ST "value" "[B" .null := D_a (Or.inr (hw _ (List.mem_of_getElem? (i := 36) rfl))) (ty := .array .byte) (by decide)
  have Fc : Fld Z h93 a ST "coder" "B" (.int 0) := D_a (Or.inr (hw _ (List.mem_of_getElem? (i := 34) rfl))) (ty := .byte) (by decide)
  refine i_dup w93 own_d2_75 rfl (pc' := 76) rfl ?_
  refine i_iconst w93 own_d2_76 (z := (4 : Int32)) (by decide) (pc' := 77) rfl ?_
  refine i_newP w93 own_d2_77 (hw _ (List.mem_of_getElem? (i := 10) rfl)) (N := 4) rfl (by decide) (cap := 4) (by decide) (by decide) (by decide) (by decide) (pc' := 79) rfl ?_
  intro b T95 h95 ca_b g_b w95 z_b E95 A_b
  show Goes p e below _ T95 (mkF m 79 #[.val (.int (4 : Int32)), .val (.int (Int32.ofNat ka)), .val (.int (Int32.ofNat kb)), .val (.int (Int32.ofNat kc)), .val (.int (Int32.ofNat kd))] [(.ref b), (.ref a), (.ref a)])
  have lt_a_b : a < b := Nat.lt_of_lt_of_le A_a.lt (Nat.le_of_eq g_b.symm)
  have E_a_96 := A_a.ext E95
  have Fv_96 := Fv.ext E95
  have Fc_96 := Fc.ext E95
  refine i_dup w95 own_d2_79 rfl (pc' := 80) rfl ?_
  refine i_iconst w95 own_d2_80 (z := (0 : Int32)) (by decide) (pc' := 81) rfl ?_
  refine i_iloadN w95 own_d2_81 rfl (pc' := 82) rfl ?_
  refine i_castore w95 own_d2_82 A_b (i := 0) rfl (Nat.le_of_ble_eq_true rfl) (Or.inr z_b) (pc' := 83) rfl ?_
  intro T97 h97 w97 K97 Ab_0
  show Goes p e below _ T97 (mkF m 83 #[.val (.int (4 : Int32)), .val (.int (Int32.ofNat ka)), .val (.int (Int32.ofNat kb)), .val (.int (Int32.ofNat kc)), .val (.int (Int32.ofNat kd))] [(.ref b), (.ref a), (.ref a)])
  have E_a_98 := E_a_96.keep K97
  have Fv_98 := Fv_96.keep K97 (ninS (Nat.ne_of_lt lt_a_b) nin0)
  have Fc_98 := Fc_96.keep K97 (ninS (Nat.ne_of_lt lt_a_b) nin0)
  rw [char_of_nat (show ka < 65536 by omega)] at Ab_0
  refine i_dup w97 own_d2_83 rfl (pc' := 84) rfl ?_
  refine i_iconst w97 own_d2_84 (z := (1 : Int32)) (by decide) (pc' := 85) rfl ?_
  refine i_iloadN w97 own_d2_85 rfl (pc' := 86) rfl ?_
  refine i_castore w97 own_d2_86 Ab_0 (i := 1) rfl (Nat.le_of_ble_eq_true rfl) (Or.inr z_b) (pc' := 87) rfl ?_
  intro T99 h99 w99 K99 Ab_1
  show Goes p e below _ T99 (mkF m 87 #[.val (.int (4 : Int32)), .val (.int (Int32.ofNat ka)), .val (.int (Int32.ofNat kb)), .val (.int (Int32.ofNat kc)), .val (.int (Int32.ofNat kd))] [(.ref b), (.ref a), (.ref a)])
  have E_a_100 := E_a_98.keep K99
  have Fv_100 := Fv_98.keep K99 (ninS (Nat.ne_of_lt lt_a_b) nin0)
  have Fc_100 := Fc_98.keep K99 (ninS (Nat.ne_of_lt lt_a_b) nin0)
  rw [char_of_nat (show kb < 65536 by omega)] at Ab_1
  refine i_dup w99 own_d2_87 rfl (pc' := 88) rfl ?_
  refine i_iconst w99 own_d2_88 (z := (2 : Int32)) (by decide) (pc' := 89) rfl ?_
  refine i_iloadN w99 own_d2_89 rfl (pc' := 90) rfl ?_
  refine i_castore w99 own_d2_90 Ab_1 (i := 2) rfl (Nat.le_of_ble_eq_true rfl) (Or.inr z_b) (pc' := 91) rfl ?_
  intro T101 h101 w101 K101 Ab_2
  show Goes p e below _ T101 (mkF m 91 #[.val (.int (4 : Int32)), .val (.int (Int32.ofNat ka)), .val (.int (Int32.ofNat kb)), .val (.int (Int32.ofNat kc)), .val (.int (Int32.ofNat kd))] [(.ref b), (.ref a), (.ref a)])
  have E_a_102 := E_a_100.keep K101
  have Fv_102 := Fv_100.keep K101 (ninS (Nat.ne_of_lt lt_a_b) nin0)
  have Fc_102 := Fc_100.keep K101 (ninS (Nat.ne_of_lt lt_a_b) nin0)
  rw [char_of_nat (show kc < 65536 by omega)] at Ab_2
  refine i_dup w101 own_d2_91 rfl (pc' := 92) rfl ?_
  refine i_iconst w101 own_d2_92 (z := (3 : Int32)) (by decide) (pc' := 93) rfl ?_
  refine i_iload w101 own_d2_93 rfl (pc' := 95) rfl ?_
  refine i_castore w101 own_d2_95 Ab_2 (i := 3) rfl (Nat.le_of_ble_eq_true rfl) (Or.inr z_b) (pc' := 96) rfl ?_
  intro T103 h103 w103 K103 Ab_3
  show Goes p e below _ T103 (mkF m 96 #[.val (.int (4 : Int32)), .val (.int (Int32.ofNat ka)), .val (.int (Int32.ofNat kb)), .val (.int (Int32.ofNat kc)), .val (.int (Int32.ofNat kd))] [(.ref b), (.ref a), (.ref a)])
  have E_a_104 := E_a_102.keep K103
  have Fv_104 := Fv_102.keep K103 (ninS (Nat.ne_of_lt lt_a_b) nin0)
  have Fc_104 := Fc_102.keep K103 (ninS (Nat.ne_of_lt lt_a_b) nin0)
  rw [char_of_nat (show kd < 65536 by omega)] at Ab_3
  refine c_special w103 (y := (⟨"java/lang/String", "<init>", "([C)V"⟩ : MethodName)) (a := a) (argsL := [(.ref b)]) (st := [(.ref a)]) own_d2_96 rfl (hw _ (List.mem_of_getElem? (i := 11) rfl)) (hw _ (List.mem_of_getElem? (i := 12) rfl)) (hw _ (List.mem_of_getElem? (i := 9) rfl)) (hw _ (List.mem_of_getElem? (i := 13) rfl)) (by decide) own_pd_pACqV rfl (own_new1 l Z a0 hw a b ca_b [ka, kb, kc, kd] G1 hG SG h103 n0 w103.old (Nat.le_trans w103.n0h0 z_a) (fun c hc => by simp at hc; omega) (Nat.le_of_ble_eq_true rfl) (Nat.le_of_ble_eq_true rfl) E_a_104 Fv_104 Fc_104 Ab_3) rfl (by decide) (W := 1) (Nat.le_of_eq rfl) (by decide) (by decide) (by decide) (allS (Or.inr z_a) all0) (pc' := 99) rfl ?_
  intro v105 T105 h105 w105 K105 q105
  obtain ⟨rfl, t, ct, zt, St⟩ := q105
  show Goes p e below _ T105 (mkF m 99 #[.val (.int (4 : Int32)), .val (.int (Int32.ofNat ka)), .val (.int (Int32.ofNat kb)), .val (.int (Int32.ofNat kc)), .val (.int (Int32.ofNat kd))] [(.ref a)])
  have lt_a_t : a < t := Nat.lt_of_lt_of_le E_a_104.lt zt
  have lt_b_t : b < t := Nat.lt_of_lt_of_le Ab_3.lt zt
  have E_a_106 := E_a_104.keep K105
  have A_b_106 := Ab_3.keep K105 (ninS (Nat.ne_of_gt lt_a_b) nin0)
  exact i_retA w105 own_d2_99 rfl rfl rfl ⟨a, t, ct, rfl, z_a, lt_a_t, St⟩ (by decide) (by decide)
theorem own_d10_0 : decode method_4_code 0 = .ok (.iload_n 0, 1) := by decide +kernel
theorem own_d10_1 : decode method_4_code 1 = .ok (.ifCond .ne 5, 3) := by decide +kernel
theorem own_d10_4 : decode method_4_code 4 = .ok (.iload_n 1, 1) := by decide +kernel
theorem own_d10_5 : decode method_4_code 5 = .ok (.ireturn, 1) := by decide +kernel
theorem own_d10_6 : decode method_4_code 6 = .ok (.iload_n 0, 1) := by decide +kernel
theorem own_d10_7 : decode method_4_code 7 = .ok (.iconst 1, 1) := by decide +kernel
theorem own_d10_8 : decode method_4_code 8 = .ok (.if_icmp .ne 5, 3) := by decide +kernel
theorem own_d10_11 : decode method_4_code 11 = .ok (.iload_n 2, 1) := by decide +kernel
theorem own_d10_12 : decode method_4_code 12 = .ok (.ireturn, 1) := by decide +kernel
theorem own_d10_13 : decode method_4_code 13 = .ok (.iload_n 0, 1) := by decide +kernel
theorem own_d10_14 : decode method_4_code 14 = .ok (.iconst 2, 1) := by decide +kernel
theorem own_d10_15 : decode method_4_code 15 = .ok (.if_icmp .ne 5, 3) := by decide +kernel
theorem own_d10_18 : decode method_4_code 18 = .ok (.iload_n 3, 1) := by decide +kernel
theorem own_d10_19 : decode method_4_code 19 = .ok (.ireturn, 1) := by decide +kernel
theorem own_d10_20 : decode method_4_code 20 = .ok (.iload 4, 2) := by decide +kernel
theorem own_d10_22 : decode method_4_code 22 = .ok (.ireturn, 1) := by decide +kernel
theorem own_pd_pICCCCqC : parseMethodDescriptor "(ICCCC)C" = some ⟨[.int, .char, .char, .char, .char], some .char⟩ := by decide +kernel
theorem own_ef_own_d10 (m : MethodId) (x0 : Int32) (x1 : Int32) (x2 : Int32) (x3 : Int32) (x4 : Int32) : entryFrame m #[(.int x0), (.int x1), (.int x2), (.int x3), (.int x4)] 5 = mkF m 0 #[.val (.int x0), .val (.int x1), .val (.int x2), .val (.int x3), .val (.int x4)] [] := by
  first | (simp [entryFrame, mkF, argsToLocals, Value.category]; done) | rfl
set_option maxRecDepth 65536 in
set_option maxHeartbeats 40000000 in
theorem own_at (l : Launch) (Z : State) (a0 : Array Value) (hw : ∀ d ∈ tables_1, d.before a0 Z = true) (k ka kb kc kd : Nat) (h0 : Heap) (n0 : Nat) (O : Old Z n0 h0) (hk : k < 4) (hka : ka < 256) (hkb : kb < 256) (hkc : kc < 256) (hkd : kd < 256) :
    Ctr l Z n0 (⟨"com/example/cluster_lock/clusterlock/redis/LockKeysHashTagPinLaw", "at", "(ICCCC)C"⟩ : MethodName) method_4_code 5 (some .char) [] ({ frames := 0, cells := 0, slots := 0, locals := 0 } : Room) #[(.int (Int32.ofNat k)), (.int (Int32.ofNat ka)), (.int (Int32.ofNat kb)), (.int (Int32.ofNat kc)), (.int (Int32.ofNat kd))] h0 [] (fun v h => v = some (.int (Int32.ofNat (own_atN k ka kb kc kd))) ∧ h0 = h) := by
  refine enter (plainFor_of_name own_pn_com_example_cluster_lock_clusterlock_redis_LockKeysHashTagPinLaw) (fun m => own_ef_own_d10 m (Int32.ofNat k) (Int32.ofNat ka) (Int32.ofNat kb) (Int32.ofNat kc) (Int32.ofNat kd)) O (fun _ q => nomatch q) ?_
  intro p e s m below meth c T w
  refine i_iloadN w own_d10_0 rfl (pc' := 1) rfl ?_
  refine i_if_ne w own_d10_1 (pcY := 6) (by decide) (pc' := 4) rfl (fun hc1 => ?_) (fun hc1 => ?_)
  ·
    refine i_iloadN w own_d10_6 rfl (pc' := 7) rfl ?_
    refine i_iconst w own_d10_7 (z := (1 : Int32)) (by decide) (pc' := 8) rfl ?_
    refine i_icmp_ne w own_d10_8 (pcY := 13) (by decide) (pc' := 11) rfl (fun hc8 => ?_) (fun hc8 => ?_)
    ·
      refine i_iloadN w own_d10_13 rfl (pc' := 14) rfl ?_
      refine i_iconst w own_d10_14 (z := (2 : Int32)) (by decide) (pc' := 15) rfl ?_
      refine i_icmp_ne w own_d10_15 (pcY := 20) (by decide) (pc' := 18) rfl (fun hc15 => ?_) (fun hc15 => ?_)
      ·
        refine i_iload w own_d10_20 rfl (pc' := 22) rfl ?_
        exact i_retN w own_d10_22 rfl (by simp) ⟨by rw [char_of_nat (show kd < 65536 by omega)]; have q0 : ¬ k = 0 := fun q => hc1 ((own_ek hk (j := 0) (by decide)).mpr q); have q1 : ¬ k = 1 := fun q => hc8 ((own_ek hk (j := 1) (by decide)).mpr q); have q2 : ¬ k = 2 := fun q => hc15 ((own_ek hk (j := 2) (by decide)).mpr q); simp [own_atN, q0, q1, q2], rfl⟩ (by decide) (by decide)
      ·
        refine i_iloadN w own_d10_18 rfl (pc' := 19) rfl ?_
        exact i_retN w own_d10_19 rfl (by simp) ⟨by rw [char_of_nat (show kc < 65536 by omega)]; have q0 : ¬ k = 0 := fun q => hc1 ((own_ek hk (j := 0) (by decide)).mpr q); have q1 : ¬ k = 1 := fun q => hc8 ((own_ek hk (j := 1) (by decide)).mpr q); have q2 : k = 2 := (own_ek hk (j := 2) (by decide)).mp hc15; simp [own_atN, q0, q1, q2], rfl⟩ (by decide) (by decide)
    ·
      refine i_iloadN w own_d10_11 rfl (pc' := 12) rfl ?_
      exact i_retN w own_d10_12 rfl (by simp) ⟨by rw [char_of_nat (show kb < 65536 by omega)]; have q0 : ¬ k = 0 := fun q => hc1 ((own_ek hk (j := 0) (by decide)).mpr q); have q1 : k = 1 := (own_ek hk (j := 1) (by decide)).mp hc8; simp [own_atN, q0, q1], rfl⟩ (by decide) (by decide)
  ·
    refine i_iloadN w own_d10_4 rfl (pc' := 5) rfl ?_
    exact i_retN w own_d10_5 rfl (by simp) ⟨by rw [char_of_nat (show ka < 65536 by omega)]; have q0 : k = 0 := (own_ek hk (j := 0) (by decide)).mp hc1; simp [own_atN, q0], rfl⟩ (by decide) (by decide)
theorem own_d9_0 : decode method_5_code 0 = .ok (.iload_n 0, 1) := by decide +kernel
theorem own_d9_1 : decode method_5_code 1 = .ok (.iload_n 1, 1) := by decide +kernel
theorem own_d9_2 : decode method_5_code 2 = .ok (.if_icmp .ge 22, 3) := by decide +kernel
theorem own_d9_5 : decode method_5_code 5 = .ok (.iload_n 0, 1) := by decide +kernel
theorem own_d9_6 : decode method_5_code 6 = .ok (.iload_n 3, 1) := by decide +kernel
theorem own_d9_7 : decode method_5_code 7 = .ok (.iload 4, 2) := by decide +kernel
theorem own_d9_9 : decode method_5_code 9 = .ok (.iload 5, 2) := by decide +kernel
theorem own_d9_11 : decode method_5_code 11 = .ok (.iload 6, 2) := by decide +kernel
theorem own_d9_13 : decode method_5_code 13 = .ok (.invokestatic 12, 3) := by decide +kernel
theorem own_d9_16 : decode method_5_code 16 = .ok (.iload_n 2, 1) := by decide +kernel
theorem own_d9_17 : decode method_5_code 17 = .ok (.if_icmp .ne 7, 3) := by decide +kernel
theorem own_d9_20 : decode method_5_code 20 = .ok (.iconst 1, 1) := by decide +kernel
theorem own_d9_21 : decode method_5_code 21 = .ok (.goto 4, 3) := by decide +kernel
theorem own_d9_24 : decode method_5_code 24 = .ok (.iconst 0, 1) := by decide +kernel
theorem own_d9_25 : decode method_5_code 25 = .ok (.ireturn, 1) := by decide +kernel
theorem own_pd_pIICCCCCqZ : parseMethodDescriptor "(IICCCCC)Z" = some ⟨[.int, .int, .char, .char, .char, .char, .char], some .boolean⟩ := by decide +kernel
theorem own_ef_own_d9 (m : MethodId) (x0 : Int32) (x1 : Int32) (x2 : Int32) (x3 : Int32) (x4 : Int32) (x5 : Int32) (x6 : Int32) : entryFrame m #[(.int x0), (.int x1), (.int x2), (.int x3), (.int x4), (.int x5), (.int x6)] 7 = mkF m 0 #[.val (.int x0), .val (.int x1), .val (.int x2), .val (.int x3), .val (.int x4), .val (.int x5), .val (.int x6)] [] := by
  first | (simp [entryFrame, mkF, argsToLocals, Value.category]; done) | rfl
set_option maxRecDepth 65536 in
set_option maxHeartbeats 40000000 in
theorem own_is (l : Launch) (Z : State) (a0 : Array Value) (hw : ∀ d ∈ tables_1, d.before a0 Z = true) (k n want ka kb kc kd : Nat) (h0 : Heap) (n0 : Nat) (O : Old Z n0 h0) (hk : k < 4) (hn : n < 5) (hwt : want < 256) (hka : ka < 256) (hkb : kb < 256) (hkc : kc < 256) (hkd : kd < 256) :
    Ctr l Z n0 (⟨"com/example/cluster_lock/clusterlock/redis/LockKeysHashTagPinLaw", "is", "(IICCCCC)Z"⟩ : MethodName) method_5_code 7 (some .boolean) [] ({ frames := 1, cells := 0, slots := 0, locals := 16 } : Room) #[(.int (Int32.ofNat k)), (.int (Int32.ofNat n)), (.int (Int32.ofNat want)), (.int (Int32.ofNat ka)), (.int (Int32.ofNat kb)), (.int (Int32.ofNat kc)), (.int (Int32.ofNat kd))] h0 [] (fun v h => v = some (.int (if k < n ∧ own_atN k ka kb kc kd = want then 1 else 0)) ∧ h0 = h) := by
  refine enter (plainFor_of_name own_pn_com_example_cluster_lock_clusterlock_redis_LockKeysHashTagPinLaw) (fun m => own_ef_own_d9 m (Int32.ofNat k) (Int32.ofNat n) (Int32.ofNat want) (Int32.ofNat ka) (Int32.ofNat kb) (Int32.ofNat kc) (Int32.ofNat kd)) O (fun _ q => nomatch q) ?_
  intro p e s m below meth c T w
  refine i_iloadN w own_d9_0 rfl (pc' := 1) rfl ?_
  refine i_iloadN w own_d9_1 rfl (pc' := 2) rfl ?_
  refine i_icmp_ge w own_d9_2 (pcY := 24) (by decide) (pc' := 5) rfl (fun hc2 => ?_) (fun hc2 => ?_)
  ·
    refine i_iconst w own_d9_24 (z := (0 : Int32)) (by decide) (pc' := 25) rfl ?_
    exact i_retN w own_d9_25 rfl (by simp) ⟨by rw [if_neg (fun q => hc2 ((lt_nat (by omega) (by omega)).mpr q.1))]; rfl, rfl⟩ (by decide) (by decide)
  ·
    refine i_iloadN w own_d9_5 rfl (pc' := 6) rfl ?_
    refine i_iloadN w own_d9_6 rfl (pc' := 7) rfl ?_
    refine i_iload w own_d9_7 rfl (pc' := 9) rfl ?_
    refine i_iload w own_d9_9 rfl (pc' := 11) rfl ?_
    refine i_iload w own_d9_11 rfl (pc' := 13) rfl ?_
    refine c_static w (y := (⟨"com/example/cluster_lock/clusterlock/redis/LockKeysHashTagPinLaw", "at", "(ICCCC)C"⟩ : MethodName)) (argsL := [(.int (Int32.ofNat k)), (.int (Int32.ofNat ka)), (.int (Int32.ofNat kb)), (.int (Int32.ofNat kc)), (.int (Int32.ofNat kd))]) (st := []) own_d9_13 (hw _ (List.mem_of_getElem? (i := 40) rfl)) (hw _ (List.mem_of_getElem? (i := 41) rfl)) (hw _ (List.mem_of_getElem? (i := 2) rfl)) (hw _ (List.mem_of_getElem? (i := 42) rfl)) (by decide) own_pd_pICCCCqC rfl (own_at l Z a0 hw k ka kb kc kd h0 n0 w.old hk hka hkb hkc hkd) rfl (by decide) (W := 0) (Nat.le_of_eq rfl) (by decide) (by decide) (by decide) (fun _ q => nomatch q) (pc' := 16) rfl ?_
    intro v107 T107 h107 w107 K107 q107
    obtain ⟨rfl, rfl⟩ := q107
    show Goes p e below _ T107 (mkF m 16 #[.val (.int (Int32.ofNat k)), .val (.int (Int32.ofNat n)), .val (.int (Int32.ofNat want)), .val (.int (Int32.ofNat ka)), .val (.int (Int32.ofNat kb)), .val (.int (Int32.ofNat kc)), .val (.int (Int32.ofNat kd))] [(.int (Int32.ofNat (own_atN k ka kb kc kd)))])
    refine i_iloadN w107 own_d9_16 rfl (pc' := 17) rfl ?_
    refine i_icmp_ne w107 own_d9_17 (pcY := 24) (by decide) (pc' := 20) rfl (fun hc17 => ?_) (fun hc17 => ?_)
    ·
      refine i_iconst w107 own_d9_24 (z := (0 : Int32)) (by decide) (pc' := 25) rfl ?_
      exact i_retN w107 own_d9_25 rfl (by simp) ⟨by rw [if_neg (fun q => hc17 (by rw [q.2]))]; rfl, rfl⟩ (by decide) (by decide)
    ·
      refine i_iconst w107 own_d9_20 (z := (1 : Int32)) (by decide) (pc' := 21) rfl ?_
      refine i_goto w107 own_d9_21 (pc' := 25) (by decide) ?_
      exact i_retN w107 own_d9_25 rfl (by simp) ⟨by rw [if_pos ⟨(lt_nat (by omega) (by omega)).mp hc2, (eq_nat (by have := own_at_lt k hka hkb hkc hkd; omega) (by omega)).mp hc17⟩]; rfl, rfl⟩ (by decide) (by decide)
theorem own_d12_0 : decode prog_6_method_9_code 0 = .ok (.aload_n 0, 1) := by decide +kernel
theorem own_d12_1 : decode prog_6_method_9_code 1 = .ok (.ldc 84, 2) := by decide +kernel
theorem own_d12_3 : decode prog_6_method_9_code 3 = .ok (.invokestatic 28, 3) := by decide +kernel
theorem own_d12_6 : decode prog_6_method_9_code 6 = .ok (.pop, 1) := by decide +kernel
theorem own_d12_7 : decode prog_6_method_9_code 7 = .ok (.aload_n 0, 1) := by decide +kernel
theorem own_d12_8 : decode prog_6_method_9_code 8 = .ok (.invokevirtual 34, 3) := by decide +kernel
theorem own_d12_11 : decode prog_6_method_9_code 11 = .ok (.ifCond .eq 13, 3) := by decide +kernel
theorem own_d12_14 : decode prog_6_method_9_code 14 = .ok (.new 38, 3) := by decide +kernel
theorem own_d12_17 : decode prog_6_method_9_code 17 = .ok (.dup, 1) := by decide +kernel
theorem own_d12_18 : decode prog_6_method_9_code 18 = .ok (.ldc 86, 2) := by decide +kernel
theorem own_d12_20 : decode prog_6_method_9_code 20 = .ok (.invokespecial 44, 3) := by decide +kernel
theorem own_d12_23 : decode prog_6_method_9_code 23 = .ok (.athrow, 1) := by decide +kernel
theorem own_d12_24 : decode prog_6_method_9_code 24 = .ok (.return_, 1) := by decide +kernel
theorem own_pn_com_example_cluster_lock_clusterlock_redis_LockKeys : plainName "com/example/cluster_lock/clusterlock/redis/LockKeys" = true := by first | (simp [plainName, overriddenIn]; done) | decide +kernel
theorem own_pd_pLjava_lang_StringeqV : parseMethodDescriptor "(Ljava/lang/String;)V" = some ⟨[(.object "java/lang/String")], none⟩ := by decide +kernel
theorem own_ef_own_d12 (m : MethodId) (x0 : Addr) : entryFrame m #[(.ref x0)] 1 = mkF m 0 #[.val (.ref x0)] [] := by
  first | (simp [entryFrame, mkF, argsToLocals, Value.category]; done) | rfl
set_option maxRecDepth 65536 in
set_option maxHeartbeats 40000000 in
theorem own_chk (l : Launch) (Z : State) (a0 : Array Value) (hw : ∀ d ∈ tables_1, d.before a0 Z = true) (a t : Addr) (ca : ClassId) (cs : List Nat) (h0 : Heap) (n0 : Nat) (O : Old Z n0 h0) (S : StrL Z h0 a t ca cs) (hne : ¬ cs.length = 0) :
    CtrW l Z n0 (⟨"com/example/cluster_lock/clusterlock/redis/LockKeys", "checkLockName", "(Ljava/lang/String;)V"⟩ : MethodName) prog_6_method_9_code 1 none [] ({ frames := 1, cells := 2, slots := 36, locals := 13 } : Room) #[(.ref a)] h0 [] (fun v h => v = none) := by
  refine enterW (plainFor_of_name own_pn_com_example_cluster_lock_clusterlock_redis_LockKeys) (fun m => own_ef_own_d12 m a) O (fun _ q => nomatch q) ?_
  intro p e s m below meth c T w hS
  refine i_aloadN w own_d12_0 rfl rfl (pc' := 1) rfl ?_
  refine i_ldcS w hS (Nat.le_refl _) own_d12_1 (hw _ (List.mem_of_getElem? (i := 50) rfl)) (fun d hd => hw d ((by decide +kernel : ∀ d ∈ Bundle.stringAtoms, d ∈ tables_1) d hd)) (N := 32) (by decide) (by decide) (by decide) (by decide) (pc' := 3) rfl ?_
  intro u T108 h108 vm108 w108 hS108 E108
  show Goes p e below _ T108 (mkF m 3 #[.val (.ref a)] [(.ref u), (.ref a)])
  have S_109 := S.ext E108
  refine c_static w108 (y := (⟨"java/util/Objects", "requireNonNull", "(Ljava/lang/Object;Ljava/lang/String;)Ljava/lang/Object;"⟩ : MethodName)) (argsL := [(.ref a), (.ref u)]) (st := []) own_d12_3 (hw _ (List.mem_of_getElem? (i := 53) rfl)) (hw _ (List.mem_of_getElem? (i := 54) rfl)) (hw _ (List.mem_of_getElem? (i := 55) rfl)) (hw _ (List.mem_of_getElem? (i := 56) rfl)) (by decide) own_pd_pLjava_lang_ObjecteLjava_lang_StringeqLjava_lang_Objecte rfl (own_reqNN l Z a0 hw a u h108 n0 w108.old ) rfl (by decide) (W := 0) (Nat.le_of_eq rfl) (by decide) (by decide) (by decide) (fun _ q => nomatch q) (pc' := 6) rfl ?_
  intro v110 T110 h110 w110 K110 q110
  obtain ⟨rfl, rfl⟩ := q110
  show Goes p e below _ T110 (mkF m 6 #[.val (.ref a)] [(.ref a)])
  refine i_pop w110 own_d12_6 rfl (pc' := 7) rfl ?_
  refine i_aloadN w110 own_d12_7 rfl rfl (pc' := 8) rfl ?_
  refine c_virtual w110 (y := (⟨"java/lang/String", "isEmpty", "()Z"⟩ : MethodName)) (C := "java/lang/String") (a := a) (argsL := []) (st := []) own_d12_8 (hw _ (List.mem_of_getElem? (i := 57) rfl)) (hw _ (List.mem_of_getElem? (i := 58) rfl)) (hw _ (List.mem_of_getElem? (i := 60) rfl)) (hw _ (List.mem_of_getElem? (i := 59) rfl)) (hw _ (List.mem_of_getElem? (i := 61) rfl)) (hw _ (List.mem_of_getElem? (i := 9) rfl)) (by decide) own_pd_pqZ rfl S_109.1 (own_isEmpty l Z a0 hw a t ca cs h108 n0 w110.old (Or.inl S_109)) rfl (by decide) (W := 0) (Nat.le_of_eq rfl) (by decide) (by decide) (by decide) (fun _ q => nomatch q) (pc' := 11) rfl ?_
  intro v111 T111 h111 w111 K111 q111
  obtain ⟨rfl, rfl⟩ := q111
  show Goes p e below _ T111 (mkF m 11 #[.val (.ref a)] [(.int (if cs.length = 0 then 1 else 0))])
  rw [if_neg hne]
  show Goes p e below _ T111 (mkF m 11 #[.val (.ref a)] [(.int (0 : Int32))])
  refine i_if_eq_Y w111 rfl own_d12_11 (pc' := 24) (by decide) ?_
  exact i_ret0W w111 hS108 (Nat.le_trans (Nat.le_trans (Nat.le_refl _) K110.1) K111.1) own_d12_24 rfl rfl (by decide) (by decide)
theorem own_d11_0 : decode prog_6_method_2_code 0 = .ok (.aload_n 0, 1) := by decide +kernel
theorem own_d11_1 : decode prog_6_method_2_code 1 = .ok (.invokestatic 7, 3) := by decide +kernel
theorem own_d11_4 : decode prog_6_method_2_code 4 = .ok (.aload_n 0, 1) := by decide +kernel
theorem own_d11_5 : decode prog_6_method_2_code 5 = .ok (.bipush 123, 2) := by decide +kernel
theorem own_d11_7 : decode prog_6_method_2_code 7 = .ok (.invokevirtual 13, 3) := by decide +kernel
theorem own_d11_10 : decode prog_6_method_2_code 10 = .ok (.istore_n 1, 1) := by decide +kernel
theorem own_d11_11 : decode prog_6_method_2_code 11 = .ok (.aload_n 0, 1) := by decide +kernel
theorem own_d11_12 : decode prog_6_method_2_code 12 = .ok (.bipush 125, 2) := by decide +kernel
theorem own_d11_14 : decode prog_6_method_2_code 14 = .ok (.iload_n 1, 1) := by decide +kernel
theorem own_d11_15 : decode prog_6_method_2_code 15 = .ok (.iconst 1, 1) := by decide +kernel
theorem own_d11_16 : decode prog_6_method_2_code 16 = .ok (.iadd, 1) := by decide +kernel
theorem own_d11_17 : decode prog_6_method_2_code 17 = .ok (.invokevirtual 19, 3) := by decide +kernel
theorem own_d11_20 : decode prog_6_method_2_code 20 = .ok (.istore_n 2, 1) := by decide +kernel
theorem own_d11_21 : decode prog_6_method_2_code 21 = .ok (.iload_n 1, 1) := by decide +kernel
theorem own_d11_22 : decode prog_6_method_2_code 22 = .ok (.ifCond .lt 22, 3) := by decide +kernel
theorem own_d11_25 : decode prog_6_method_2_code 25 = .ok (.iload_n 2, 1) := by decide +kernel
theorem own_d11_26 : decode prog_6_method_2_code 26 = .ok (.iload_n 1, 1) := by decide +kernel
theorem own_d11_27 : decode prog_6_method_2_code 27 = .ok (.iconst 1, 1) := by decide +kernel
theorem own_d11_28 : decode prog_6_method_2_code 28 = .ok (.iadd, 1) := by decide +kernel
theorem own_d11_29 : decode prog_6_method_2_code 29 = .ok (.if_icmp .le 15, 3) := by decide +kernel
theorem own_d11_32 : decode prog_6_method_2_code 32 = .ok (.aload_n 0, 1) := by decide +kernel
theorem own_d11_33 : decode prog_6_method_2_code 33 = .ok (.iload_n 1, 1) := by decide +kernel
theorem own_d11_34 : decode prog_6_method_2_code 34 = .ok (.iconst 1, 1) := by decide +kernel
theorem own_d11_35 : decode prog_6_method_2_code 35 = .ok (.iadd, 1) := by decide +kernel
theorem own_d11_36 : decode prog_6_method_2_code 36 = .ok (.iload_n 2, 1) := by decide +kernel
theorem own_d11_37 : decode prog_6_method_2_code 37 = .ok (.invokevirtual 22, 3) := by decide +kernel
theorem own_d11_40 : decode prog_6_method_2_code 40 = .ok (.astore_n 3, 1) := by decide +kernel
theorem own_d11_41 : decode prog_6_method_2_code 41 = .ok (.goto 5, 3) := by decide +kernel
theorem own_d11_44 : decode prog_6_method_2_code 44 = .ok (.aload_n 0, 1) := by decide +kernel
theorem own_d11_45 : decode prog_6_method_2_code 45 = .ok (.astore_n 3, 1) := by decide +kernel
theorem own_d11_46 : decode prog_6_method_2_code 46 = .ok (.aload_n 3, 1) := by decide +kernel
theorem own_d11_47 : decode prog_6_method_2_code 47 = .ok (.areturn, 1) := by decide +kernel
theorem own_pd_pLjava_lang_StringeqLjava_lang_Stringe : parseMethodDescriptor "(Ljava/lang/String;)Ljava/lang/String;" = some ⟨[(.object "java/lang/String")], some (.object "java/lang/String")⟩ := by decide +kernel
theorem own_ef_own_d11 (m : MethodId) (x0 : Addr) : entryFrame m #[(.ref x0)] 4 = mkF m 0 #[.val (.ref x0), .unset, .unset, .unset] [] := by
  first | (simp [entryFrame, mkF, argsToLocals, Value.category]; done) | rfl
set_option maxRecDepth 65536 in
set_option maxHeartbeats 40000000 in
theorem own_tagW (l : Launch) (Z : State) (a0 : Array Value) (hw : ∀ d ∈ tables_1, d.before a0 Z = true) (a t : Addr) (ca : ClassId) (cs : List Nat) (zo zc : Int32) (f : Nat) (G1 : Int32) (hG : ¬ G1 = 0) (SG : Sta Z Z.heap "java/lang/String" "COMPACT_STRINGS" "Z" (.int G1)) (G3 : Value) (hG3 : G3.isRef = true) (SF : Sta Z Z.heap "jdk/internal/util/Preconditions" "SIOOBE_FORMATTER" "Ljava/util/function/BiFunction;" G3) (h0 : Heap) (n0 : Nat) (O : Old Z n0 h0) (S : StrL Z h0 a t ca cs) (hne : ¬ cs.length = 0) (hcl : cs.length ≤ 65536) (hf : f ≤ 65536) (ho : ixv 123 cs 0 = zo) (hzo1 : zo + 1 = Int32.ofNat f) (hcz : ixv 125 cs f = zc) (hno : zo < 0) :
    CtrW l Z n0 (⟨"com/example/cluster_lock/clusterlock/redis/LockKeys", "hashTag", "(Ljava/lang/String;)Ljava/lang/String;"⟩ : MethodName) prog_6_method_2_code 4 (some (.object "java/lang/String")) [] ({ frames := 4, cells := 2, slots := 36, locals := 59 } : Room) #[(.ref a)] h0 [] (fun v h => v = some (.ref a)) := by
  refine enterW (plainFor_of_name own_pn_com_example_cluster_lock_clusterlock_redis_LockKeys) (fun m => own_ef_own_d11 m a) O (fun _ q => nomatch q) ?_
  intro p e s m below meth c T w hS
  refine i_aloadN w own_d11_0 rfl rfl (pc' := 1) rfl ?_
  refine c_staticW w hS (Nat.le_refl _) (y := (⟨"com/example/cluster_lock/clusterlock/redis/LockKeys", "checkLockName", "(Ljava/lang/String;)V"⟩ : MethodName)) (argsL := [(.ref a)]) (st := []) own_d11_1 (hw _ (List.mem_of_getElem? (i := 47) rfl)) (hw _ (List.mem_of_getElem? (i := 48) rfl)) (hw _ (List.mem_of_getElem? (i := 45) rfl)) (hw _ (List.mem_of_getElem? (i := 49) rfl)) (by decide) own_pd_pLjava_lang_StringeqV rfl (own_chk l Z a0 hw a t ca cs h0 n0 w.old S hne) rfl (by decide) (W := 0) (Nat.le_of_eq rfl) (by decide) (by decide) (by decide) (fun _ q => nomatch q) (pc' := 4) rfl ?_
  intro v112 T112 h112 vm112 w112 hS112 K112 q112
  obtain rfl := q112
  show Goes p e below _ T112 (mkF m 4 #[.val (.ref a), .unset, .unset, .unset] [])
  have S_113 := S.keep K112 nin0 nin0
  refine i_aloadN w112 own_d11_4 rfl rfl (pc' := 5) rfl ?_
  refine i_bipush w112 own_d11_5 (z := (123 : Int32)) (by decide) (pc' := 7) rfl ?_
  refine c_virtual w112 (y := (⟨"java/lang/String", "indexOf", "(I)I"⟩ : MethodName)) (C := "java/lang/String") (a := a) (argsL := [(.int (123 : Int32))]) (st := []) own_d11_7 (hw _ (List.mem_of_getElem? (i := 62) rfl)) (hw _ (List.mem_of_getElem? (i := 63) rfl)) (hw _ (List.mem_of_getElem? (i := 65) rfl)) (hw _ (List.mem_of_getElem? (i := 64) rfl)) (hw _ (List.mem_of_getElem? (i := 66) rfl)) (hw _ (List.mem_of_getElem? (i := 9) rfl)) (by decide) own_pd_pIqI rfl S_113.1 (own_indexOf l Z a0 hw a t ca cs 123 G1 hG SG h112 n0 w112.old S_113 (by decide) hcl) rfl (by decide) (W := 0) (Nat.le_of_eq rfl) (by decide) (by decide) (by decide) (fun _ q => nomatch q) (pc' := 10) rfl ?_
  intro v114 T114 h114 w114 K114 q114
  obtain ⟨rfl, rfl⟩ := q114
  show Goes p e below _ T114 (mkF m 10 #[.val (.ref a), .unset, .unset, .unset] [(.int (ixv 123 cs 0))])
  rw [ho]
  show Goes p e below _ T114 (mkF m 10 #[.val (.ref a), .unset, .unset, .unset] [(.int zo)])
  refine i_istoreN w114 own_d11_10 (l' := #[.val (.ref a), .val (.int zo), .unset, .unset]) rfl (pc' := 11) rfl ?_
  refine i_aloadN w114 own_d11_11 rfl rfl (pc' := 12) rfl ?_
  refine i_bipush w114 own_d11_12 (z := (125 : Int32)) (by decide) (pc' := 14) rfl ?_
  refine i_iloadN w114 own_d11_14 rfl (pc' := 15) rfl ?_
  refine i_iconst w114 own_d11_15 (z := (1 : Int32)) (by decide) (pc' := 16) rfl ?_
  refine i_iadd w114 own_d11_16 (pc' := 17) rfl ?_
  rw [hzo1]
  show Goes p e below _ T114 (mkF m 17 #[.val (.ref a), .val (.int zo), .unset, .unset] [(.int (Int32.ofNat f)), (.int (125 : Int32)), (.ref a)])
  refine c_virtual w114 (y := (⟨"java/lang/String", "indexOf", "(II)I"⟩ : MethodName)) (C := "java/lang/String") (a := a) (argsL := [(.int (125 : Int32)), (.int (Int32.ofNat f))]) (st := []) own_d11_17 (hw _ (List.mem_of_getElem? (i := 104) rfl)) (hw _ (List.mem_of_getElem? (i := 68) rfl)) (hw _ (List.mem_of_getElem? (i := 70) rfl)) (hw _ (List.mem_of_getElem? (i := 69) rfl)) (hw _ (List.mem_of_getElem? (i := 71) rfl)) (hw _ (List.mem_of_getElem? (i := 9) rfl)) (by decide) own_pd_pIIqI rfl S_113.1 (own_indexOf2 l Z a0 hw a t ca cs 125 f G1 hG SG h112 n0 w114.old S_113 (by decide) hcl hf) rfl (by decide) (W := 0) (Nat.le_of_eq rfl) (by decide) (by decide) (by decide) (fun _ q => nomatch q) (pc' := 20) rfl ?_
  intro v115 T115 h115 w115 K115 q115
  obtain ⟨rfl, rfl⟩ := q115
  show Goes p e below _ T115 (mkF m 20 #[.val (.ref a), .val (.int zo), .unset, .unset] [(.int (ixv 125 cs f))])
  rw [hcz]
  show Goes p e below _ T115 (mkF m 20 #[.val (.ref a), .val (.int zo), .unset, .unset] [(.int zc)])
  refine i_istoreN w115 own_d11_20 (l' := #[.val (.ref a), .val (.int zo), .val (.int zc), .unset]) rfl (pc' := 21) rfl ?_
  refine i_iloadN w115 own_d11_21 rfl (pc' := 22) rfl ?_
  refine i_if_lt_Y w115 hno own_d11_22 (pc' := 44) (by decide) ?_
  refine i_aloadN w115 own_d11_44 rfl rfl (pc' := 45) rfl ?_
  refine i_astoreN w115 own_d11_45 rfl (l' := #[.val (.ref a), .val (.int zo), .val (.int zc), .val (.ref a)]) rfl (pc' := 46) rfl ?_
  refine i_aloadN w115 own_d11_46 rfl rfl (pc' := 47) rfl ?_
  exact i_retAW w115 hS112 (Nat.le_trans (Nat.le_trans (Nat.le_refl _) K114.1) K115.1) own_d11_47 rfl rfl rfl rfl (by decide) (by decide)
set_option maxRecDepth 65536 in
set_option maxHeartbeats 40000000 in
theorem own_tagN (l : Launch) (Z : State) (a0 : Array Value) (hw : ∀ d ∈ tables_1, d.before a0 Z = true) (a t : Addr) (ca : ClassId) (cs : List Nat) (zo zc : Int32) (f : Nat) (G1 : Int32) (hG : ¬ G1 = 0) (SG : Sta Z Z.heap "java/lang/String" "COMPACT_STRINGS" "Z" (.int G1)) (G3 : Value) (hG3 : G3.isRef = true) (SF : Sta Z Z.heap "jdk/internal/util/Preconditions" "SIOOBE_FORMATTER" "Ljava/util/function/BiFunction;" G3) (h0 : Heap) (n0 : Nat) (O : Old Z n0 h0) (S : StrL Z h0 a t ca cs) (hne : ¬ cs.length = 0) (hcl : cs.length ≤ 65536) (hf : f ≤ 65536) (ho : ixv 123 cs 0 = zo) (hzo1 : zo + 1 = Int32.ofNat f) (hcz : ixv 125 cs f = zc) (hyo : ¬ zo < 0) (hnc : ¬ Int32.ofNat f < zc) :
    CtrW l Z n0 (⟨"com/example/cluster_lock/clusterlock/redis/LockKeys", "hashTag", "(Ljava/lang/String;)Ljava/lang/String;"⟩ : MethodName) prog_6_method_2_code 4 (some (.object "java/lang/String")) [] ({ frames := 4, cells := 2, slots := 36, locals := 59 } : Room) #[(.ref a)] h0 [] (fun v h => v = some (.ref a)) := by
  refine enterW (plainFor_of_name own_pn_com_example_cluster_lock_clusterlock_redis_LockKeys) (fun m => own_ef_own_d11 m a) O (fun _ q => nomatch q) ?_
  intro p e s m below meth c T w hS
  refine i_aloadN w own_d11_0 rfl rfl (pc' := 1) rfl ?_
  refine c_staticW w hS (Nat.le_refl _) (y := (⟨"com/example/cluster_lock/clusterlock/redis/LockKeys", "checkLockName", "(Ljava/lang/String;)V"⟩ : MethodName)) (argsL := [(.ref a)]) (st := []) own_d11_1 (hw _ (List.mem_of_getElem? (i := 47) rfl)) (hw _ (List.mem_of_getElem? (i := 48) rfl)) (hw _ (List.mem_of_getElem? (i := 45) rfl)) (hw _ (List.mem_of_getElem? (i := 49) rfl)) (by decide) own_pd_pLjava_lang_StringeqV rfl (own_chk l Z a0 hw a t ca cs h0 n0 w.old S hne) rfl (by decide) (W := 0) (Nat.le_of_eq rfl) (by decide) (by decide) (by decide) (fun _ q => nomatch q) (pc' := 4) rfl ?_
  intro v116 T116 h116 vm116 w116 hS116 K116 q116
  obtain rfl := q116
  show Goes p e below _ T116 (mkF m 4 #[.val (.ref a), .unset, .unset, .unset] [])
  have S_117 := S.keep K116 nin0 nin0
  refine i_aloadN w116 own_d11_4 rfl rfl (pc' := 5) rfl ?_
  refine i_bipush w116 own_d11_5 (z := (123 : Int32)) (by decide) (pc' := 7) rfl ?_
  refine c_virtual w116 (y := (⟨"java/lang/String", "indexOf", "(I)I"⟩ : MethodName)) (C := "java/lang/String") (a := a) (argsL := [(.int (123 : Int32))]) (st := []) own_d11_7 (hw _ (List.mem_of_getElem? (i := 62) rfl)) (hw _ (List.mem_of_getElem? (i := 63) rfl)) (hw _ (List.mem_of_getElem? (i := 65) rfl)) (hw _ (List.mem_of_getElem? (i := 64) rfl)) (hw _ (List.mem_of_getElem? (i := 66) rfl)) (hw _ (List.mem_of_getElem? (i := 9) rfl)) (by decide) own_pd_pIqI rfl S_117.1 (own_indexOf l Z a0 hw a t ca cs 123 G1 hG SG h116 n0 w116.old S_117 (by decide) hcl) rfl (by decide) (W := 0) (Nat.le_of_eq rfl) (by decide) (by decide) (by decide) (fun _ q => nomatch q) (pc' := 10) rfl ?_
  intro v118 T118 h118 w118 K118 q118
  obtain ⟨rfl, rfl⟩ := q118
  show Goes p e below _ T118 (mkF m 10 #[.val (.ref a), .unset, .unset, .unset] [(.int (ixv 123 cs 0))])
  rw [ho]
  show Goes p e below _ T118 (mkF m 10 #[.val (.ref a), .unset, .unset, .unset] [(.int zo)])
  refine i_istoreN w118 own_d11_10 (l' := #[.val (.ref a), .val (.int zo), .unset, .unset]) rfl (pc' := 11) rfl ?_
  refine i_aloadN w118 own_d11_11 rfl rfl (pc' := 12) rfl ?_
  refine i_bipush w118 own_d11_12 (z := (125 : Int32)) (by decide) (pc' := 14) rfl ?_
  refine i_iloadN w118 own_d11_14 rfl (pc' := 15) rfl ?_
  refine i_iconst w118 own_d11_15 (z := (1 : Int32)) (by decide) (pc' := 16) rfl ?_
  refine i_iadd w118 own_d11_16 (pc' := 17) rfl ?_
  rw [hzo1]
  show Goes p e below _ T118 (mkF m 17 #[.val (.ref a), .val (.int zo), .unset, .unset] [(.int (Int32.ofNat f)), (.int (125 : Int32)), (.ref a)])
  refine c_virtual w118 (y := (⟨"java/lang/String", "indexOf", "(II)I"⟩ : MethodName)) (C := "java/lang/String") (a := a) (argsL := [(.int (125 : Int32)), (.int (Int32.ofNat f))]) (st := []) own_d11_17 (hw _ (List.mem_of_getElem? (i := 104) rfl)) (hw _ (List.mem_of_getElem? (i := 68) rfl)) (hw _ (List.mem_of_getElem? (i := 70) rfl)) (hw _ (List.mem_of_getElem? (i := 69) rfl)) (hw _ (List.mem_of_getElem? (i := 71) rfl)) (hw _ (List.mem_of_getElem? (i := 9) rfl)) (by decide) own_pd_pIIqI rfl S_117.1 (own_indexOf2 l Z a0 hw a t ca cs 125 f G1 hG SG h116 n0 w118.old S_117 (by decide) hcl hf) rfl (by decide) (W := 0) (Nat.le_of_eq rfl) (by decide) (by decide) (by decide) (fun _ q => nomatch q) (pc' := 20) rfl ?_
  intro v119 T119 h119 w119 K119 q119
  obtain ⟨rfl, rfl⟩ := q119
  show Goes p e below _ T119 (mkF m 20 #[.val (.ref a), .val (.int zo), .unset, .unset] [(.int (ixv 125 cs f))])
  rw [hcz]
  show Goes p e below _ T119 (mkF m 20 #[.val (.ref a), .val (.int zo), .unset, .unset] [(.int zc)])
  refine i_istoreN w119 own_d11_20 (l' := #[.val (.ref a), .val (.int zo), .val (.int zc), .unset]) rfl (pc' := 21) rfl ?_
  refine i_iloadN w119 own_d11_21 rfl (pc' := 22) rfl ?_
  refine i_if_lt_N w119 hyo own_d11_22 (pc' := 25) rfl ?_
  refine i_iloadN w119 own_d11_25 rfl (pc' := 26) rfl ?_
  refine i_iloadN w119 own_d11_26 rfl (pc' := 27) rfl ?_
  refine i_iconst w119 own_d11_27 (z := (1 : Int32)) (by decide) (pc' := 28) rfl ?_
  refine i_iadd w119 own_d11_28 (pc' := 29) rfl ?_
  rw [hzo1]
  show Goes p e below _ T119 (mkF m 29 #[.val (.ref a), .val (.int zo), .val (.int zc), .unset] [(.int (Int32.ofNat f)), (.int zc)])
  refine i_icmp_le_Y w119 hnc own_d11_29 (pc' := 44) (by decide) ?_
  refine i_aloadN w119 own_d11_44 rfl rfl (pc' := 45) rfl ?_
  refine i_astoreN w119 own_d11_45 rfl (l' := #[.val (.ref a), .val (.int zo), .val (.int zc), .val (.ref a)]) rfl (pc' := 46) rfl ?_
  refine i_aloadN w119 own_d11_46 rfl rfl (pc' := 47) rfl ?_
  exact i_retAW w119 hS116 (Nat.le_trans (Nat.le_trans (Nat.le_refl _) K118.1) K119.1) own_d11_47 rfl rfl rfl rfl (by decide) (by decide)
set_option maxRecDepth 65536 in
set_option maxHeartbeats 40000000 in
theorem own_tagS (l : Launch) (Z : State) (a0 : Array Value) (hw : ∀ d ∈ tables_1, d.before a0 Z = true) (a t : Addr) (ca : ClassId) (cs : List Nat) (zo zc : Int32) (f : Nat) (G1 : Int32) (hG : ¬ G1 = 0) (SG : Sta Z Z.heap "java/lang/String" "COMPACT_STRINGS" "Z" (.int G1)) (G3 : Value) (hG3 : G3.isRef = true) (SF : Sta Z Z.heap "jdk/internal/util/Preconditions" "SIOOBE_FORMATTER" "Ljava/util/function/BiFunction;" G3) (h0 : Heap) (n0 : Nat) (O : Old Z n0 h0) (S : StrL Z h0 a t ca cs) (hne : ¬ cs.length = 0) (hcl : cs.length ≤ 65536) (hf : f ≤ 65536) (ho : ixv 123 cs 0 = zo) (hzo1 : zo + 1 = Int32.ofNat f) (hcz : ixv 125 cs f = zc) (nn : Nat) (hzc : zc = Int32.ofNat (f + nn)) (h1f : 0 < f) (h1n : 0 < nn) (hfe : f + nn ≤ cs.length) (hn32 : nn ≤ 32) (hyo : ¬ zo < 0) (hyc : Int32.ofNat f < zc) :
    CtrW l Z n0 (⟨"com/example/cluster_lock/clusterlock/redis/LockKeys", "hashTag", "(Ljava/lang/String;)Ljava/lang/String;"⟩ : MethodName) prog_6_method_2_code 4 (some (.object "java/lang/String")) [] ({ frames := 5, cells := 4, slots := 72, locals := 80 } : Room) #[(.ref a)] h0 [] (fun v h => ∃ r t' c', v = some (.ref r) ∧ h0.size ≤ r ∧ r < t' ∧ StrL Z h r t' c' ((cs.drop f).take nn)) := by
  refine enterW (plainFor_of_name own_pn_com_example_cluster_lock_clusterlock_redis_LockKeys) (fun m => own_ef_own_d11 m a) O (fun _ q => nomatch q) ?_
  intro p e s m below meth c T w hS
  refine i_aloadN w own_d11_0 rfl rfl (pc' := 1) rfl ?_
  refine c_staticW w hS (Nat.le_refl _) (y := (⟨"com/example/cluster_lock/clusterlock/redis/LockKeys", "checkLockName", "(Ljava/lang/String;)V"⟩ : MethodName)) (argsL := [(.ref a)]) (st := []) own_d11_1 (hw _ (List.mem_of_getElem? (i := 47) rfl)) (hw _ (List.mem_of_getElem? (i := 48) rfl)) (hw _ (List.mem_of_getElem? (i := 45) rfl)) (hw _ (List.mem_of_getElem? (i := 49) rfl)) (by decide) own_pd_pLjava_lang_StringeqV rfl (own_chk l Z a0 hw a t ca cs h0 n0 w.old S hne) rfl (by decide) (W := 0) (Nat.le_of_eq rfl) (by decide) (by decide) (by decide) (fun _ q => nomatch q) (pc' := 4) rfl ?_
  intro v120 T120 h120 vm120 w120 hS120 K120 q120
  obtain rfl := q120
  show Goes p e below _ T120 (mkF m 4 #[.val (.ref a), .unset, .unset, .unset] [])
  have S_121 := S.keep K120 nin0 nin0
  refine i_aloadN w120 own_d11_4 rfl rfl (pc' := 5) rfl ?_
  refine i_bipush w120 own_d11_5 (z := (123 : Int32)) (by decide) (pc' := 7) rfl ?_
  refine c_virtual w120 (y := (⟨"java/lang/String", "indexOf", "(I)I"⟩ : MethodName)) (C := "java/lang/String") (a := a) (argsL := [(.int (123 : Int32))]) (st := []) own_d11_7 (hw _ (List.mem_of_getElem? (i := 62) rfl)) (hw _ (List.mem_of_getElem? (i := 63) rfl)) (hw _ (List.mem_of_getElem? (i := 65) rfl)) (hw _ (List.mem_of_getElem? (i := 64) rfl)) (hw _ (List.mem_of_getElem? (i := 66) rfl)) (hw _ (List.mem_of_getElem? (i := 9) rfl)) (by decide) own_pd_pIqI rfl S_121.1 (own_indexOf l Z a0 hw a t ca cs 123 G1 hG SG h120 n0 w120.old S_121 (by decide) hcl) rfl (by decide) (W := 0) (Nat.le_of_eq rfl) (by decide) (by decide) (by decide) (fun _ q => nomatch q) (pc' := 10) rfl ?_
  intro v122 T122 h122 w122 K122 q122
  obtain ⟨rfl, rfl⟩ := q122
  show Goes p e below _ T122 (mkF m 10 #[.val (.ref a), .unset, .unset, .unset] [(.int (ixv 123 cs 0))])
  rw [ho]
  show Goes p e below _ T122 (mkF m 10 #[.val (.ref a), .unset, .unset, .unset] [(.int zo)])
  refine i_istoreN w122 own_d11_10 (l' := #[.val (.ref a), .val (.int zo), .unset, .unset]) rfl (pc' := 11) rfl ?_
  refine i_aloadN w122 own_d11_11 rfl rfl (pc' := 12) rfl ?_
  refine i_bipush w122 own_d11_12 (z := (125 : Int32)) (by decide) (pc' := 14) rfl ?_
  refine i_iloadN w122 own_d11_14 rfl (pc' := 15) rfl ?_
  refine i_iconst w122 own_d11_15 (z := (1 : Int32)) (by decide) (pc' := 16) rfl ?_
  refine i_iadd w122 own_d11_16 (pc' := 17) rfl ?_
  rw [hzo1]
  show Goes p e below _ T122 (mkF m 17 #[.val (.ref a), .val (.int zo), .unset, .unset] [(.int (Int32.ofNat f)), (.int (125 : Int32)), (.ref a)])
  refine c_virtual w122 (y := (⟨"java/lang/String", "indexOf", "(II)I"⟩ : MethodName)) (C := "java/lang/String") (a := a) (argsL := [(.int (125 : Int32)), (.int (Int32.ofNat f))]) (st := []) own_d11_17 (hw _ (List.mem_of_getElem? (i := 104) rfl)) (hw _ (List.mem_of_getElem? (i := 68) rfl)) (hw _ (List.mem_of_getElem? (i := 70) rfl)) (hw _ (List.mem_of_getElem? (i := 69) rfl)) (hw _ (List.mem_of_getElem? (i := 71) rfl)) (hw _ (List.mem_of_getElem? (i := 9) rfl)) (by decide) own_pd_pIIqI rfl S_121.1 (own_indexOf2 l Z a0 hw a t ca cs 125 f G1 hG SG h120 n0 w122.old S_121 (by decide) hcl hf) rfl (by decide) (W := 0) (Nat.le_of_eq rfl) (by decide) (by decide) (by decide) (fun _ q => nomatch q) (pc' := 20) rfl ?_
  intro v123 T123 h123 w123 K123 q123
  obtain ⟨rfl, rfl⟩ := q123
  show Goes p e below _ T123 (mkF m 20 #[.val (.ref a), .val (.int zo), .unset, .unset] [(.int (ixv 125 cs f))])
  rw [hcz]
  show Goes p e below _ T123 (mkF m 20 #[.val (.ref a), .val (.int zo), .unset, .unset] [(.int zc)])
  refine i_istoreN w123 own_d11_20 (l' := #[.val (.ref a), .val (.int zo), .val (.int zc), .unset]) rfl (pc' := 21) rfl ?_
  refine i_iloadN w123 own_d11_21 rfl (pc' := 22) rfl ?_
  refine i_if_lt_N w123 hyo own_d11_22 (pc' := 25) rfl ?_
  refine i_iloadN w123 own_d11_25 rfl (pc' := 26) rfl ?_
  refine i_iloadN w123 own_d11_26 rfl (pc' := 27) rfl ?_
  refine i_iconst w123 own_d11_27 (z := (1 : Int32)) (by decide) (pc' := 28) rfl ?_
  refine i_iadd w123 own_d11_28 (pc' := 29) rfl ?_
  rw [hzo1]
  show Goes p e below _ T123 (mkF m 29 #[.val (.ref a), .val (.int zo), .val (.int zc), .unset] [(.int (Int32.ofNat f)), (.int zc)])
  refine i_icmp_le_N w123 hyc own_d11_29 (pc' := 32) rfl ?_
  refine i_aloadN w123 own_d11_32 rfl rfl (pc' := 33) rfl ?_
  refine i_iloadN w123 own_d11_33 rfl (pc' := 34) rfl ?_
  refine i_iconst w123 own_d11_34 (z := (1 : Int32)) (by decide) (pc' := 35) rfl ?_
  refine i_iadd w123 own_d11_35 (pc' := 36) rfl ?_
  refine i_iloadN w123 own_d11_36 rfl (pc' := 37) rfl ?_
  rw [hzo1]
  subst hzc
  show Goes p e below _ T123 (mkF m 37 #[.val (.ref a), .val (.int zo), .val (.int (Int32.ofNat (f + nn))), .unset] [(.int (Int32.ofNat (f + nn))), (.int (Int32.ofNat f)), (.ref a)])
  refine c_virtual w123 (y := (⟨"java/lang/String", "substring", "(II)Ljava/lang/String;"⟩ : MethodName)) (C := "java/lang/String") (a := a) (argsL := [(.int (Int32.ofNat f)), (.int (Int32.ofNat (f + nn)))]) (st := []) own_d11_37 (hw _ (List.mem_of_getElem? (i := 122) rfl)) (hw _ (List.mem_of_getElem? (i := 123) rfl)) (hw _ (List.mem_of_getElem? (i := 125) rfl)) (hw _ (List.mem_of_getElem? (i := 124) rfl)) (hw _ (List.mem_of_getElem? (i := 126) rfl)) (hw _ (List.mem_of_getElem? (i := 9) rfl)) (by decide) own_pd_pIIqLjava_lang_Stringe rfl S_121.1 (own_substr l Z a0 hw a t ca cs f nn G1 hG SG G3 hG3 SF h120 n0 w123.old S_121 h1f h1n (by omega) hfe (by omega)) rfl (by decide) (W := 0) (Nat.le_of_eq rfl) (by decide) (by decide) (by decide) (fun _ q => nomatch q) (pc' := 40) rfl ?_
  intro v124 T124 h124 w124 K124 q124
  obtain ⟨r, t', c', rfl, zr, lr, Sr⟩ := q124
  show Goes p e below _ T124 (mkF m 40 #[.val (.ref a), .val (.int zo), .val (.int (Int32.ofNat (f + nn))), .unset] [(.ref r)])
  have S_125 := S_121.keep K124 nin0 nin0
  refine i_astoreN w124 own_d11_40 rfl (l' := #[.val (.ref a), .val (.int zo), .val (.int (Int32.ofNat (f + nn))), .val (.ref r)]) rfl (pc' := 41) rfl ?_
  refine i_goto w124 own_d11_41 (pc' := 46) (by decide) ?_
  refine i_aloadN w124 own_d11_46 rfl rfl (pc' := 47) rfl ?_
  exact i_retAW w124 hS120 (Nat.le_trans (Nat.le_trans (Nat.le_trans (Nat.le_refl _) K122.1) K123.1) K124.1) own_d11_47 rfl rfl rfl ⟨r, t', c', rfl, Nat.le_trans w123.le0 zr, lr, Sr⟩ (by decide) (by decide)
set_option maxRecDepth 65536 in
set_option maxHeartbeats 40000000 in
theorem own_t1_0_1 (l : Launch) (Z : State) (a0 : Array Value) (hw : ∀ d ∈ tables_1, d.before a0 Z = true) (ka kb kc kd : Nat) (hka : ka < 256) (hkb : kb < 256) (hkc : kc < 256) (hkd : kd < 256) (y0 y1 y2 y3 y4 : Int32) (a t : Addr) (ct : ClassId) (zo z12 zc : Int32) (f : Nat) (G1 : Int32) (hG : ¬ G1 = 0) (SG : Sta Z Z.heap "java/lang/String" "COMPACT_STRINGS" "Z" (.int G1)) (G3 : Value) (hG3 : G3.isRef = true) (SF : Sta Z Z.heap "jdk/internal/util/Preconditions" "SIOOBE_FORMATTER" "Ljava/util/function/BiFunction;" G3) (h0 : Heap) (n0 : Nat) {p : Program} {e : Env} {s : State} {m : MethodId} {below : List Frame} {meth : Method} {c : Code} {vm : Vm} {kS : Nat} {T : State} {h : Heap} (w : Wk p l e room_1 (s.setVm vm) m #[(.int y0), (.int y1), (.int y2), (.int y3), (.int y4)] below meth c Z x.cls code maxLocals ret x.name n0 h0 [] T h 20 1000) (hS : s.Since vm kS) (hkS : kS ≤ h.size) (S : StrL Z h a t ct [ka]) (hf : f ≤ 65536) (ho : ixv 123 [ka] 0 = zo) (hzo1 : zo + 1 = Int32.ofNat f) (hcz : ixv 125 [ka] f = zc) (hT : zo < 0 ∨ (¬ zo < 0 ∧ ¬ Int32.ofNat f < zc)) :
    Goes p e below (PW s n0 h0 [] (fun v h => v = some (.int 1)) room_1.cells room_1.slots) T (mkF m 300 #[.val (.int y0), .val (.int y1), .val (.int y2), .val (.int y3), .val (.int y4), .val (.int (1 : Int32)), .val (.int (Int32.ofNat ka)), .val (.int (Int32.ofNat kb)), .val (.int (Int32.ofNat kc)), .val (.int (Int32.ofNat kd)), .val (.ref a), .val (.int zo), .val (.int z12), .val (.int zc), .val (.int (0 : Int32)), .val (.int (1 : Int32)), .unset, .unset] []) := by
  refine i_iload w at_300 rfl (pc' := 302) rfl ?_
  refine i_iload w at_302 rfl (pc' := 304) rfl ?_
  refine i_isub w at_304 (pc' := 305) rfl ?_
  refine i_istore w at_305 (l' := #[.val (.int y0), .val (.int y1), .val (.int y2), .val (.int y3), .val (.int y4), .val (.int (1 : Int32)), .val (.int (Int32.ofNat ka)), .val (.int (Int32.ofNat kb)), .val (.int (Int32.ofNat kc)), .val (.int (Int32.ofNat kd)), .val (.ref a), .val (.int zo), .val (.int z12), .val (.int zc), .val (.int (0 : Int32)), .val (.int (1 : Int32)), .val (.int ((1 : Int32) - (0 : Int32))), .unset]) rfl (pc' := 307) rfl ?_
  refine i_aload w at_307 rfl rfl (pc' := 309) rfl ?_
  rcases hT with hno | ⟨hyo, hnc⟩
  ·
    refine c_staticW w hS hkS (y := (⟨"com/example/cluster_lock/clusterlock/redis/LockKeys", "hashTag", "(Ljava/lang/String;)Ljava/lang/String;"⟩ : MethodName)) (argsL := [(.ref a)]) (st := []) at_309 (hw _ (List.mem_of_getElem? (i := 43) rfl)) (hw _ (List.mem_of_getElem? (i := 44) rfl)) (hw _ (List.mem_of_getElem? (i := 45) rfl)) (hw _ (List.mem_of_getElem? (i := 46) rfl)) (by decide) own_pd_pLjava_lang_StringeqLjava_lang_Stringe rfl (own_tagW l Z a0 hw a t ct [ka] zo zc f G1 hG SG G3 hG3 SF h n0 w.old S (by simp) (by simp) hf ho hzo1 hcz hno) rfl (by decide) (W := 0) (Nat.le_of_eq rfl) (by decide) (by decide) (by decide) (fun _ q => nomatch q) (pc' := 312) rfl ?_
    intro v126 T126 h126 vm126 w126 hS126 K126 q126
    obtain rfl := q126
    show Goes p e below _ T126 (mkF m 312 #[.val (.int y0), .val (.int y1), .val (.int y2), .val (.int y3), .val (.int y4), .val (.int (1 : Int32)), .val (.int (Int32.ofNat ka)), .val (.int (Int32.ofNat kb)), .val (.int (Int32.ofNat kc)), .val (.int (Int32.ofNat kd)), .val (.ref a), .val (.int zo), .val (.int z12), .val (.int zc), .val (.int (0 : Int32)), .val (.int (1 : Int32)), .val (.int ((1 : Int32) - (0 : Int32))), .unset] [(.ref a)])
    have S_127 := S.keep K126 nin0 nin0
    refine i_astore w126 at_312 rfl (l' := #[.val (.int y0), .val (.int y1), .val (.int y2), .val (.int y3), .val (.int y4), .val (.int (1 : Int32)), .val (.int (Int32.ofNat ka)), .val (.int (Int32.ofNat kb)), .val (.int (Int32.ofNat kc)), .val (.int (Int32.ofNat kd)), .val (.ref a), .val (.int zo), .val (.int z12), .val (.int zc), .val (.int (0 : Int32)), .val (.int (1 : Int32)), .val (.int ((1 : Int32) - (0 : Int32))), .val (.ref a)]) rfl (pc' := 314) rfl ?_
    refine i_aload w126 at_314 rfl rfl (pc' := 316) rfl ?_
    refine c_virtual w126 (y := (⟨"java/lang/String", "length", "()I"⟩ : MethodName)) (C := "java/lang/String") (a := a) (argsL := []) (st := []) at_316 (hw _ (List.mem_of_getElem? (i := 105) rfl)) (hw _ (List.mem_of_getElem? (i := 78) rfl)) (hw _ (List.mem_of_getElem? (i := 80) rfl)) (hw _ (List.mem_of_getElem? (i := 79) rfl)) (hw _ (List.mem_of_getElem? (i := 81) rfl)) (hw _ (List.mem_of_getElem? (i := 9) rfl)) (by decide) own_pd_pqI rfl S_127.1 (own_length l Z a0 hw a t ct [ka] G1 hG SG h126 n0 w126.old (Or.inl S_127)) rfl (by decide) (W := 0) (Nat.le_of_eq rfl) (by decide) (by decide) (by decide) (fun _ q => nomatch q) (pc' := 319) rfl ?_
    intro v128 T128 h128 w128 K128 q128
    obtain ⟨rfl, rfl⟩ := q128
    show Goes p e below _ T128 (mkF m 319 #[.val (.int y0), .val (.int y1), .val (.int y2), .val (.int y3), .val (.int y4), .val (.int (1 : Int32)), .val (.int (Int32.ofNat ka)), .val (.int (Int32.ofNat kb)), .val (.int (Int32.ofNat kc)), .val (.int (Int32.ofNat kd)), .val (.ref a), .val (.int zo), .val (.int z12), .val (.int zc), .val (.int (0 : Int32)), .val (.int (1 : Int32)), .val (.int ((1 : Int32) - (0 : Int32))), .val (.ref a)] [(.int (1 : Int32))])
    refine i_iload w128 at_319 rfl (pc' := 321) rfl ?_
    refine i_icmp_eq_Y w128 rfl at_321 (pc' := 326) (by decide) ?_
    refine i_iload w128 at_326 rfl (pc' := 328) rfl ?_
    refine i_if_le_N w128 (by decide) at_328 (pc' := 331) rfl ?_
    refine i_aload w128 at_331 rfl rfl (pc' := 333) rfl ?_
    refine i_iconst w128 at_333 (z := (0 : Int32)) (by decide) (pc' := 334) rfl ?_
    refine c_virtual w128 (y := (⟨"java/lang/String", "charAt", "(I)C"⟩ : MethodName)) (C := "java/lang/String") (a := a) (argsL := [(.int (0 : Int32))]) (st := []) at_334 (hw _ (List.mem_of_getElem? (i := 106) rfl)) (hw _ (List.mem_of_getElem? (i := 107) rfl)) (hw _ (List.mem_of_getElem? (i := 109) rfl)) (hw _ (List.mem_of_getElem? (i := 108) rfl)) (hw _ (List.mem_of_getElem? (i := 110) rfl)) (hw _ (List.mem_of_getElem? (i := 9) rfl)) (by decide) own_pd_pIqC rfl S_127.1 (own_charAt l Z a0 hw a t ct [ka] 0 ka G1 hG SG G3 hG3 SF h126 n0 w128.old S_127 rfl) rfl (by decide) (W := 0) (Nat.le_of_eq rfl) (by decide) (by decide) (by decide) (fun _ q => nomatch q) (pc' := 337) rfl ?_
    intro v129 T129 h129 w129 K129 q129
    obtain ⟨rfl, rfl⟩ := q129
    show Goes p e below _ T129 (mkF m 337 #[.val (.int y0), .val (.int y1), .val (.int y2), .val (.int y3), .val (.int y4), .val (.int (1 : Int32)), .val (.int (Int32.ofNat ka)), .val (.int (Int32.ofNat kb)), .val (.int (Int32.ofNat kc)), .val (.int (Int32.ofNat kd)), .val (.ref a), .val (.int zo), .val (.int z12), .val (.int zc), .val (.int (0 : Int32)), .val (.int (1 : Int32)), .val (.int ((1 : Int32) - (0 : Int32))), .val (.ref a)] [(.int (Int32.ofNat ka))])
    refine i_iload w129 at_337 rfl (pc' := 339) rfl ?_
    refine i_iload w129 at_339 rfl (pc' := 341) rfl ?_
    refine i_iload w129 at_341 rfl (pc' := 343) rfl ?_
    refine i_iload w129 at_343 rfl (pc' := 345) rfl ?_
    refine i_iload w129 at_345 rfl (pc' := 347) rfl ?_
    refine c_static w129 (y := (⟨"com/example/cluster_lock/clusterlock/redis/LockKeysHashTagPinLaw", "at", "(ICCCC)C"⟩ : MethodName)) (argsL := [(.int (0 : Int32)), (.int (Int32.ofNat ka)), (.int (Int32.ofNat kb)), (.int (Int32.ofNat kc)), (.int (Int32.ofNat kd))]) (st := [(.int (Int32.ofNat ka))]) at_347 (hw _ (List.mem_of_getElem? (i := 40) rfl)) (hw _ (List.mem_of_getElem? (i := 41) rfl)) (hw _ (List.mem_of_getElem? (i := 2) rfl)) (hw _ (List.mem_of_getElem? (i := 42) rfl)) (by decide) own_pd_pICCCCqC rfl (own_at l Z a0 hw 0 ka kb kc kd h126 n0 w129.old (by decide) hka hkb hkc hkd) rfl (by decide) (W := 1) (Nat.le_of_eq rfl) (by decide) (by decide) (by decide) (fun _ q => nomatch q) (pc' := 350) rfl ?_
    intro v130 T130 h130 w130 K130 q130
    obtain ⟨rfl, rfl⟩ := q130
    show Goes p e below _ T130 (mkF m 350 #[.val (.int y0), .val (.int y1), .val (.int y2), .val (.int y3), .val (.int y4), .val (.int (1 : Int32)), .val (.int (Int32.ofNat ka)), .val (.int (Int32.ofNat kb)), .val (.int (Int32.ofNat kc)), .val (.int (Int32.ofNat kd)), .val (.ref a), .val (.int zo), .val (.int z12), .val (.int zc), .val (.int (0 : Int32)), .val (.int (1 : Int32)), .val (.int ((1 : Int32) - (0 : Int32))), .val (.ref a)] [(.int (Int32.ofNat ka)), (.int (Int32.ofNat ka))])
    refine i_icmp_eq_Y w130 rfl at_350 (pc' := 355) (by decide) ?_
    refine i_iload w130 at_355 rfl (pc' := 357) rfl ?_
    refine i_iconst w130 at_357 (z := (1 : Int32)) (by decide) (pc' := 358) rfl ?_
    refine i_icmp_le_Y w130 (by decide) at_358 (pc' := 387) (by decide) ?_
    refine i_iload w130 at_387 rfl (pc' := 389) rfl ?_
    refine i_iconst w130 at_389 (z := (2 : Int32)) (by decide) (pc' := 390) rfl ?_
    refine i_icmp_le_Y w130 (by decide) at_390 (pc' := 419) (by decide) ?_
    refine i_iload w130 at_419 rfl (pc' := 421) rfl ?_
    refine i_iconst w130 at_421 (z := (3 : Int32)) (by decide) (pc' := 422) rfl ?_
    refine i_icmp_le_Y w130 (by decide) at_422 (pc' := 451) (by decide) ?_
    refine i_iconst w130 at_451 (z := (1 : Int32)) (by decide) (pc' := 452) rfl ?_
    exact i_retNW w130 hS126 (Nat.le_trans (Nat.le_trans (Nat.le_trans (Nat.le_refl _) K128.1) K129.1) K130.1) at_452 rfl (by simp) rfl (by decide) (by decide)
  ·
    refine c_staticW w hS hkS (y := (⟨"com/example/cluster_lock/clusterlock/redis/LockKeys", "hashTag", "(Ljava/lang/String;)Ljava/lang/String;"⟩ : MethodName)) (argsL := [(.ref a)]) (st := []) at_309 (hw _ (List.mem_of_getElem? (i := 43) rfl)) (hw _ (List.mem_of_getElem? (i := 44) rfl)) (hw _ (List.mem_of_getElem? (i := 45) rfl)) (hw _ (List.mem_of_getElem? (i := 46) rfl)) (by decide) own_pd_pLjava_lang_StringeqLjava_lang_Stringe rfl (own_tagN l Z a0 hw a t ct [ka] zo zc f G1 hG SG G3 hG3 SF h n0 w.old S (by simp) (by simp) hf ho hzo1 hcz hyo hnc) rfl (by decide) (W := 0) (Nat.le_of_eq rfl) (by decide) (by decide) (by decide) (fun _ q => nomatch q) (pc' := 312) rfl ?_
    intro v131 T131 h131 vm131 w131 hS131 K131 q131
    obtain rfl := q131
    show Goes p e below _ T131 (mkF m 312 #[.val (.int y0), .val (.int y1), .val (.int y2), .val (.int y3), .val (.int y4), .val (.int (1 : Int32)), .val (.int (Int32.ofNat ka)), .val (.int (Int32.ofNat kb)), .val (.int (Int32.ofNat kc)), .val (.int (Int32.ofNat kd)), .val (.ref a), .val (.int zo), .val (.int z12), .val (.int zc), .val (.int (0 : Int32)), .val (.int (1 : Int32)), .val (.int ((1 : Int32) - (0 : Int32))), .unset] [(.ref a)])
    have S_132 := S.keep K131 nin0 nin0
    refine i_astore w131 at_312 rfl (l' := #[.val (.int y0), .val (.int y1), .val (.int y2), .val (.int y3), .val (.int y4), .val (.int (1 : Int32)), .val (.int (Int32.ofNat ka)), .val (.int (Int32.ofNat kb)), .val (.int (Int32.ofNat kc)), .val (.int (Int32.ofNat kd)), .val (.ref a), .val (.int zo), .val (.int z12), .val (.int zc), .val (.int (0 : Int32)), .val (.int (1 : Int32)), .val (.int ((1 : Int32) - (0 : Int32))), .val (.ref a)]) rfl (pc' := 314) rfl ?_
    refine i_aload w131 at_314 rfl rfl (pc' := 316) rfl ?_
    refine c_virtual w131 (y := (⟨"java/lang/String", "length", "()I"⟩ : MethodName)) (C := "java/lang/String") (a := a) (argsL := []) (st := []) at_316 (hw _ (List.mem_of_getElem? (i := 105) rfl)) (hw _ (List.mem_of_getElem? (i := 78) rfl)) (hw _ (List.mem_of_getElem? (i := 80) rfl)) (hw _ (List.mem_of_getElem? (i := 79) rfl)) (hw _ (List.mem_of_getElem? (i := 81) rfl)) (hw _ (List.mem_of_getElem? (i := 9) rfl)) (by decide) own_pd_pqI rfl S_132.1 (own_length l Z a0 hw a t ct [ka] G1 hG SG h131 n0 w131.old (Or.inl S_132)) rfl (by decide) (W := 0) (Nat.le_of_eq rfl) (by decide) (by decide) (by decide) (fun _ q => nomatch q) (pc' := 319) rfl ?_
    intro v133 T133 h133 w133 K133 q133
    obtain ⟨rfl, rfl⟩ := q133
    show Goes p e below _ T133 (mkF m 319 #[.val (.int y0), .val (.int y1), .val (.int y2), .val (.int y3), .val (.int y4), .val (.int (1 : Int32)), .val (.int (Int32.ofNat ka)), .val (.int (Int32.ofNat kb)), .val (.int (Int32.ofNat kc)), .val (.int (Int32.ofNat kd)), .val (.ref a), .val (.int zo), .val (.int z12), .val (.int zc), .val (.int (0 : Int32)), .val (.int (1 : Int32)), .val (.int ((1 : Int32) - (0 : Int32))), .val (.ref a)] [(.int (1 : Int32))])
    refine i_iload w133 at_319 rfl (pc' := 321) rfl ?_
    refine i_icmp_eq_Y w133 rfl at_321 (pc' := 326) (by decide) ?_
    refine i_iload w133 at_326 rfl (pc' := 328) rfl ?_
    refine i_if_le_N w133 (by decide) at_328 (pc' := 331) rfl ?_
    refine i_aload w133 at_331 rfl rfl (pc' := 333) rfl ?_
    refine i_iconst w133 at_333 (z := (0 : Int32)) (by decide) (pc' := 334) rfl ?_
    refine c_virtual w133 (y := (⟨"java/lang/String", "charAt", "(I)C"⟩ : MethodName)) (C := "java/lang/String") (a := a) (argsL := [(.int (0 : Int32))]) (st := []) at_334 (hw _ (List.mem_of_getElem? (i := 106) rfl)) (hw _ (List.mem_of_getElem? (i := 107) rfl)) (hw _ (List.mem_of_getElem? (i := 109) rfl)) (hw _ (List.mem_of_getElem? (i := 108) rfl)) (hw _ (List.mem_of_getElem? (i := 110) rfl)) (hw _ (List.mem_of_getElem? (i := 9) rfl)) (by decide) own_pd_pIqC rfl S_132.1 (own_charAt l Z a0 hw a t ct [ka] 0 ka G1 hG SG G3 hG3 SF h131 n0 w133.old S_132 rfl) rfl (by decide) (W := 0) (Nat.le_of_eq rfl) (by decide) (by decide) (by decide) (fun _ q => nomatch q) (pc' := 337) rfl ?_
    intro v134 T134 h134 w134 K134 q134
    obtain ⟨rfl, rfl⟩ := q134
    show Goes p e below _ T134 (mkF m 337 #[.val (.int y0), .val (.int y1), .val (.int y2), .val (.int y3), .val (.int y4), .val (.int (1 : Int32)), .val (.int (Int32.ofNat ka)), .val (.int (Int32.ofNat kb)), .val (.int (Int32.ofNat kc)), .val (.int (Int32.ofNat kd)), .val (.ref a), .val (.int zo), .val (.int z12), .val (.int zc), .val (.int (0 : Int32)), .val (.int (1 : Int32)), .val (.int ((1 : Int32) - (0 : Int32))), .val (.ref a)] [(.int (Int32.ofNat ka))])
    refine i_iload w134 at_337 rfl (pc' := 339) rfl ?_
    refine i_iload w134 at_339 rfl (pc' := 341) rfl ?_
    refine i_iload w134 at_341 rfl (pc' := 343) rfl ?_
    refine i_iload w134 at_343 rfl (pc' := 345) rfl ?_
    refine i_iload w134 at_345 rfl (pc' := 347) rfl ?_
    refine c_static w134 (y := (⟨"com/example/cluster_lock/clusterlock/redis/LockKeysHashTagPinLaw", "at", "(ICCCC)C"⟩ : MethodName)) (argsL := [(.int (0 : Int32)), (.int (Int32.ofNat ka)), (.int (Int32.ofNat kb)), (.int (Int32.ofNat kc)), (.int (Int32.ofNat kd))]) (st := [(.int (Int32.ofNat ka))]) at_347 (hw _ (List.mem_of_getElem? (i := 40) rfl)) (hw _ (List.mem_of_getElem? (i := 41) rfl)) (hw _ (List.mem_of_getElem? (i := 2) rfl)) (hw _ (List.mem_of_getElem? (i := 42) rfl)) (by decide) own_pd_pICCCCqC rfl (own_at l Z a0 hw 0 ka kb kc kd h131 n0 w134.old (by decide) hka hkb hkc hkd) rfl (by decide) (W := 1) (Nat.le_of_eq rfl) (by decide) (by decide) (by decide) (fun _ q => nomatch q) (pc' := 350) rfl ?_
    intro v135 T135 h135 w135 K135 q135
    obtain ⟨rfl, rfl⟩ := q135
    show Goes p e below _ T135 (mkF m 350 #[.val (.int y0), .val (.int y1), .val (.int y2), .val (.int y3), .val (.int y4), .val (.int (1 : Int32)), .val (.int (Int32.ofNat ka)), .val (.int (Int32.ofNat kb)), .val (.int (Int32.ofNat kc)), .val (.int (Int32.ofNat kd)), .val (.ref a), .val (.int zo), .val (.int z12), .val (.int zc), .val (.int (0 : Int32)), .val (.int (1 : Int32)), .val (.int ((1 : Int32) - (0 : Int32))), .val (.ref a)] [(.int (Int32.ofNat ka)), (.int (Int32.ofNat ka))])
    refine i_icmp_eq_Y w135 rfl at_350 (pc' := 355) (by decide) ?_
    refine i_iload w135 at_355 rfl (pc' := 357) rfl ?_
    refine i_iconst w135 at_357 (z := (1 : Int32)) (by decide) (pc' := 358) rfl ?_
    refine i_icmp_le_Y w135 (by decide) at_358 (pc' := 387) (by decide) ?_
    refine i_iload w135 at_387 rfl (pc' := 389) rfl ?_
    refine i_iconst w135 at_389 (z := (2 : Int32)) (by decide) (pc' := 390) rfl ?_
    refine i_icmp_le_Y w135 (by decide) at_390 (pc' := 419) (by decide) ?_
    refine i_iload w135 at_419 rfl (pc' := 421) rfl ?_
    refine i_iconst w135 at_421 (z := (3 : Int32)) (by decide) (pc' := 422) rfl ?_
    refine i_icmp_le_Y w135 (by decide) at_422 (pc' := 451) (by decide) ?_
    refine i_iconst w135 at_451 (z := (1 : Int32)) (by decide) (pc' := 452) rfl ?_
    exact i_retNW w135 hS131 (Nat.le_trans (Nat.le_trans (Nat.le_trans (Nat.le_refl _) K133.1) K134.1) K135.1) at_452 rfl (by simp) rfl (by decide) (by decide)
set_option maxRecDepth 65536 in
set_option maxHeartbeats 40000000 in
theorem own_t2_0_2 (l : Launch) (Z : State) (a0 : Array Value) (hw : ∀ d ∈ tables_1, d.before a0 Z = true) (ka kb kc kd : Nat) (hka : ka < 256) (hkb : kb < 256) (hkc : kc < 256) (hkd : kd < 256) (y0 y1 y2 y3 y4 : Int32) (a t : Addr) (ct : ClassId) (zo z12 zc : Int32) (f : Nat) (G1 : Int32) (hG : ¬ G1 = 0) (SG : Sta Z Z.heap "java/lang/String" "COMPACT_STRINGS" "Z" (.int G1)) (G3 : Value) (hG3 : G3.isRef = true) (SF : Sta Z Z.heap "jdk/internal/util/Preconditions" "SIOOBE_FORMATTER" "Ljava/util/function/BiFunction;" G3) (h0 : Heap) (n0 : Nat) {p : Program} {e : Env} {s : State} {m : MethodId} {below : List Frame} {meth : Method} {c : Code} {vm : Vm} {kS : Nat} {T : State} {h : Heap} (w : Wk p l e room_1 (s.setVm vm) m #[(.int y0), (.int y1), (.int y2), (.int y3), (.int y4)] below meth c Z x.cls code maxLocals ret x.name n0 h0 [] T h 20 1000) (hS : s.Since vm kS) (hkS : kS ≤ h.size) (S : StrL Z h a t ct [ka, kb]) (hf : f ≤ 65536) (ho : ixv 123 [ka, kb] 0 = zo) (hzo1 : zo + 1 = Int32.ofNat f) (hcz : ixv 125 [ka, kb] f = zc) (hT : zo < 0 ∨ (¬ zo < 0 ∧ ¬ Int32.ofNat f < zc)) :
    Goes p e below (PW s n0 h0 [] (fun v h => v = some (.int 1)) room_1.cells room_1.slots) T (mkF m 300 #[.val (.int y0), .val (.int y1), .val (.int y2), .val (.int y3), .val (.int y4), .val (.int (2 : Int32)), .val (.int (Int32.ofNat ka)), .val (.int (Int32.ofNat kb)), .val (.int (Int32.ofNat kc)), .val (.int (Int32.ofNat kd)), .val (.ref a), .val (.int zo), .val (.int z12), .val (.int zc), .val (.int (0 : Int32)), .val (.int (2 : Int32)), .unset, .unset] []) := by
  refine i_iload w at_300 rfl (pc' := 302) rfl ?_
  refine i_iload w at_302 rfl (pc' := 304) rfl ?_
  refine i_isub w at_304 (pc' := 305) rfl ?_
  refine i_istore w at_305 (l' := #[.val (.int y0), .val (.int y1), .val (.int y2), .val (.int y3), .val (.int y4), .val (.int (2 : Int32)), .val (.int (Int32.ofNat ka)), .val (.int (Int32.ofNat kb)), .val (.int (Int32.ofNat kc)), .val (.int (Int32.ofNat kd)), .val (.ref a), .val (.int zo), .val (.int z12), .val (.int zc), .val (.int (0 : Int32)), .val (.int (2 : Int32)), .val (.int ((2 : Int32) - (0 : Int32))), .unset]) rfl (pc' := 307) rfl ?_
  refine i_aload w at_307 rfl rfl (pc' := 309) rfl ?_
  rcases hT with hno | ⟨hyo, hnc⟩
  ·
    refine c_staticW w hS hkS (y := (⟨"com/example/cluster_lock/clusterlock/redis/LockKeys", "hashTag", "(Ljava/lang/String;)Ljava/lang/String;"⟩ : MethodName)) (argsL := [(.ref a)]) (st := []) at_309 (hw _ (List.mem_of_getElem? (i := 43) rfl)) (hw _ (List.mem_of_getElem? (i := 44) rfl)) (hw _ (List.mem_of_getElem? (i := 45) rfl)) (hw _ (List.mem_of_getElem? (i := 46) rfl)) (by decide) own_pd_pLjava_lang_StringeqLjava_lang_Stringe rfl (own_tagW l Z a0 hw a t ct [ka, kb] zo zc f G1 hG SG G3 hG3 SF h n0 w.old S (by simp) (by simp) hf ho hzo1 hcz hno) rfl (by decide) (W := 0) (Nat.le_of_eq rfl) (by decide) (by decide) (by decide) (fun _ q => nomatch q) (pc' := 312) rfl ?_
    intro v136 T136 h136 vm136 w136 hS136 K136 q136
    obtain rfl := q136
    show Goes p e below _ T136 (mkF m 312 #[.val (.int y0), .val (.int y1), .val (.int y2), .val (.int y3), .val (.int y4), .val (.int (2 : Int32)), .val (.int (Int32.ofNat ka)), .val (.int (Int32.ofNat kb)), .val (.int (Int32.ofNat kc)), .val (.int (Int32.ofNat kd)), .val (.ref a), .val (.int zo), .val (.int z12), .val (.int zc), .val (.int (0 : Int32)), .val (.int (2 : Int32)), .val (.int ((2 : Int32) - (0 : Int32))), .unset] [(.ref a)])
    have S_137 := S.keep K136 nin0 nin0
    refine i_astore w136 at_312 rfl (l' := #[.val (.int y0), .val (.int y1), .val (.int y2), .val (.int y3), .val (.int y4), .val (.int (2 : Int32)), .val (.int (Int32.ofNat ka)), .val (.int (Int32.ofNat kb)), .val (.int (Int32.ofNat kc)), .val (.int (Int32.ofNat kd)), .val (.ref a), .val (.int zo), .val (.int z12), .val (.int zc), .val (.int (0 : Int32)), .val (.int (2 : Int32)), .val (.int ((2 : Int32) - (0 : Int32))), .val (.ref a)]) rfl (pc' := 314) rfl ?_
    refine i_aload w136 at_314 rfl rfl (pc' := 316) rfl ?_
    refine c_virtual w136 (y := (⟨"java/lang/String", "length", "()I"⟩ : MethodName)) (C := "java/lang/String") (a := a) (argsL := []) (st := []) at_316 (hw _ (List.mem_of_getElem? (i := 105) rfl)) (hw _ (List.mem_of_getElem? (i := 78) rfl)) (hw _ (List.mem_of_getElem? (i := 80) rfl)) (hw _ (List.mem_of_getElem? (i := 79) rfl)) (hw _ (List.mem_of_getElem? (i := 81) rfl)) (hw _ (List.mem_of_getElem? (i := 9) rfl)) (by decide) own_pd_pqI rfl S_137.1 (own_length l Z a0 hw a t ct [ka, kb] G1 hG SG h136 n0 w136.old (Or.inl S_137)) rfl (by decide) (W := 0) (Nat.le_of_eq rfl) (by decide) (by decide) (by decide) (fun _ q => nomatch q) (pc' := 319) rfl ?_
    intro v138 T138 h138 w138 K138 q138
    obtain ⟨rfl, rfl⟩ := q138
    show Goes p e below _ T138 (mkF m 319 #[.val (.int y0), .val (.int y1), .val (.int y2), .val (.int y3), .val (.int y4), .val (.int (2 : Int32)), .val (.int (Int32.ofNat ka)), .val (.int (Int32.ofNat kb)), .val (.int (Int32.ofNat kc)), .val (.int (Int32.ofNat kd)), .val (.ref a), .val (.int zo), .val (.int z12), .val (.int zc), .val (.int (0 : Int32)), .val (.int (2 : Int32)), .val (.int ((2 : Int32) - (0 : Int32))), .val (.ref a)] [(.int (2 : Int32))])
    refine i_iload w138 at_319 rfl (pc' := 321) rfl ?_
    refine i_icmp_eq_Y w138 rfl at_321 (pc' := 326) (by decide) ?_
    refine i_iload w138 at_326 rfl (pc' := 328) rfl ?_
    refine i_if_le_N w138 (by decide) at_328 (pc' := 331) rfl ?_
    refine i_aload w138 at_331 rfl rfl (pc' := 333) rfl ?_
    refine i_iconst w138 at_333 (z := (0 : Int32)) (by decide) (pc' := 334) rfl ?_
    refine c_virtual w138 (y := (⟨"java/lang/String", "charAt", "(I)C"⟩ : MethodName)) (C := "java/lang/String") (a := a) (argsL := [(.int (0 : Int32))]) (st := []) at_334 (hw _ (List.mem_of_getElem? (i := 106) rfl)) (hw _ (List.mem_of_getElem? (i := 107) rfl)) (hw _ (List.mem_of_getElem? (i := 109) rfl)) (hw _ (List.mem_of_getElem? (i := 108) rfl)) (hw _ (List.mem_of_getElem? (i := 110) rfl)) (hw _ (List.mem_of_getElem? (i := 9) rfl)) (by decide) own_pd_pIqC rfl S_137.1 (own_charAt l Z a0 hw a t ct [ka, kb] 0 ka G1 hG SG G3 hG3 SF h136 n0 w138.old S_137 rfl) rfl (by decide) (W := 0) (Nat.le_of_eq rfl) (by decide) (by decide) (by decide) (fun _ q => nomatch q) (pc' := 337) rfl ?_
    intro v139 T139 h139 w139 K139 q139
    obtain ⟨rfl, rfl⟩ := q139
    show Goes p e below _ T139 (mkF m 337 #[.val (.int y0), .val (.int y1), .val (.int y2), .val (.int y3), .val (.int y4), .val (.int (2 : Int32)), .val (.int (Int32.ofNat ka)), .val (.int (Int32.ofNat kb)), .val (.int (Int32.ofNat kc)), .val (.int (Int32.ofNat kd)), .val (.ref a), .val (.int zo), .val (.int z12), .val (.int zc), .val (.int (0 : Int32)), .val (.int (2 : Int32)), .val (.int ((2 : Int32) - (0 : Int32))), .val (.ref a)] [(.int (Int32.ofNat ka))])
    refine i_iload w139 at_337 rfl (pc' := 339) rfl ?_
    refine i_iload w139 at_339 rfl (pc' := 341) rfl ?_
    refine i_iload w139 at_341 rfl (pc' := 343) rfl ?_
    refine i_iload w139 at_343 rfl (pc' := 345) rfl ?_
    refine i_iload w139 at_345 rfl (pc' := 347) rfl ?_
    refine c_static w139 (y := (⟨"com/example/cluster_lock/clusterlock/redis/LockKeysHashTagPinLaw", "at", "(ICCCC)C"⟩ : MethodName)) (argsL := [(.int (0 : Int32)), (.int (Int32.ofNat ka)), (.int (Int32.ofNat kb)), (.int (Int32.ofNat kc)), (.int (Int32.ofNat kd))]) (st := [(.int (Int32.ofNat ka))]) at_347 (hw _ (List.mem_of_getElem? (i := 40) rfl)) (hw _ (List.mem_of_getElem? (i := 41) rfl)) (hw _ (List.mem_of_getElem? (i := 2) rfl)) (hw _ (List.mem_of_getElem? (i := 42) rfl)) (by decide) own_pd_pICCCCqC rfl (own_at l Z a0 hw 0 ka kb kc kd h136 n0 w139.old (by decide) hka hkb hkc hkd) rfl (by decide) (W := 1) (Nat.le_of_eq rfl) (by decide) (by decide) (by decide) (fun _ q => nomatch q) (pc' := 350) rfl ?_
    intro v140 T140 h140 w140 K140 q140
    obtain ⟨rfl, rfl⟩ := q140
    show Goes p e below _ T140 (mkF m 350 #[.val (.int y0), .val (.int y1), .val (.int y2), .val (.int y3), .val (.int y4), .val (.int (2 : Int32)), .val (.int (Int32.ofNat ka)), .val (.int (Int32.ofNat kb)), .val (.int (Int32.ofNat kc)), .val (.int (Int32.ofNat kd)), .val (.ref a), .val (.int zo), .val (.int z12), .val (.int zc), .val (.int (0 : Int32)), .val (.int (2 : Int32)), .val (.int ((2 : Int32) - (0 : Int32))), .val (.ref a)] [(.int (Int32.ofNat ka)), (.int (Int32.ofNat ka))])
    refine i_icmp_eq_Y w140 rfl at_350 (pc' := 355) (by decide) ?_
    refine i_iload w140 at_355 rfl (pc' := 357) rfl ?_
    refine i_iconst w140 at_357 (z := (1 : Int32)) (by decide) (pc' := 358) rfl ?_
    refine i_icmp_le_N w140 (by decide) at_358 (pc' := 361) rfl ?_
    refine i_aload w140 at_361 rfl rfl (pc' := 363) rfl ?_
    refine i_iconst w140 at_363 (z := (1 : Int32)) (by decide) (pc' := 364) rfl ?_
    refine c_virtual w140 (y := (⟨"java/lang/String", "charAt", "(I)C"⟩ : MethodName)) (C := "java/lang/String") (a := a) (argsL := [(.int (1 : Int32))]) (st := []) at_364 (hw _ (List.mem_of_getElem? (i := 106) rfl)) (hw _ (List.mem_of_getElem? (i := 107) rfl)) (hw _ (List.mem_of_getElem? (i := 109) rfl)) (hw _ (List.mem_of_getElem? (i := 108) rfl)) (hw _ (List.mem_of_getElem? (i := 110) rfl)) (hw _ (List.mem_of_getElem? (i := 9) rfl)) (by decide) own_pd_pIqC rfl S_137.1 (own_charAt l Z a0 hw a t ct [ka, kb] 1 kb G1 hG SG G3 hG3 SF h136 n0 w140.old S_137 rfl) rfl (by decide) (W := 0) (Nat.le_of_eq rfl) (by decide) (by decide) (by decide) (fun _ q => nomatch q) (pc' := 367) rfl ?_
    intro v141 T141 h141 w141 K141 q141
    obtain ⟨rfl, rfl⟩ := q141
    show Goes p e below _ T141 (mkF m 367 #[.val (.int y0), .val (.int y1), .val (.int y2), .val (.int y3), .val (.int y4), .val (.int (2 : Int32)), .val (.int (Int32.ofNat ka)), .val (.int (Int32.ofNat kb)), .val (.int (Int32.ofNat kc)), .val (.int (Int32.ofNat kd)), .val (.ref a), .val (.int zo), .val (.int z12), .val (.int zc), .val (.int (0 : Int32)), .val (.int (2 : Int32)), .val (.int ((2 : Int32) - (0 : Int32))), .val (.ref a)] [(.int (Int32.ofNat kb))])
    refine i_iload w141 at_367 rfl (pc' := 369) rfl ?_
    refine i_iconst w141 at_369 (z := (1 : Int32)) (by decide) (pc' := 370) rfl ?_
    refine i_iadd w141 at_370 (pc' := 371) rfl ?_
    refine i_iload w141 at_371 rfl (pc' := 373) rfl ?_
    refine i_iload w141 at_373 rfl (pc' := 375) rfl ?_
    refine i_iload w141 at_375 rfl (pc' := 377) rfl ?_
    refine i_iload w141 at_377 rfl (pc' := 379) rfl ?_
    refine c_static w141 (y := (⟨"com/example/cluster_lock/clusterlock/redis/LockKeysHashTagPinLaw", "at", "(ICCCC)C"⟩ : MethodName)) (argsL := [(.int ((0 : Int32) + (1 : Int32))), (.int (Int32.ofNat ka)), (.int (Int32.ofNat kb)), (.int (Int32.ofNat kc)), (.int (Int32.ofNat kd))]) (st := [(.int (Int32.ofNat kb))]) at_379 (hw _ (List.mem_of_getElem? (i := 40) rfl)) (hw _ (List.mem_of_getElem? (i := 41) rfl)) (hw _ (List.mem_of_getElem? (i := 2) rfl)) (hw _ (List.mem_of_getElem? (i := 42) rfl)) (by decide) own_pd_pICCCCqC rfl (own_at l Z a0 hw 1 ka kb kc kd h136 n0 w141.old (by decide) hka hkb hkc hkd) rfl (by decide) (W := 1) (Nat.le_of_eq rfl) (by decide) (by decide) (by decide) (fun _ q => nomatch q) (pc' := 382) rfl ?_
    intro v142 T142 h142 w142 K142 q142
    obtain ⟨rfl, rfl⟩ := q142
    show Goes p e below _ T142 (mkF m 382 #[.val (.int y0), .val (.int y1), .val (.int y2), .val (.int y3), .val (.int y4), .val (.int (2 : Int32)), .val (.int (Int32.ofNat ka)), .val (.int (Int32.ofNat kb)), .val (.int (Int32.ofNat kc)), .val (.int (Int32.ofNat kd)), .val (.ref a), .val (.int zo), .val (.int z12), .val (.int zc), .val (.int (0 : Int32)), .val (.int (2 : Int32)), .val (.int ((2 : Int32) - (0 : Int32))), .val (.ref a)] [(.int (Int32.ofNat kb)), (.int (Int32.ofNat kb))])
    refine i_icmp_eq_Y w142 rfl at_382 (pc' := 387) (by decide) ?_
    refine i_iload w142 at_387 rfl (pc' := 389) rfl ?_
    refine i_iconst w142 at_389 (z := (2 : Int32)) (by decide) (pc' := 390) rfl ?_
    refine i_icmp_le_Y w142 (by decide) at_390 (pc' := 419) (by decide) ?_
    refine i_iload w142 at_419 rfl (pc' := 421) rfl ?_
    refine i_iconst w142 at_421 (z := (3 : Int32)) (by decide) (pc' := 422) rfl ?_
    refine i_icmp_le_Y w142 (by decide) at_422 (pc' := 451) (by decide) ?_
    refine i_iconst w142 at_451 (z := (1 : Int32)) (by decide) (pc' := 452) rfl ?_
    exact i_retNW w142 hS136 (Nat.le_trans (Nat.le_trans (Nat.le_trans (Nat.le_trans (Nat.le_trans (Nat.le_refl _) K138.1) K139.1) K140.1) K141.1) K142.1) at_452 rfl (by simp) rfl (by decide) (by decide)
  ·
    refine c_staticW w hS hkS (y := (⟨"com/example/cluster_lock/clusterlock/redis/LockKeys", "hashTag", "(Ljava/lang/String;)Ljava/lang/String;"⟩ : MethodName)) (argsL := [(.ref a)]) (st := []) at_309 (hw _ (List.mem_of_getElem? (i := 43) rfl)) (hw _ (List.mem_of_getElem? (i := 44) rfl)) (hw _ (List.mem_of_getElem? (i := 45) rfl)) (hw _ (List.mem_of_getElem? (i := 46) rfl)) (by decide) own_pd_pLjava_lang_StringeqLjava_lang_Stringe rfl (own_tagN l Z a0 hw a t ct [ka, kb] zo zc f G1 hG SG G3 hG3 SF h n0 w.old S (by simp) (by simp) hf ho hzo1 hcz hyo hnc) rfl (by decide) (W := 0) (Nat.le_of_eq rfl) (by decide) (by decide) (by decide) (fun _ q => nomatch q) (pc' := 312) rfl ?_
    intro v143 T143 h143 vm143 w143 hS143 K143 q143
    obtain rfl := q143
    show Goes p e below _ T143 (mkF m 312 #[.val (.int y0), .val (.int y1), .val (.int y2), .val (.int y3), .val (.int y4), .val (.int (2 : Int32)), .val (.int (Int32.ofNat ka)), .val (.int (Int32.ofNat kb)), .val (.int (Int32.ofNat kc)), .val (.int (Int32.ofNat kd)), .val (.ref a), .val (.int zo), .val (.int z12), .val (.int zc), .val (.int (0 : Int32)), .val (.int (2 : Int32)), .val (.int ((2 : Int32) - (0 : Int32))), .unset] [(.ref a)])
    have S_144 := S.keep K143 nin0 nin0
    refine i_astore w143 at_312 rfl (l' := #[.val (.int y0), .val (.int y1), .val (.int y2), .val (.int y3), .val (.int y4), .val (.int (2 : Int32)), .val (.int (Int32.ofNat ka)), .val (.int (Int32.ofNat kb)), .val (.int (Int32.ofNat kc)), .val (.int (Int32.ofNat kd)), .val (.ref a), .val (.int zo), .val (.int z12), .val (.int zc), .val (.int (0 : Int32)), .val (.int (2 : Int32)), .val (.int ((2 : Int32) - (0 : Int32))), .val (.ref a)]) rfl (pc' := 314) rfl ?_
    refine i_aload w143 at_314 rfl rfl (pc' := 316) rfl ?_
    refine c_virtual w143 (y := (⟨"java/lang/String", "length", "()I"⟩ : MethodName)) (C := "java/lang/String") (a := a) (argsL := []) (st := []) at_316 (hw _ (List.mem_of_getElem? (i := 105) rfl)) (hw _ (List.mem_of_getElem? (i := 78) rfl)) (hw _ (List.mem_of_getElem? (i := 80) rfl)) (hw _ (List.mem_of_getElem? (i := 79) rfl)) (hw _ (List.mem_of_getElem? (i := 81) rfl)) (hw _ (List.mem_of_getElem? (i := 9) rfl)) (by decide) own_pd_pqI rfl S_144.1 (own_length l Z a0 hw a t ct [ka, kb] G1 hG SG h143 n0 w143.old (Or.inl S_144)) rfl (by decide) (W := 0) (Nat.le_of_eq rfl) (by decide) (by decide) (by decide) (fun _ q => nomatch q) (pc' := 319) rfl ?_
    intro v145 T145 h145 w145 K145 q145
    obtain ⟨rfl, rfl⟩ := q145
    show Goes p e below _ T145 (mkF m 319 #[.val (.int y0), .val (.int y1), .val (.int y2), .val (.int y3), .val (.int y4), .val (.int (2 : Int32)), .val (.int (Int32.ofNat ka)), .val (.int (Int32.ofNat kb)), .val (.int (Int32.ofNat kc)), .val (.int (Int32.ofNat kd)), .val (.ref a), .val (.int zo), .val (.int z12), .val (.int zc), .val (.int (0 : Int32)), .val (.int (2 : Int32)), .val (.int ((2 : Int32) - (0 : Int32))), .val (.ref a)] [(.int (2 : Int32))])
    refine i_iload w145 at_319 rfl (pc' := 321) rfl ?_
    refine i_icmp_eq_Y w145 rfl at_321 (pc' := 326) (by decide) ?_
    refine i_iload w145 at_326 rfl (pc' := 328) rfl ?_
    refine i_if_le_N w145 (by decide) at_328 (pc' := 331) rfl ?_
    refine i_aload w145 at_331 rfl rfl (pc' := 333) rfl ?_
    refine i_iconst w145 at_333 (z := (0 : Int32)) (by decide) (pc' := 334) rfl ?_
    refine c_virtual w145 (y := (⟨"java/lang/String", "charAt", "(I)C"⟩ : MethodName)) (C := "java/lang/String") (a := a) (argsL := [(.int (0 : Int32))]) (st := []) at_334 (hw _ (List.mem_of_getElem? (i := 106) rfl)) (hw _ (List.mem_of_getElem? (i := 107) rfl)) (hw _ (List.mem_of_getElem? (i := 109) rfl)) (hw _ (List.mem_of_getElem? (i := 108) rfl)) (hw _ (List.mem_of_getElem? (i := 110) rfl)) (hw _ (List.mem_of_getElem? (i := 9) rfl)) (by decide) own_pd_pIqC rfl S_144.1 (own_charAt l Z a0 hw a t ct [ka, kb] 0 ka G1 hG SG G3 hG3 SF h143 n0 w145.old S_144 rfl) rfl (by decide) (W := 0) (Nat.le_of_eq rfl) (by decide) (by decide) (by decide) (fun _ q => nomatch q) (pc' := 337) rfl ?_
    intro v146 T146 h146 w146 K146 q146
    obtain ⟨rfl, rfl⟩ := q146
    show Goes p e below _ T146 (mkF m 337 #[.val (.int y0), .val (.int y1), .val (.int y2), .val (.int y3), .val (.int y4), .val (.int (2 : Int32)), .val (.int (Int32.ofNat ka)), .val (.int (Int32.ofNat kb)), .val (.int (Int32.ofNat kc)), .val (.int (Int32.ofNat kd)), .val (.ref a), .val (.int zo), .val (.int z12), .val (.int zc), .val (.int (0 : Int32)), .val (.int (2 : Int32)), .val (.int ((2 : Int32) - (0 : Int32))), .val (.ref a)] [(.int (Int32.ofNat ka))])
    refine i_iload w146 at_337 rfl (pc' := 339) rfl ?_
    refine i_iload w146 at_339 rfl (pc' := 341) rfl ?_
    refine i_iload w146 at_341 rfl (pc' := 343) rfl ?_
    refine i_iload w146 at_343 rfl (pc' := 345) rfl ?_
    refine i_iload w146 at_345 rfl (pc' := 347) rfl ?_
    refine c_static w146 (y := (⟨"com/example/cluster_lock/clusterlock/redis/LockKeysHashTagPinLaw", "at", "(ICCCC)C"⟩ : MethodName)) (argsL := [(.int (0 : Int32)), (.int (Int32.ofNat ka)), (.int (Int32.ofNat kb)), (.int (Int32.ofNat kc)), (.int (Int32.ofNat kd))]) (st := [(.int (Int32.ofNat ka))]) at_347 (hw _ (List.mem_of_getElem? (i := 40) rfl)) (hw _ (List.mem_of_getElem? (i := 41) rfl)) (hw _ (List.mem_of_getElem? (i := 2) rfl)) (hw _ (List.mem_of_getElem? (i := 42) rfl)) (by decide) own_pd_pICCCCqC rfl (own_at l Z a0 hw 0 ka kb kc kd h143 n0 w146.old (by decide) hka hkb hkc hkd) rfl (by decide) (W := 1) (Nat.le_of_eq rfl) (by decide) (by decide) (by decide) (fun _ q => nomatch q) (pc' := 350) rfl ?_
    intro v147 T147 h147 w147 K147 q147
    obtain ⟨rfl, rfl⟩ := q147
    show Goes p e below _ T147 (mkF m 350 #[.val (.int y0), .val (.int y1), .val (.int y2), .val (.int y3), .val (.int y4), .val (.int (2 : Int32)), .val (.int (Int32.ofNat ka)), .val (.int (Int32.ofNat kb)), .val (.int (Int32.ofNat kc)), .val (.int (Int32.ofNat kd)), .val (.ref a), .val (.int zo), .val (.int z12), .val (.int zc), .val (.int (0 : Int32)), .val (.int (2 : Int32)), .val (.int ((2 : Int32) - (0 : Int32))), .val (.ref a)] [(.int (Int32.ofNat ka)), (.int (Int32.ofNat ka))])
    refine i_icmp_eq_Y w147 rfl at_350 (pc' := 355) (by decide) ?_
    refine i_iload w147 at_355 rfl (pc' := 357) rfl ?_
    refine i_iconst w147 at_357 (z := (1 : Int32)) (by decide) (pc' := 358) rfl ?_
    refine i_icmp_le_N w147 (by decide) at_358 (pc' := 361) rfl ?_
    refine i_aload w147 at_361 rfl rfl (pc' := 363) rfl ?_
    refine i_iconst w147 at_363 (z := (1 : Int32)) (by decide) (pc' := 364) rfl ?_
    refine c_virtual w147 (y := (⟨"java/lang/String", "charAt", "(I)C"⟩ : MethodName)) (C := "java/lang/String") (a := a) (argsL := [(.int (1 : Int32))]) (st := []) at_364 (hw _ (List.mem_of_getElem? (i := 106) rfl)) (hw _ (List.mem_of_getElem? (i := 107) rfl)) (hw _ (List.mem_of_getElem? (i := 109) rfl)) (hw _ (List.mem_of_getElem? (i := 108) rfl)) (hw _ (List.mem_of_getElem? (i := 110) rfl)) (hw _ (List.mem_of_getElem? (i := 9) rfl)) (by decide) own_pd_pIqC rfl S_144.1 (own_charAt l Z a0 hw a t ct [ka, kb] 1 kb G1 hG SG G3 hG3 SF h143 n0 w147.old S_144 rfl) rfl (by decide) (W := 0) (Nat.le_of_eq rfl) (by decide) (by decide) (by decide) (fun _ q => nomatch q) (pc' := 367) rfl ?_
    intro v148 T148 h148 w148 K148 q148
    obtain ⟨rfl, rfl⟩ := q148
    show Goes p e below _ T148 (mkF m 367 #[.val (.int y0), .val (.int y1), .val (.int y2), .val (.int y3), .val (.int y4), .val (.int (2 : Int32)), .val (.int (Int32.ofNat ka)), .val (.int (Int32.ofNat kb)), .val (.int (Int32.ofNat kc)), .val (.int (Int32.ofNat kd)), .val (.ref a), .val (.int zo), .val (.int z12), .val (.int zc), .val (.int (0 : Int32)), .val (.int (2 : Int32)), .val (.int ((2 : Int32) - (0 : Int32))), .val (.ref a)] [(.int (Int32.ofNat kb))])
    refine i_iload w148 at_367 rfl (pc' := 369) rfl ?_
    refine i_iconst w148 at_369 (z := (1 : Int32)) (by decide) (pc' := 370) rfl ?_
    refine i_iadd w148 at_370 (pc' := 371) rfl ?_
    refine i_iload w148 at_371 rfl (pc' := 373) rfl ?_
    refine i_iload w148 at_373 rfl (pc' := 375) rfl ?_
    refine i_iload w148 at_375 rfl (pc' := 377) rfl ?_
    refine i_iload w148 at_377 rfl (pc' := 379) rfl ?_
    refine c_static w148 (y := (⟨"com/example/cluster_lock/clusterlock/redis/LockKeysHashTagPinLaw", "at", "(ICCCC)C"⟩ : MethodName)) (argsL := [(.int ((0 : Int32) + (1 : Int32))), (.int (Int32.ofNat ka)), (.int (Int32.ofNat kb)), (.int (Int32.ofNat kc)), (.int (Int32.ofNat kd))]) (st := [(.int (Int32.ofNat kb))]) at_379 (hw _ (List.mem_of_getElem? (i := 40) rfl)) (hw _ (List.mem_of_getElem? (i := 41) rfl)) (hw _ (List.mem_of_getElem? (i := 2) rfl)) (hw _ (List.mem_of_getElem? (i := 42) rfl)) (by decide) own_pd_pICCCCqC rfl (own_at l Z a0 hw 1 ka kb kc kd h143 n0 w148.old (by decide) hka hkb hkc hkd) rfl (by decide) (W := 1) (Nat.le_of_eq rfl) (by decide) (by decide) (by decide) (fun _ q => nomatch q) (pc' := 382) rfl ?_
    intro v149 T149 h149 w149 K149 q149
    obtain ⟨rfl, rfl⟩ := q149
    show Goes p e below _ T149 (mkF m 382 #[.val (.int y0), .val (.int y1), .val (.int y2), .val (.int y3), .val (.int y4), .val (.int (2 : Int32)), .val (.int (Int32.ofNat ka)), .val (.int (Int32.ofNat kb)), .val (.int (Int32.ofNat kc)), .val (.int (Int32.ofNat kd)), .val (.ref a), .val (.int zo), .val (.int z12), .val (.int zc), .val (.int (0 : Int32)), .val (.int (2 : Int32)), .val (.int ((2 : Int32) - (0 : Int32))), .val (.ref a)] [(.int (Int32.ofNat kb)), (.int (Int32.ofNat kb))])
    refine i_icmp_eq_Y w149 rfl at_382 (pc' := 387) (by decide) ?_
    refine i_iload w149 at_387 rfl (pc' := 389) rfl ?_
    refine i_iconst w149 at_389 (z := (2 : Int32)) (by decide) (pc' := 390) rfl ?_
    refine i_icmp_le_Y w149 (by decide) at_390 (pc' := 419) (by decide) ?_
    refine i_iload w149 at_419 rfl (pc' := 421) rfl ?_
    refine i_iconst w149 at_421 (z := (3 : Int32)) (by decide) (pc' := 422) rfl ?_
    refine i_icmp_le_Y w149 (by decide) at_422 (pc' := 451) (by decide) ?_
    refine i_iconst w149 at_451 (z := (1 : Int32)) (by decide) (pc' := 452) rfl ?_
    exact i_retNW w149 hS143 (Nat.le_trans (Nat.le_trans (Nat.le_trans (Nat.le_trans (Nat.le_trans (Nat.le_refl _) K145.1) K146.1) K147.1) K148.1) K149.1) at_452 rfl (by simp) rfl (by decide) (by decide)
set_option maxRecDepth 65536 in
set_option maxHeartbeats 40000000 in
theorem own_t3_0_3 (l : Launch) (Z : State) (a0 : Array Value) (hw : ∀ d ∈ tables_1, d.before a0 Z = true) (ka kb kc kd : Nat) (hka : ka < 256) (hkb : kb < 256) (hkc : kc < 256) (hkd : kd < 256) (y0 y1 y2 y3 y4 : Int32) (a t : Addr) (ct : ClassId) (zo z12 zc : Int32) (f : Nat) (G1 : Int32) (hG : ¬ G1 = 0) (SG : Sta Z Z.heap "java/lang/String" "COMPACT_STRINGS" "Z" (.int G1)) (G3 : Value) (hG3 : G3.isRef = true) (SF : Sta Z Z.heap "jdk/internal/util/Preconditions" "SIOOBE_FORMATTER" "Ljava/util/function/BiFunction;" G3) (h0 : Heap) (n0 : Nat) {p : Program} {e : Env} {s : State} {m : MethodId} {below : List Frame} {meth : Method} {c : Code} {vm : Vm} {kS : Nat} {T : State} {h : Heap} (w : Wk p l e room_1 (s.setVm vm) m #[(.int y0), (.int y1), (.int y2), (.int y3), (.int y4)] below meth c Z x.cls code maxLocals ret x.name n0 h0 [] T h 20 1000) (hS : s.Since vm kS) (hkS : kS ≤ h.size) (S : StrL Z h a t ct [ka, kb, kc]) (hf : f ≤ 65536) (ho : ixv 123 [ka, kb, kc] 0 = zo) (hzo1 : zo + 1 = Int32.ofNat f) (hcz : ixv 125 [ka, kb, kc] f = zc) (hT : zo < 0 ∨ (¬ zo < 0 ∧ ¬ Int32.ofNat f < zc)) :
    Goes p e below (PW s n0 h0 [] (fun v h => v = some (.int 1)) room_1.cells room_1.slots) T (mkF m 300 #[.val (.int y0), .val (.int y1), .val (.int y2), .val (.int y3), .val (.int y4), .val (.int (3 : Int32)), .val (.int (Int32.ofNat ka)), .val (.int (Int32.ofNat kb)), .val (.int (Int32.ofNat kc)), .val (.int (Int32.ofNat kd)), .val (.ref a), .val (.int zo), .val (.int z12), .val (.int zc), .val (.int (0 : Int32)), .val (.int (3 : Int32)), .unset, .unset] []) := by
  refine i_iload w at_300 rfl (pc' := 302) rfl ?_
  refine i_iload w at_302 rfl (pc' := 304) rfl ?_
  refine i_isub w at_304 (pc' := 305) rfl ?_
  refine i_istore w at_305 (l' := #[.val (.int y0), .val (.int y1), .val (.int y2), .val (.int y3), .val (.int y4), .val (.int (3 : Int32)), .val (.int (Int32.ofNat ka)), .val (.int (Int32.ofNat kb)), .val (.int (Int32.ofNat kc)), .val (.int (Int32.ofNat kd)), .val (.ref a), .val (.int zo), .val (.int z12), .val (.int zc), .val (.int (0 : Int32)), .val (.int (3 : Int32)), .val (.int ((3 : Int32) - (0 : Int32))), .unset]) rfl (pc' := 307) rfl ?_
  refine i_aload w at_307 rfl rfl (pc' := 309) rfl ?_
  rcases hT with hno | ⟨hyo, hnc⟩
  ·
    refine c_staticW w hS hkS (y := (⟨"com/example/cluster_lock/clusterlock/redis/LockKeys", "hashTag", "(Ljava/lang/String;)Ljava/lang/String;"⟩ : MethodName)) (argsL := [(.ref a)]) (st := []) at_309 (hw _ (List.mem_of_getElem? (i := 43) rfl)) (hw _ (List.mem_of_getElem? (i := 44) rfl)) (hw _ (List.mem_of_getElem? (i := 45) rfl)) (hw _ (List.mem_of_getElem? (i := 46) rfl)) (by decide) own_pd_pLjava_lang_StringeqLjava_lang_Stringe rfl (own_tagW l Z a0 hw a t ct [ka, kb, kc] zo zc f G1 hG SG G3 hG3 SF h n0 w.old S (by simp) (by simp) hf ho hzo1 hcz hno) rfl (by decide) (W := 0) (Nat.le_of_eq rfl) (by decide) (by decide) (by decide) (fun _ q => nomatch q) (pc' := 312) rfl ?_
    intro v150 T150 h150 vm150 w150 hS150 K150 q150
    obtain rfl := q150
    show Goes p e below _ T150 (mkF m 312 #[.val (.int y0), .val (.int y1), .val (.int y2), .val (.int y3), .val (.int y4), .val (.int (3 : Int32)), .val (.int (Int32.ofNat ka)), .val (.int (Int32.ofNat kb)), .val (.int (Int32.ofNat kc)), .val (.int (Int32.ofNat kd)), .val (.ref a), .val (.int zo), .val (.int z12), .val (.int zc), .val (.int (0 : Int32)), .val (.int (3 : Int32)), .val (.int ((3 : Int32) - (0 : Int32))), .unset] [(.ref a)])
    have S_151 := S.keep K150 nin0 nin0
    refine i_astore w150 at_312 rfl (l' := #[.val (.int y0), .val (.int y1), .val (.int y2), .val (.int y3), .val (.int y4), .val (.int (3 : Int32)), .val (.int (Int32.ofNat ka)), .val (.int (Int32.ofNat kb)), .val (.int (Int32.ofNat kc)), .val (.int (Int32.ofNat kd)), .val (.ref a), .val (.int zo), .val (.int z12), .val (.int zc), .val (.int (0 : Int32)), .val (.int (3 : Int32)), .val (.int ((3 : Int32) - (0 : Int32))), .val (.ref a)]) rfl (pc' := 314) rfl ?_
    refine i_aload w150 at_314 rfl rfl (pc' := 316) rfl ?_
    refine c_virtual w150 (y := (⟨"java/lang/String", "length", "()I"⟩ : MethodName)) (C := "java/lang/String") (a := a) (argsL := []) (st := []) at_316 (hw _ (List.mem_of_getElem? (i := 105) rfl)) (hw _ (List.mem_of_getElem? (i := 78) rfl)) (hw _ (List.mem_of_getElem? (i := 80) rfl)) (hw _ (List.mem_of_getElem? (i := 79) rfl)) (hw _ (List.mem_of_getElem? (i := 81) rfl)) (hw _ (List.mem_of_getElem? (i := 9) rfl)) (by decide) own_pd_pqI rfl S_151.1 (own_length l Z a0 hw a t ct [ka, kb, kc] G1 hG SG h150 n0 w150.old (Or.inl S_151)) rfl (by decide) (W := 0) (Nat.le_of_eq rfl) (by decide) (by decide) (by decide) (fun _ q => nomatch q) (pc' := 319) rfl ?_
    intro v152 T152 h152 w152 K152 q152
    obtain ⟨rfl, rfl⟩ := q152
    show Goes p e below _ T152 (mkF m 319 #[.val (.int y0), .val (.int y1), .val (.int y2), .val (.int y3), .val (.int y4), .val (.int (3 : Int32)), .val (.int (Int32.ofNat ka)), .val (.int (Int32.ofNat kb)), .val (.int (Int32.ofNat kc)), .val (.int (Int32.ofNat kd)), .val (.ref a), .val (.int zo), .val (.int z12), .val (.int zc), .val (.int (0 : Int32)), .val (.int (3 : Int32)), .val (.int ((3 : Int32) - (0 : Int32))), .val (.ref a)] [(.int (3 : Int32))])
    refine i_iload w152 at_319 rfl (pc' := 321) rfl ?_
    refine i_icmp_eq_Y w152 rfl at_321 (pc' := 326) (by decide) ?_
    refine i_iload w152 at_326 rfl (pc' := 328) rfl ?_
    refine i_if_le_N w152 (by decide) at_328 (pc' := 331) rfl ?_
    refine i_aload w152 at_331 rfl rfl (pc' := 333) rfl ?_
    refine i_iconst w152 at_333 (z := (0 : Int32)) (by decide) (pc' := 334) rfl ?_
    refine c_virtual w152 (y := (⟨"java/lang/String", "charAt", "(I)C"⟩ : MethodName)) (C := "java/lang/String") (a := a) (argsL := [(.int (0 : Int32))]) (st := []) at_334 (hw _ (List.mem_of_getElem? (i := 106) rfl)) (hw _ (List.mem_of_getElem? (i := 107) rfl)) (hw _ (List.mem_of_getElem? (i := 109) rfl)) (hw _ (List.mem_of_getElem? (i := 108) rfl)) (hw _ (List.mem_of_getElem? (i := 110) rfl)) (hw _ (List.mem_of_getElem? (i := 9) rfl)) (by decide) own_pd_pIqC rfl S_151.1 (own_charAt l Z a0 hw a t ct [ka, kb, kc] 0 ka G1 hG SG G3 hG3 SF h150 n0 w152.old S_151 rfl) rfl (by decide) (W := 0) (Nat.le_of_eq rfl) (by decide) (by decide) (by decide) (fun _ q => nomatch q) (pc' := 337) rfl ?_
    intro v153 T153 h153 w153 K153 q153
    obtain ⟨rfl, rfl⟩ := q153
    show Goes p e below _ T153 (mkF m 337 #[.val (.int y0), .val (.int y1), .val (.int y2), .val (.int y3), .val (.int y4), .val (.int (3 : Int32)), .val (.int (Int32.ofNat ka)), .val (.int (Int32.ofNat kb)), .val (.int (Int32.ofNat kc)), .val (.int (Int32.ofNat kd)), .val (.ref a), .val (.int zo), .val (.int z12), .val (.int zc), .val (.int (0 : Int32)), .val (.int (3 : Int32)), .val (.int ((3 : Int32) - (0 : Int32))), .val (.ref a)] [(.int (Int32.ofNat ka))])
    refine i_iload w153 at_337 rfl (pc' := 339) rfl ?_
    refine i_iload w153 at_339 rfl (pc' := 341) rfl ?_
    refine i_iload w153 at_341 rfl (pc' := 343) rfl ?_
    refine i_iload w153 at_343 rfl (pc' := 345) rfl ?_
    refine i_iload w153 at_345 rfl (pc' := 347) rfl ?_
    refine c_static w153 (y := (⟨"com/example/cluster_lock/clusterlock/redis/LockKeysHashTagPinLaw", "at", "(ICCCC)C"⟩ : MethodName)) (argsL := [(.int (0 : Int32)), (.int (Int32.ofNat ka)), (.int (Int32.ofNat kb)), (.int (Int32.ofNat kc)), (.int (Int32.ofNat kd))]) (st := [(.int (Int32.ofNat ka))]) at_347 (hw _ (List.mem_of_getElem? (i := 40) rfl)) (hw _ (List.mem_of_getElem? (i := 41) rfl)) (hw _ (List.mem_of_getElem? (i := 2) rfl)) (hw _ (List.mem_of_getElem? (i := 42) rfl)) (by decide) own_pd_pICCCCqC rfl (own_at l Z a0 hw 0 ka kb kc kd h150 n0 w153.old (by decide) hka hkb hkc hkd) rfl (by decide) (W := 1) (Nat.le_of_eq rfl) (by decide) (by decide) (by decide) (fun _ q => nomatch q) (pc' := 350) rfl ?_
    intro v154 T154 h154 w154 K154 q154
    obtain ⟨rfl, rfl⟩ := q154
    show Goes p e below _ T154 (mkF m 350 #[.val (.int y0), .val (.int y1), .val (.int y2), .val (.int y3), .val (.int y4), .val (.int (3 : Int32)), .val (.int (Int32.ofNat ka)), .val (.int (Int32.ofNat kb)), .val (.int (Int32.ofNat kc)), .val (.int (Int32.ofNat kd)), .val (.ref a), .val (.int zo), .val (.int z12), .val (.int zc), .val (.int (0 : Int32)), .val (.int (3 : Int32)), .val (.int ((3 : Int32) - (0 : Int32))), .val (.ref a)] [(.int (Int32.ofNat ka)), (.int (Int32.ofNat ka))])
    refine i_icmp_eq_Y w154 rfl at_350 (pc' := 355) (by decide) ?_
    refine i_iload w154 at_355 rfl (pc' := 357) rfl ?_
    refine i_iconst w154 at_357 (z := (1 : Int32)) (by decide) (pc' := 358) rfl ?_
    refine i_icmp_le_N w154 (by decide) at_358 (pc' := 361) rfl ?_
    refine i_aload w154 at_361 rfl rfl (pc' := 363) rfl ?_
    refine i_iconst w154 at_363 (z := (1 : Int32)) (by decide) (pc' := 364) rfl ?_
    refine c_virtual w154 (y := (⟨"java/lang/String", "charAt", "(I)C"⟩ : MethodName)) (C := "java/lang/String") (a := a) (argsL := [(.int (1 : Int32))]) (st := []) at_364 (hw _ (List.mem_of_getElem? (i := 106) rfl)) (hw _ (List.mem_of_getElem? (i := 107) rfl)) (hw _ (List.mem_of_getElem? (i := 109) rfl)) (hw _ (List.mem_of_getElem? (i := 108) rfl)) (hw _ (List.mem_of_getElem? (i := 110) rfl)) (hw _ (List.mem_of_getElem? (i := 9) rfl)) (by decide) own_pd_pIqC rfl S_151.1 (own_charAt l Z a0 hw a t ct [ka, kb, kc] 1 kb G1 hG SG G3 hG3 SF h150 n0 w154.old S_151 rfl) rfl (by decide) (W := 0) (Nat.le_of_eq rfl) (by decide) (by decide) (by decide) (fun _ q => nomatch q) (pc' := 367) rfl ?_
    intro v155 T155 h155 w155 K155 q155
    obtain ⟨rfl, rfl⟩ := q155
    show Goes p e below _ T155 (mkF m 367 #[.val (.int y0), .val (.int y1), .val (.int y2), .val (.int y3), .val (.int y4), .val (.int (3 : Int32)), .val (.int (Int32.ofNat ka)), .val (.int (Int32.ofNat kb)), .val (.int (Int32.ofNat kc)), .val (.int (Int32.ofNat kd)), .val (.ref a), .val (.int zo), .val (.int z12), .val (.int zc), .val (.int (0 : Int32)), .val (.int (3 : Int32)), .val (.int ((3 : Int32) - (0 : Int32))), .val (.ref a)] [(.int (Int32.ofNat kb))])
    refine i_iload w155 at_367 rfl (pc' := 369) rfl ?_
    refine i_iconst w155 at_369 (z := (1 : Int32)) (by decide) (pc' := 370) rfl ?_
    refine i_iadd w155 at_370 (pc' := 371) rfl ?_
    refine i_iload w155 at_371 rfl (pc' := 373) rfl ?_
    refine i_iload w155 at_373 rfl (pc' := 375) rfl ?_
    refine i_iload w155 at_375 rfl (pc' := 377) rfl ?_
    refine i_iload w155 at_377 rfl (pc' := 379) rfl ?_
    refine c_static w155 (y := (⟨"com/example/cluster_lock/clusterlock/redis/LockKeysHashTagPinLaw", "at", "(ICCCC)C"⟩ : MethodName)) (argsL := [(.int ((0 : Int32) + (1 : Int32))), (.int (Int32.ofNat ka)), (.int (Int32.ofNat kb)), (.int (Int32.ofNat kc)), (.int (Int32.ofNat kd))]) (st := [(.int (Int32.ofNat kb))]) at_379 (hw _ (List.mem_of_getElem? (i := 40) rfl)) (hw _ (List.mem_of_getElem? (i := 41) rfl)) (hw _ (List.mem_of_getElem? (i := 2) rfl)) (hw _ (List.mem_of_getElem? (i := 42) rfl)) (by decide) own_pd_pICCCCqC rfl (own_at l Z a0 hw 1 ka kb kc kd h150 n0 w155.old (by decide) hka hkb hkc hkd) rfl (by decide) (W := 1) (Nat.le_of_eq rfl) (by decide) (by decide) (by decide) (fun _ q => nomatch q) (pc' := 382) rfl ?_
    intro v156 T156 h156 w156 K156 q156
    obtain ⟨rfl, rfl⟩ := q156
    show Goes p e below _ T156 (mkF m 382 #[.val (.int y0), .val (.int y1), .val (.int y2), .val (.int y3), .val (.int y4), .val (.int (3 : Int32)), .val (.int (Int32.ofNat ka)), .val (.int (Int32.ofNat kb)), .val (.int (Int32.ofNat kc)), .val (.int (Int32.ofNat kd)), .val (.ref a), .val (.int zo), .val (.int z12), .val (.int zc), .val (.int (0 : Int32)), .val (.int (3 : Int32)), .val (.int ((3 : Int32) - (0 : Int32))), .val (.ref a)] [(.int (Int32.ofNat kb)), (.int (Int32.ofNat kb))])
    refine i_icmp_eq_Y w156 rfl at_382 (pc' := 387) (by decide) ?_
    refine i_iload w156 at_387 rfl (pc' := 389) rfl ?_
    refine i_iconst w156 at_389 (z := (2 : Int32)) (by decide) (pc' := 390) rfl ?_
    refine i_icmp_le_N w156 (by decide) at_390 (pc' := 393) rfl ?_
    refine i_aload w156 at_393 rfl rfl (pc' := 395) rfl ?_
    refine i_iconst w156 at_395 (z := (2 : Int32)) (by decide) (pc' := 396) rfl ?_
    refine c_virtual w156 (y := (⟨"java/lang/String", "charAt", "(I)C"⟩ : MethodName)) (C := "java/lang/String") (a := a) (argsL := [(.int (2 : Int32))]) (st := []) at_396 (hw _ (List.mem_of_getElem? (i := 106) rfl)) (hw _ (List.mem_of_getElem? (i := 107) rfl)) (hw _ (List.mem_of_getElem? (i := 109) rfl)) (hw _ (List.mem_of_getElem? (i := 108) rfl)) (hw _ (List.mem_of_getElem? (i := 110) rfl)) (hw _ (List.mem_of_getElem? (i := 9) rfl)) (by decide) own_pd_pIqC rfl S_151.1 (own_charAt l Z a0 hw a t ct [ka, kb, kc] 2 kc G1 hG SG G3 hG3 SF h150 n0 w156.old S_151 rfl) rfl (by decide) (W := 0) (Nat.le_of_eq rfl) (by decide) (by decide) (by decide) (fun _ q => nomatch q) (pc' := 399) rfl ?_
    intro v157 T157 h157 w157 K157 q157
    obtain ⟨rfl, rfl⟩ := q157
    show Goes p e below _ T157 (mkF m 399 #[.val (.int y0), .val (.int y1), .val (.int y2), .val (.int y3), .val (.int y4), .val (.int (3 : Int32)), .val (.int (Int32.ofNat ka)), .val (.int (Int32.ofNat kb)), .val (.int (Int32.ofNat kc)), .val (.int (Int32.ofNat kd)), .val (.ref a), .val (.int zo), .val (.int z12), .val (.int zc), .val (.int (0 : Int32)), .val (.int (3 : Int32)), .val (.int ((3 : Int32) - (0 : Int32))), .val (.ref a)] [(.int (Int32.ofNat kc))])
    refine i_iload w157 at_399 rfl (pc' := 401) rfl ?_
    refine i_iconst w157 at_401 (z := (2 : Int32)) (by decide) (pc' := 402) rfl ?_
    refine i_iadd w157 at_402 (pc' := 403) rfl ?_
    refine i_iload w157 at_403 rfl (pc' := 405) rfl ?_
    refine i_iload w157 at_405 rfl (pc' := 407) rfl ?_
    refine i_iload w157 at_407 rfl (pc' := 409) rfl ?_
    refine i_iload w157 at_409 rfl (pc' := 411) rfl ?_
    refine c_static w157 (y := (⟨"com/example/cluster_lock/clusterlock/redis/LockKeysHashTagPinLaw", "at", "(ICCCC)C"⟩ : MethodName)) (argsL := [(.int ((0 : Int32) + (2 : Int32))), (.int (Int32.ofNat ka)), (.int (Int32.ofNat kb)), (.int (Int32.ofNat kc)), (.int (Int32.ofNat kd))]) (st := [(.int (Int32.ofNat kc))]) at_411 (hw _ (List.mem_of_getElem? (i := 40) rfl)) (hw _ (List.mem_of_getElem? (i := 41) rfl)) (hw _ (List.mem_of_getElem? (i := 2) rfl)) (hw _ (List.mem_of_getElem? (i := 42) rfl)) (by decide) own_pd_pICCCCqC rfl (own_at l Z a0 hw 2 ka kb kc kd h150 n0 w157.old (by decide) hka hkb hkc hkd) rfl (by decide) (W := 1) (Nat.le_of_eq rfl) (by decide) (by decide) (by decide) (fun _ q => nomatch q) (pc' := 414) rfl ?_
    intro v158 T158 h158 w158 K158 q158
    obtain ⟨rfl, rfl⟩ := q158
    show Goes p e below _ T158 (mkF m 414 #[.val (.int y0), .val (.int y1), .val (.int y2), .val (.int y3), .val (.int y4), .val (.int (3 : Int32)), .val (.int (Int32.ofNat ka)), .val (.int (Int32.ofNat kb)), .val (.int (Int32.ofNat kc)), .val (.int (Int32.ofNat kd)), .val (.ref a), .val (.int zo), .val (.int z12), .val (.int zc), .val (.int (0 : Int32)), .val (.int (3 : Int32)), .val (.int ((3 : Int32) - (0 : Int32))), .val (.ref a)] [(.int (Int32.ofNat kc)), (.int (Int32.ofNat kc))])
    refine i_icmp_eq_Y w158 rfl at_414 (pc' := 419) (by decide) ?_
    refine i_iload w158 at_419 rfl (pc' := 421) rfl ?_
    refine i_iconst w158 at_421 (z := (3 : Int32)) (by decide) (pc' := 422) rfl ?_
    refine i_icmp_le_Y w158 (by decide) at_422 (pc' := 451) (by decide) ?_
    refine i_iconst w158 at_451 (z := (1 : Int32)) (by decide) (pc' := 452) rfl ?_
    exact i_retNW w158 hS150 (Nat.le_trans (Nat.le_trans (Nat.le_trans (Nat.le_trans (Nat.le_trans (Nat.le_trans (Nat.le_trans (Nat.le_refl _) K152.1) K153.1) K154.1) K155.1) K156.1) K157.1) K158.1) at_452 rfl (by simp) rfl (by decide) (by decide)
  ·
    refine c_staticW w hS hkS (y := (⟨"com/example/cluster_lock/clusterlock/redis/LockKeys", "hashTag", "(Ljava/lang/String;)Ljava/lang/String;"⟩ : MethodName)) (argsL := [(.ref a)]) (st := []) at_309 (hw _ (List.mem_of_getElem? (i := 43) rfl)) (hw _ (List.mem_of_getElem? (i := 44) rfl)) (hw _ (List.mem_of_getElem? (i := 45) rfl)) (hw _ (List.mem_of_getElem? (i := 46) rfl)) (by decide) own_pd_pLjava_lang_StringeqLjava_lang_Stringe rfl (own_tagN l Z a0 hw a t ct [ka, kb, kc] zo zc f G1 hG SG G3 hG3 SF h n0 w.old S (by simp) (by simp) hf ho hzo1 hcz hyo hnc) rfl (by decide) (W := 0) (Nat.le_of_eq rfl) (by decide) (by decide) (by decide) (fun _ q => nomatch q) (pc' := 312) rfl ?_
    intro v159 T159 h159 vm159 w159 hS159 K159 q159
    obtain rfl := q159
    show Goes p e below _ T159 (mkF m 312 #[.val (.int y0), .val (.int y1), .val (.int y2), .val (.int y3), .val (.int y4), .val (.int (3 : Int32)), .val (.int (Int32.ofNat ka)), .val (.int (Int32.ofNat kb)), .val (.int (Int32.ofNat kc)), .val (.int (Int32.ofNat kd)), .val (.ref a), .val (.int zo), .val (.int z12), .val (.int zc), .val (.int (0 : Int32)), .val (.int (3 : Int32)), .val (.int ((3 : Int32) - (0 : Int32))), .unset] [(.ref a)])
    have S_160 := S.keep K159 nin0 nin0
    refine i_astore w159 at_312 rfl (l' := #[.val (.int y0), .val (.int y1), .val (.int y2), .val (.int y3), .val (.int y4), .val (.int (3 : Int32)), .val (.int (Int32.ofNat ka)), .val (.int (Int32.ofNat kb)), .val (.int (Int32.ofNat kc)), .val (.int (Int32.ofNat kd)), .val (.ref a), .val (.int zo), .val (.int z12), .val (.int zc), .val (.int (0 : Int32)), .val (.int (3 : Int32)), .val (.int ((3 : Int32) - (0 : Int32))), .val (.ref a)]) rfl (pc' := 314) rfl ?_
    refine i_aload w159 at_314 rfl rfl (pc' := 316) rfl ?_
    refine c_virtual w159 (y := (⟨"java/lang/String", "length", "()I"⟩ : MethodName)) (C := "java/lang/String") (a := a) (argsL := []) (st := []) at_316 (hw _ (List.mem_of_getElem? (i := 105) rfl)) (hw _ (List.mem_of_getElem? (i := 78) rfl)) (hw _ (List.mem_of_getElem? (i := 80) rfl)) (hw _ (List.mem_of_getElem? (i := 79) rfl)) (hw _ (List.mem_of_getElem? (i := 81) rfl)) (hw _ (List.mem_of_getElem? (i := 9) rfl)) (by decide) own_pd_pqI rfl S_160.1 (own_length l Z a0 hw a t ct [ka, kb, kc] G1 hG SG h159 n0 w159.old (Or.inl S_160)) rfl (by decide) (W := 0) (Nat.le_of_eq rfl) (by decide) (by decide) (by decide) (fun _ q => nomatch q) (pc' := 319) rfl ?_
    intro v161 T161 h161 w161 K161 q161
    obtain ⟨rfl, rfl⟩ := q161
    show Goes p e below _ T161 (mkF m 319 #[.val (.int y0), .val (.int y1), .val (.int y2), .val (.int y3), .val (.int y4), .val (.int (3 : Int32)), .val (.int (Int32.ofNat ka)), .val (.int (Int32.ofNat kb)), .val (.int (Int32.ofNat kc)), .val (.int (Int32.ofNat kd)), .val (.ref a), .val (.int zo), .val (.int z12), .val (.int zc), .val (.int (0 : Int32)), .val (.int (3 : Int32)), .val (.int ((3 : Int32) - (0 : Int32))), .val (.ref a)] [(.int (3 : Int32))])
    refine i_iload w161 at_319 rfl (pc' := 321) rfl ?_
    refine i_icmp_eq_Y w161 rfl at_321 (pc' := 326) (by decide) ?_
    refine i_iload w161 at_326 rfl (pc' := 328) rfl ?_
    refine i_if_le_N w161 (by decide) at_328 (pc' := 331) rfl ?_
    refine i_aload w161 at_331 rfl rfl (pc' := 333) rfl ?_
    refine i_iconst w161 at_333 (z := (0 : Int32)) (by decide) (pc' := 334) rfl ?_
    refine c_virtual w161 (y := (⟨"java/lang/String", "charAt", "(I)C"⟩ : MethodName)) (C := "java/lang/String") (a := a) (argsL := [(.int (0 : Int32))]) (st := []) at_334 (hw _ (List.mem_of_getElem? (i := 106) rfl)) (hw _ (List.mem_of_getElem? (i := 107) rfl)) (hw _ (List.mem_of_getElem? (i := 109) rfl)) (hw _ (List.mem_of_getElem? (i := 108) rfl)) (hw _ (List.mem_of_getElem? (i := 110) rfl)) (hw _ (List.mem_of_getElem? (i := 9) rfl)) (by decide) own_pd_pIqC rfl S_160.1 (own_charAt l Z a0 hw a t ct [ka, kb, kc] 0 ka G1 hG SG G3 hG3 SF h159 n0 w161.old S_160 rfl) rfl (by decide) (W := 0) (Nat.le_of_eq rfl) (by decide) (by decide) (by decide) (fun _ q => nomatch q) (pc' := 337) rfl ?_
    intro v162 T162 h162 w162 K162 q162
    obtain ⟨rfl, rfl⟩ := q162
    show Goes p e below _ T162 (mkF m 337 #[.val (.int y0), .val (.int y1), .val (.int y2), .val (.int y3), .val (.int y4), .val (.int (3 : Int32)), .val (.int (Int32.ofNat ka)), .val (.int (Int32.ofNat kb)), .val (.int (Int32.ofNat kc)), .val (.int (Int32.ofNat kd)), .val (.ref a), .val (.int zo), .val (.int z12), .val (.int zc), .val (.int (0 : Int32)), .val (.int (3 : Int32)), .val (.int ((3 : Int32) - (0 : Int32))), .val (.ref a)] [(.int (Int32.ofNat ka))])
    refine i_iload w162 at_337 rfl (pc' := 339) rfl ?_
    refine i_iload w162 at_339 rfl (pc' := 341) rfl ?_
    refine i_iload w162 at_341 rfl (pc' := 343) rfl ?_
    refine i_iload w162 at_343 rfl (pc' := 345) rfl ?_
    refine i_iload w162 at_345 rfl (pc' := 347) rfl ?_
    refine c_static w162 (y := (⟨"com/example/cluster_lock/clusterlock/redis/LockKeysHashTagPinLaw", "at", "(ICCCC)C"⟩ : MethodName)) (argsL := [(.int (0 : Int32)), (.int (Int32.ofNat ka)), (.int (Int32.ofNat kb)), (.int (Int32.ofNat kc)), (.int (Int32.ofNat kd))]) (st := [(.int (Int32.ofNat ka))]) at_347 (hw _ (List.mem_of_getElem? (i := 40) rfl)) (hw _ (List.mem_of_getElem? (i := 41) rfl)) (hw _ (List.mem_of_getElem? (i := 2) rfl)) (hw _ (List.mem_of_getElem? (i := 42) rfl)) (by decide) own_pd_pICCCCqC rfl (own_at l Z a0 hw 0 ka kb kc kd h159 n0 w162.old (by decide) hka hkb hkc hkd) rfl (by decide) (W := 1) (Nat.le_of_eq rfl) (by decide) (by decide) (by decide) (fun _ q => nomatch q) (pc' := 350) rfl ?_
    intro v163 T163 h163 w163 K163 q163
    obtain ⟨rfl, rfl⟩ := q163
    show Goes p e below _ T163 (mkF m 350 #[.val (.int y0), .val (.int y1), .val (.int y2), .val (.int y3), .val (.int y4), .val (.int (3 : Int32)), .val (.int (Int32.ofNat ka)), .val (.int (Int32.ofNat kb)), .val (.int (Int32.ofNat kc)), .val (.int (Int32.ofNat kd)), .val (.ref a), .val (.int zo), .val (.int z12), .val (.int zc), .val (.int (0 : Int32)), .val (.int (3 : Int32)), .val (.int ((3 : Int32) - (0 : Int32))), .val (.ref a)] [(.int (Int32.ofNat ka)), (.int (Int32.ofNat ka))])
    refine i_icmp_eq_Y w163 rfl at_350 (pc' := 355) (by decide) ?_
    refine i_iload w163 at_355 rfl (pc' := 357) rfl ?_
    refine i_iconst w163 at_357 (z := (1 : Int32)) (by decide) (pc' := 358) rfl ?_
    refine i_icmp_le_N w163 (by decide) at_358 (pc' := 361) rfl ?_
    refine i_aload w163 at_361 rfl rfl (pc' := 363) rfl ?_
    refine i_iconst w163 at_363 (z := (1 : Int32)) (by decide) (pc' := 364) rfl ?_
    refine c_virtual w163 (y := (⟨"java/lang/String", "charAt", "(I)C"⟩ : MethodName)) (C := "java/lang/String") (a := a) (argsL := [(.int (1 : Int32))]) (st := []) at_364 (hw _ (List.mem_of_getElem? (i := 106) rfl)) (hw _ (List.mem_of_getElem? (i := 107) rfl)) (hw _ (List.mem_of_getElem? (i := 109) rfl)) (hw _ (List.mem_of_getElem? (i := 108) rfl)) (hw _ (List.mem_of_getElem? (i := 110) rfl)) (hw _ (List.mem_of_getElem? (i := 9) rfl)) (by decide) own_pd_pIqC rfl S_160.1 (own_charAt l Z a0 hw a t ct [ka, kb, kc] 1 kb G1 hG SG G3 hG3 SF h159 n0 w163.old S_160 rfl) rfl (by decide) (W := 0) (Nat.le_of_eq rfl) (by decide) (by decide) (by decide) (fun _ q => nomatch q) (pc' := 367) rfl ?_
    intro v164 T164 h164 w164 K164 q164
    obtain ⟨rfl, rfl⟩ := q164
    show Goes p e below _ T164 (mkF m 367 #[.val (.int y0), .val (.int y1), .val (.int y2), .val (.int y3), .val (.int y4), .val (.int (3 : Int32)), .val (.int (Int32.ofNat ka)), .val (.int (Int32.ofNat kb)), .val (.int (Int32.ofNat kc)), .val (.int (Int32.ofNat kd)), .val (.ref a), .val (.int zo), .val (.int z12), .val (.int zc), .val (.int (0 : Int32)), .val (.int (3 : Int32)), .val (.int ((3 : Int32) - (0 : Int32))), .val (.ref a)] [(.int (Int32.ofNat kb))])
    refine i_iload w164 at_367 rfl (pc' := 369) rfl ?_
    refine i_iconst w164 at_369 (z := (1 : Int32)) (by decide) (pc' := 370) rfl ?_
    refine i_iadd w164 at_370 (pc' := 371) rfl ?_
    refine i_iload w164 at_371 rfl (pc' := 373) rfl ?_
    refine i_iload w164 at_373 rfl (pc' := 375) rfl ?_
    refine i_iload w164 at_375 rfl (pc' := 377) rfl ?_
    refine i_iload w164 at_377 rfl (pc' := 379) rfl ?_
    refine c_static w164 (y := (⟨"com/example/cluster_lock/clusterlock/redis/LockKeysHashTagPinLaw", "at", "(ICCCC)C"⟩ : MethodName)) (argsL := [(.int ((0 : Int32) + (1 : Int32))), (.int (Int32.ofNat ka)), (.int (Int32.ofNat kb)), (.int (Int32.ofNat kc)), (.int (Int32.ofNat kd))]) (st := [(.int (Int32.ofNat kb))]) at_379 (hw _ (List.mem_of_getElem? (i := 40) rfl)) (hw _ (List.mem_of_getElem? (i := 41) rfl)) (hw _ (List.mem_of_getElem? (i := 2) rfl)) (hw _ (List.mem_of_getElem? (i := 42) rfl)) (by decide) own_pd_pICCCCqC rfl (own_at l Z a0 hw 1 ka kb kc kd h159 n0 w164.old (by decide) hka hkb hkc hkd) rfl (by decide) (W := 1) (Nat.le_of_eq rfl) (by decide) (by decide) (by decide) (fun _ q => nomatch q) (pc' := 382) rfl ?_
    intro v165 T165 h165 w165 K165 q165
    obtain ⟨rfl, rfl⟩ := q165
    show Goes p e below _ T165 (mkF m 382 #[.val (.int y0), .val (.int y1), .val (.int y2), .val (.int y3), .val (.int y4), .val (.int (3 : Int32)), .val (.int (Int32.ofNat ka)), .val (.int (Int32.ofNat kb)), .val (.int (Int32.ofNat kc)), .val (.int (Int32.ofNat kd)), .val (.ref a), .val (.int zo), .val (.int z12), .val (.int zc), .val (.int (0 : Int32)), .val (.int (3 : Int32)), .val (.int ((3 : Int32) - (0 : Int32))), .val (.ref a)] [(.int (Int32.ofNat kb)), (.int (Int32.ofNat kb))])
    refine i_icmp_eq_Y w165 rfl at_382 (pc' := 387) (by decide) ?_
    refine i_iload w165 at_387 rfl (pc' := 389) rfl ?_
    refine i_iconst w165 at_389 (z := (2 : Int32)) (by decide) (pc' := 390) rfl ?_
    refine i_icmp_le_N w165 (by decide) at_390 (pc' := 393) rfl ?_
    refine i_aload w165 at_393 rfl rfl (pc' := 395) rfl ?_
    refine i_iconst w165 at_395 (z := (2 : Int32)) (by decide) (pc' := 396) rfl ?_
    refine c_virtual w165 (y := (⟨"java/lang/String", "charAt", "(I)C"⟩ : MethodName)) (C := "java/lang/String") (a := a) (argsL := [(.int (2 : Int32))]) (st := []) at_396 (hw _ (List.mem_of_getElem? (i := 106) rfl)) (hw _ (List.mem_of_getElem? (i := 107) rfl)) (hw _ (List.mem_of_getElem? (i := 109) rfl)) (hw _ (List.mem_of_getElem? (i := 108) rfl)) (hw _ (List.mem_of_getElem? (i := 110) rfl)) (hw _ (List.mem_of_getElem? (i := 9) rfl)) (by decide) own_pd_pIqC rfl S_160.1 (own_charAt l Z a0 hw a t ct [ka, kb, kc] 2 kc G1 hG SG G3 hG3 SF h159 n0 w165.old S_160 rfl) rfl (by decide) (W := 0) (Nat.le_of_eq rfl) (by decide) (by decide) (by decide) (fun _ q => nomatch q) (pc' := 399) rfl ?_
    intro v166 T166 h166 w166 K166 q166
    obtain ⟨rfl, rfl⟩ := q166
    show Goes p e below _ T166 (mkF m 399 #[.val (.int y0), .val (.int y1), .val (.int y2), .val (.int y3), .val (.int y4), .val (.int (3 : Int32)), .val (.int (Int32.ofNat ka)), .val (.int (Int32.ofNat kb)), .val (.int (Int32.ofNat kc)), .val (.int (Int32.ofNat kd)), .val (.ref a), .val (.int zo), .val (.int z12), .val (.int zc), .val (.int (0 : Int32)), .val (.int (3 : Int32)), .val (.int ((3 : Int32) - (0 : Int32))), .val (.ref a)] [(.int (Int32.ofNat kc))])
    refine i_iload w166 at_399 rfl (pc' := 401) rfl ?_
    refine i_iconst w166 at_401 (z := (2 : Int32)) (by decide) (pc' := 402) rfl ?_
    refine i_iadd w166 at_402 (pc' := 403) rfl ?_
    refine i_iload w166 at_403 rfl (pc' := 405) rfl ?_
    refine i_iload w166 at_405 rfl (pc' := 407) rfl ?_
    refine i_iload w166 at_407 rfl (pc' := 409) rfl ?_
    refine i_iload w166 at_409 rfl (pc' := 411) rfl ?_
    refine c_static w166 (y := (⟨"com/example/cluster_lock/clusterlock/redis/LockKeysHashTagPinLaw", "at", "(ICCCC)C"⟩ : MethodName)) (argsL := [(.int ((0 : Int32) + (2 : Int32))), (.int (Int32.ofNat ka)), (.int (Int32.ofNat kb)), (.int (Int32.ofNat kc)), (.int (Int32.ofNat kd))]) (st := [(.int (Int32.ofNat kc))]) at_411 (hw _ (List.mem_of_getElem? (i := 40) rfl)) (hw _ (List.mem_of_getElem? (i := 41) rfl)) (hw _ (List.mem_of_getElem? (i := 2) rfl)) (hw _ (List.mem_of_getElem? (i := 42) rfl)) (by decide) own_pd_pICCCCqC rfl (own_at l Z a0 hw 2 ka kb kc kd h159 n0 w166.old (by decide) hka hkb hkc hkd) rfl (by decide) (W := 1) (Nat.le_of_eq rfl) (by decide) (by decide) (by decide) (fun _ q => nomatch q) (pc' := 414) rfl ?_
    intro v167 T167 h167 w167 K167 q167
    obtain ⟨rfl, rfl⟩ := q167
    show Goes p e below _ T167 (mkF m 414 #[.val (.int y0), .val (.int y1), .val (.int y2), .val (.int y3), .val (.int y4), .val (.int (3 : Int32)), .val (.int (Int32.ofNat ka)), .val (.int (Int32.ofNat kb)), .val (.int (Int32.ofNat kc)), .val (.int (Int32.ofNat kd)), .val (.ref a), .val (.int zo), .val (.int z12), .val (.int zc), .val (.int (0 : Int32)), .val (.int (3 : Int32)), .val (.int ((3 : Int32) - (0 : Int32))), .val (.ref a)] [(.int (Int32.ofNat kc)), (.int (Int32.ofNat kc))])
    refine i_icmp_eq_Y w167 rfl at_414 (pc' := 419) (by decide) ?_
    refine i_iload w167 at_419 rfl (pc' := 421) rfl ?_
    refine i_iconst w167 at_421 (z := (3 : Int32)) (by decide) (pc' := 422) rfl ?_
    refine i_icmp_le_Y w167 (by decide) at_422 (pc' := 451) (by decide) ?_
    refine i_iconst w167 at_451 (z := (1 : Int32)) (by decide) (pc' := 452) rfl ?_
    exact i_retNW w167 hS159 (Nat.le_trans (Nat.le_trans (Nat.le_trans (Nat.le_trans (Nat.le_trans (Nat.le_trans (Nat.le_trans (Nat.le_refl _) K161.1) K162.1) K163.1) K164.1) K165.1) K166.1) K167.1) at_452 rfl (by simp) rfl (by decide) (by decide)
set_option maxRecDepth 65536 in
set_option maxHeartbeats 40000000 in
theorem own_t3_1_2 (l : Launch) (Z : State) (a0 : Array Value) (hw : ∀ d ∈ tables_1, d.before a0 Z = true) (ka kb kc kd : Nat) (hka : ka < 256) (hkb : kb < 256) (hkc : kc < 256) (hkd : kd < 256) (y0 y1 y2 y3 y4 : Int32) (a t : Addr) (ct : ClassId) (zo z12 zc : Int32) (f : Nat) (G1 : Int32) (hG : ¬ G1 = 0) (SG : Sta Z Z.heap "java/lang/String" "COMPACT_STRINGS" "Z" (.int G1)) (G3 : Value) (hG3 : G3.isRef = true) (SF : Sta Z Z.heap "jdk/internal/util/Preconditions" "SIOOBE_FORMATTER" "Ljava/util/function/BiFunction;" G3) (h0 : Heap) (n0 : Nat) {p : Program} {e : Env} {s : State} {m : MethodId} {below : List Frame} {meth : Method} {c : Code} {vm : Vm} {kS : Nat} {T : State} {h : Heap} (w : Wk p l e room_1 (s.setVm vm) m #[(.int y0), (.int y1), (.int y2), (.int y3), (.int y4)] below meth c Z x.cls code maxLocals ret x.name n0 h0 [] T h 20 1000) (hS : s.Since vm kS) (hkS : kS ≤ h.size) (S : StrL Z h a t ct [ka, kb, kc]) (hf : f ≤ 65536) (ho : ixv 123 [ka, kb, kc] 0 = zo) (hzo1 : zo + 1 = Int32.ofNat f) (hcz : ixv 125 [ka, kb, kc] f = zc) (hfs : f = 1) (hzc : zc = Int32.ofNat (f + 1)) (hyo : ¬ zo < 0) (hyc : Int32.ofNat f < zc) :
    Goes p e below (PW s n0 h0 [] (fun v h => v = some (.int 1)) room_1.cells room_1.slots) T (mkF m 300 #[.val (.int y0), .val (.int y1), .val (.int y2), .val (.int y3), .val (.int y4), .val (.int (3 : Int32)), .val (.int (Int32.ofNat ka)), .val (.int (Int32.ofNat kb)), .val (.int (Int32.ofNat kc)), .val (.int (Int32.ofNat kd)), .val (.ref a), .val (.int zo), .val (.int z12), .val (.int zc), .val (.int (1 : Int32)), .val (.int (2 : Int32)), .unset, .unset] []) := by
  refine i_iload w at_300 rfl (pc' := 302) rfl ?_
  refine i_iload w at_302 rfl (pc' := 304) rfl ?_
  refine i_isub w at_304 (pc' := 305) rfl ?_
  refine i_istore w at_305 (l' := #[.val (.int y0), .val (.int y1), .val (.int y2), .val (.int y3), .val (.int y4), .val (.int (3 : Int32)), .val (.int (Int32.ofNat ka)), .val (.int (Int32.ofNat kb)), .val (.int (Int32.ofNat kc)), .val (.int (Int32.ofNat kd)), .val (.ref a), .val (.int zo), .val (.int z12), .val (.int zc), .val (.int (1 : Int32)), .val (.int (2 : Int32)), .val (.int ((2 : Int32) - (1 : Int32))), .unset]) rfl (pc' := 307) rfl ?_
  refine i_aload w at_307 rfl rfl (pc' := 309) rfl ?_
  refine c_staticW w hS hkS (y := (⟨"com/example/cluster_lock/clusterlock/redis/LockKeys", "hashTag", "(Ljava/lang/String;)Ljava/lang/String;"⟩ : MethodName)) (argsL := [(.ref a)]) (st := []) at_309 (hw _ (List.mem_of_getElem? (i := 43) rfl)) (hw _ (List.mem_of_getElem? (i := 44) rfl)) (hw _ (List.mem_of_getElem? (i := 45) rfl)) (hw _ (List.mem_of_getElem? (i := 46) rfl)) (by decide) own_pd_pLjava_lang_StringeqLjava_lang_Stringe rfl (own_tagS l Z a0 hw a t ct [ka, kb, kc] zo zc f G1 hG SG G3 hG3 SF h n0 w.old S (by simp) (by simp) hf ho hzo1 hcz 1 hzc (by omega) (by decide) (by simp; omega) (by decide) hyo hyc) rfl (by decide) (W := 0) (Nat.le_of_eq rfl) (by decide) (by decide) (by decide) (fun _ q => nomatch q) (pc' := 312) rfl ?_
  intro v168 T168 h168 vm168 w168 hS168 K168 q168
  obtain ⟨r, t', c', rfl, zr, lr, Sr⟩ := q168
  show Goes p e below _ T168 (mkF m 312 #[.val (.int y0), .val (.int y1), .val (.int y2), .val (.int y3), .val (.int y4), .val (.int (3 : Int32)), .val (.int (Int32.ofNat ka)), .val (.int (Int32.ofNat kb)), .val (.int (Int32.ofNat kc)), .val (.int (Int32.ofNat kd)), .val (.ref a), .val (.int zo), .val (.int z12), .val (.int zc), .val (.int (1 : Int32)), .val (.int (2 : Int32)), .val (.int ((2 : Int32) - (1 : Int32))), .unset] [(.ref r)])
  have S_169 := S.keep K168 nin0 nin0
  have hff : f = 1 := hfs
  subst hff
  have Sr2 : StrL Z h168 r t' c' [kb] := Sr
  refine i_astore w168 at_312 rfl (l' := #[.val (.int y0), .val (.int y1), .val (.int y2), .val (.int y3), .val (.int y4), .val (.int (3 : Int32)), .val (.int (Int32.ofNat ka)), .val (.int (Int32.ofNat kb)), .val (.int (Int32.ofNat kc)), .val (.int (Int32.ofNat kd)), .val (.ref a), .val (.int zo), .val (.int z12), .val (.int zc), .val (.int (1 : Int32)), .val (.int (2 : Int32)), .val (.int ((2 : Int32) - (1 : Int32))), .val (.ref r)]) rfl (pc' := 314) rfl ?_
  refine i_aload w168 at_314 rfl rfl (pc' := 316) rfl ?_
  refine c_virtual w168 (y := (⟨"java/lang/String", "length", "()I"⟩ : MethodName)) (C := "java/lang/String") (a := r) (argsL := []) (st := []) at_316 (hw _ (List.mem_of_getElem? (i := 105) rfl)) (hw _ (List.mem_of_getElem? (i := 78) rfl)) (hw _ (List.mem_of_getElem? (i := 80) rfl)) (hw _ (List.mem_of_getElem? (i := 79) rfl)) (hw _ (List.mem_of_getElem? (i := 81) rfl)) (hw _ (List.mem_of_getElem? (i := 9) rfl)) (by decide) own_pd_pqI rfl Sr2.1 (own_length l Z a0 hw r t' c' [kb] G1 hG SG h168 n0 w168.old (Or.inl Sr2)) rfl (by decide) (W := 0) (Nat.le_of_eq rfl) (by decide) (by decide) (by decide) (fun _ q => nomatch q) (pc' := 319) rfl ?_
  intro v170 T170 h170 w170 K170 q170
  obtain ⟨rfl, rfl⟩ := q170
  show Goes p e below _ T170 (mkF m 319 #[.val (.int y0), .val (.int y1), .val (.int y2), .val (.int y3), .val (.int y4), .val (.int (3 : Int32)), .val (.int (Int32.ofNat ka)), .val (.int (Int32.ofNat kb)), .val (.int (Int32.ofNat kc)), .val (.int (Int32.ofNat kd)), .val (.ref a), .val (.int zo), .val (.int z12), .val (.int zc), .val (.int (1 : Int32)), .val (.int (2 : Int32)), .val (.int ((2 : Int32) - (1 : Int32))), .val (.ref r)] [(.int (1 : Int32))])
  refine i_iload w170 at_319 rfl (pc' := 321) rfl ?_
  refine i_icmp_eq_Y w170 rfl at_321 (pc' := 326) (by decide) ?_
  refine i_iload w170 at_326 rfl (pc' := 328) rfl ?_
  refine i_if_le_N w170 (by decide) at_328 (pc' := 331) rfl ?_
  refine i_aload w170 at_331 rfl rfl (pc' := 333) rfl ?_
  refine i_iconst w170 at_333 (z := (0 : Int32)) (by decide) (pc' := 334) rfl ?_
  refine c_virtual w170 (y := (⟨"java/lang/String", "charAt", "(I)C"⟩ : MethodName)) (C := "java/lang/String") (a := r) (argsL := [(.int (0 : Int32))]) (st := []) at_334 (hw _ (List.mem_of_getElem? (i := 106) rfl)) (hw _ (List.mem_of_getElem? (i := 107) rfl)) (hw _ (List.mem_of_getElem? (i := 109) rfl)) (hw _ (List.mem_of_getElem? (i := 108) rfl)) (hw _ (List.mem_of_getElem? (i := 110) rfl)) (hw _ (List.mem_of_getElem? (i := 9) rfl)) (by decide) own_pd_pIqC rfl Sr2.1 (own_charAt l Z a0 hw r t' c' [kb] 0 kb G1 hG SG G3 hG3 SF h168 n0 w170.old Sr2 rfl) rfl (by decide) (W := 0) (Nat.le_of_eq rfl) (by decide) (by decide) (by decide) (fun _ q => nomatch q) (pc' := 337) rfl ?_
  intro v171 T171 h171 w171 K171 q171
  obtain ⟨rfl, rfl⟩ := q171
  show Goes p e below _ T171 (mkF m 337 #[.val (.int y0), .val (.int y1), .val (.int y2), .val (.int y3), .val (.int y4), .val (.int (3 : Int32)), .val (.int (Int32.ofNat ka)), .val (.int (Int32.ofNat kb)), .val (.int (Int32.ofNat kc)), .val (.int (Int32.ofNat kd)), .val (.ref a), .val (.int zo), .val (.int z12), .val (.int zc), .val (.int (1 : Int32)), .val (.int (2 : Int32)), .val (.int ((2 : Int32) - (1 : Int32))), .val (.ref r)] [(.int (Int32.ofNat kb))])
  refine i_iload w171 at_337 rfl (pc' := 339) rfl ?_
  refine i_iload w171 at_339 rfl (pc' := 341) rfl ?_
  refine i_iload w171 at_341 rfl (pc' := 343) rfl ?_
  refine i_iload w171 at_343 rfl (pc' := 345) rfl ?_
  refine i_iload w171 at_345 rfl (pc' := 347) rfl ?_
  refine c_static w171 (y := (⟨"com/example/cluster_lock/clusterlock/redis/LockKeysHashTagPinLaw", "at", "(ICCCC)C"⟩ : MethodName)) (argsL := [(.int (1 : Int32)), (.int (Int32.ofNat ka)), (.int (Int32.ofNat kb)), (.int (Int32.ofNat kc)), (.int (Int32.ofNat kd))]) (st := [(.int (Int32.ofNat kb))]) at_347 (hw _ (List.mem_of_getElem? (i := 40) rfl)) (hw _ (List.mem_of_getElem? (i := 41) rfl)) (hw _ (List.mem_of_getElem? (i := 2) rfl)) (hw _ (List.mem_of_getElem? (i := 42) rfl)) (by decide) own_pd_pICCCCqC rfl (own_at l Z a0 hw 1 ka kb kc kd h168 n0 w171.old (by decide) hka hkb hkc hkd) rfl (by decide) (W := 1) (Nat.le_of_eq rfl) (by decide) (by decide) (by decide) (fun _ q => nomatch q) (pc' := 350) rfl ?_
  intro v172 T172 h172 w172 K172 q172
  obtain ⟨rfl, rfl⟩ := q172
  show Goes p e below _ T172 (mkF m 350 #[.val (.int y0), .val (.int y1), .val (.int y2), .val (.int y3), .val (.int y4), .val (.int (3 : Int32)), .val (.int (Int32.ofNat ka)), .val (.int (Int32.ofNat kb)), .val (.int (Int32.ofNat kc)), .val (.int (Int32.ofNat kd)), .val (.ref a), .val (.int zo), .val (.int z12), .val (.int zc), .val (.int (1 : Int32)), .val (.int (2 : Int32)), .val (.int ((2 : Int32) - (1 : Int32))), .val (.ref r)] [(.int (Int32.ofNat kb)), (.int (Int32.ofNat kb))])
  refine i_icmp_eq_Y w172 rfl at_350 (pc' := 355) (by decide) ?_
  refine i_iload w172 at_355 rfl (pc' := 357) rfl ?_
  refine i_iconst w172 at_357 (z := (1 : Int32)) (by decide) (pc' := 358) rfl ?_
  refine i_icmp_le_Y w172 (by decide) at_358 (pc' := 387) (by decide) ?_
  refine i_iload w172 at_387 rfl (pc' := 389) rfl ?_
  refine i_iconst w172 at_389 (z := (2 : Int32)) (by decide) (pc' := 390) rfl ?_
  refine i_icmp_le_Y w172 (by decide) at_390 (pc' := 419) (by decide) ?_
  refine i_iload w172 at_419 rfl (pc' := 421) rfl ?_
  refine i_iconst w172 at_421 (z := (3 : Int32)) (by decide) (pc' := 422) rfl ?_
  refine i_icmp_le_Y w172 (by decide) at_422 (pc' := 451) (by decide) ?_
  refine i_iconst w172 at_451 (z := (1 : Int32)) (by decide) (pc' := 452) rfl ?_
  exact i_retNW w172 hS168 (Nat.le_trans (Nat.le_trans (Nat.le_trans (Nat.le_refl _) K170.1) K171.1) K172.1) at_452 rfl (by simp) rfl (by decide) (by decide)
set_option maxRecDepth 65536 in
set_option maxHeartbeats 40000000 in
theorem own_t4_0_4 (l : Launch) (Z : State) (a0 : Array Value) (hw : ∀ d ∈ tables_1, d.before a0 Z = true) (ka kb kc kd : Nat) (hka : ka < 256) (hkb : kb < 256) (hkc : kc < 256) (hkd : kd < 256) (y0 y1 y2 y3 y4 : Int32) (a t : Addr) (ct : ClassId) (zo z12 zc : Int32) (f : Nat) (G1 : Int32) (hG : ¬ G1 = 0) (SG : Sta Z Z.heap "java/lang/String" "COMPACT_STRINGS" "Z" (.int G1)) (G3 : Value) (hG3 : G3.isRef = true) (SF : Sta Z Z.heap "jdk/internal/util/Preconditions" "SIOOBE_FORMATTER" "Ljava/util/function/BiFunction;" G3) (h0 : Heap) (n0 : Nat) {p : Program} {e : Env} {s : State} {m : MethodId} {below : List Frame} {meth : Method} {c : Code} {vm : Vm} {kS : Nat} {T : State} {h : Heap} (w : Wk p l e room_1 (s.setVm vm) m #[(.int y0), (.int y1), (.int y2), (.int y3), (.int y4)] below meth c Z x.cls code maxLocals ret x.name n0 h0 [] T h 20 1000) (hS : s.Since vm kS) (hkS : kS ≤ h.size) (S : StrL Z h a t ct [ka, kb, kc, kd]) (hf : f ≤ 65536) (ho : ixv 123 [ka, kb, kc, kd] 0 = zo) (hzo1 : zo + 1 = Int32.ofNat f) (hcz : ixv 125 [ka, kb, kc, kd] f = zc) (hT : zo < 0 ∨ (¬ zo < 0 ∧ ¬ Int32.ofNat f < zc)) :
    Goes p e below (PW s n0 h0 [] (fun v h => v = some (.int 1)) room_1.cells room_1.slots) T (mkF m 300 #[.val (.int y0), .val (.int y1), .val (.int y2), .val (.int y3), .val (.int y4), .val (.int (4 : Int32)), .val (.int (Int32.ofNat ka)), .val (.int (Int32.ofNat kb)), .val (.int (Int32.ofNat kc)), .val (.int (Int32.ofNat kd)), .val (.ref a), .val (.int zo), .val (.int z12), .val (.int zc), .val (.int (0 : Int32)), .val (.int (4 : Int32)), .unset, .unset] []) := by
  refine i_iload w at_300 rfl (pc' := 302) rfl ?_
  refine i_iload w at_302 rfl (pc' := 304) rfl ?_
  refine i_isub w at_304 (pc' := 305) rfl ?_
  refine i_istore w at_305 (l' := #[.val (.int y0), .val (.int y1), .val (.int y2), .val (.int y3), .val (.int y4), .val (.int (4 : Int32)), .val (.int (Int32.ofNat ka)), .val (.int (Int32.ofNat kb)), .val (.int (Int32.ofNat kc)), .val (.int (Int32.ofNat kd)), .val (.ref a), .val (.int zo), .val (.int z12), .val (.int zc), .val (.int (0 : Int32)), .val (.int (4 : Int32)), .val (.int ((4 : Int32) - (0 : Int32))), .unset]) rfl (pc' := 307) rfl ?_
  refine i_aload w at_307 rfl rfl (pc' := 309) rfl ?_
  rcases hT with hno | ⟨hyo, hnc⟩
  ·
    refine c_staticW w hS hkS (y := (⟨"com/example/cluster_lock/clusterlock/redis/LockKeys", "hashTag", "(Ljava/lang/String;)Ljava/lang/String;"⟩ : MethodName)) (argsL := [(.ref a)]) (st := []) at_309 (hw _ (List.mem_of_getElem? (i := 43) rfl)) (hw _ (List.mem_of_getElem? (i := 44) rfl)) (hw _ (List.mem_of_getElem? (i := 45) rfl)) (hw _ (List.mem_of_getElem? (i := 46) rfl)) (by decide) own_pd_pLjava_lang_StringeqLjava_lang_Stringe rfl (own_tagW l Z a0 hw a t ct [ka, kb, kc, kd] zo zc f G1 hG SG G3 hG3 SF h n0 w.old S (by simp) (by simp) hf ho hzo1 hcz hno) rfl (by decide) (W := 0) (Nat.le_of_eq rfl) (by decide) (by decide) (by decide) (fun _ q => nomatch q) (pc' := 312) rfl ?_
    intro v173 T173 h173 vm173 w173 hS173 K173 q173
    obtain rfl := q173
    show Goes p e below _ T173 (mkF m 312 #[.val (.int y0), .val (.int y1), .val (.int y2), .val (.int y3), .val (.int y4), .val (.int (4 : Int32)), .val (.int (Int32.ofNat ka)), .val (.int (Int32.ofNat kb)), .val (.int (Int32.ofNat kc)), .val (.int (Int32.ofNat kd)), .val (.ref a), .val (.int zo), .val (.int z12), .val (.int zc), .val (.int (0 : Int32)), .val (.int (4 : Int32)), .val (.int ((4 : Int32) - (0 : Int32))), .unset] [(.ref a)])
    have S_174 := S.keep K173 nin0 nin0
    refine i_astore w173 at_312 rfl (l' := #[.val (.int y0), .val (.int y1), .val (.int y2), .val (.int y3), .val (.int y4), .val (.int (4 : Int32)), .val (.int (Int32.ofNat ka)), .val (.int (Int32.ofNat kb)), .val (.int (Int32.ofNat kc)), .val (.int (Int32.ofNat kd)), .val (.ref a), .val (.int zo), .val (.int z12), .val (.int zc), .val (.int (0 : Int32)), .val (.int (4 : Int32)), .val (.int ((4 : Int32) - (0 : Int32))), .val (.ref a)]) rfl (pc' := 314) rfl ?_
    refine i_aload w173 at_314 rfl rfl (pc' := 316) rfl ?_
    refine c_virtual w173 (y := (⟨"java/lang/String", "length", "()I"⟩ : MethodName)) (C := "java/lang/String") (a := a) (argsL := []) (st := []) at_316 (hw _ (List.mem_of_getElem? (i := 105) rfl)) (hw _ (List.mem_of_getElem? (i := 78) rfl)) (hw _ (List.mem_of_getElem? (i := 80) rfl)) (hw _ (List.mem_of_getElem? (i := 79) rfl)) (hw _ (List.mem_of_getElem? (i := 81) rfl)) (hw _ (List.mem_of_getElem? (i := 9) rfl)) (by decide) own_pd_pqI rfl S_174.1 (own_length l Z a0 hw a t ct [ka, kb, kc, kd] G1 hG SG h173 n0 w173.old (Or.inl S_174)) rfl (by decide) (W := 0) (Nat.le_of_eq rfl) (by decide) (by decide) (by decide) (fun _ q => nomatch q) (pc' := 319) rfl ?_
    intro v175 T175 h175 w175 K175 q175
    obtain ⟨rfl, rfl⟩ := q175
    show Goes p e below _ T175 (mkF m 319 #[.val (.int y0), .val (.int y1), .val (.int y2), .val (.int y3), .val (.int y4), .val (.int (4 : Int32)), .val (.int (Int32.ofNat ka)), .val (.int (Int32.ofNat kb)), .val (.int (Int32.ofNat kc)), .val (.int (Int32.ofNat kd)), .val (.ref a), .val (.int zo), .val (.int z12), .val (.int zc), .val (.int (0 : Int32)), .val (.int (4 : Int32)), .val (.int ((4 : Int32) - (0 : Int32))), .val (.ref a)] [(.int (4 : Int32))])
    refine i_iload w175 at_319 rfl (pc' := 321) rfl ?_
    refine i_icmp_eq_Y w175 rfl at_321 (pc' := 326) (by decide) ?_
    refine i_iload w175 at_326 rfl (pc' := 328) rfl ?_
    refine i_if_le_N w175 (by decide) at_328 (pc' := 331) rfl ?_
    refine i_aload w175 at_331 rfl rfl (pc' := 333) rfl ?_
    refine i_iconst w175 at_333 (z := (0 : Int32)) (by decide) (pc' := 334) rfl ?_
    refine c_virtual w175 (y := (⟨"java/lang/String", "charAt", "(I)C"⟩ : MethodName)) (C := "java/lang/String") (a := a) (argsL := [(.int (0 : Int32))]) (st := []) at_334 (hw _ (List.mem_of_getElem? (i := 106) rfl)) (hw _ (List.mem_of_getElem? (i := 107) rfl)) (hw _ (List.mem_of_getElem? (i := 109) rfl)) (hw _ (List.mem_of_getElem? (i := 108) rfl)) (hw _ (List.mem_of_getElem? (i := 110) rfl)) (hw _ (List.mem_of_getElem? (i := 9) rfl)) (by decide) own_pd_pIqC rfl S_174.1 (own_charAt l Z a0 hw a t ct [ka, kb, kc, kd] 0 ka G1 hG SG G3 hG3 SF h173 n0 w175.old S_174 rfl) rfl (by decide) (W := 0) (Nat.le_of_eq rfl) (by decide) (by decide) (by decide) (fun _ q => nomatch q) (pc' := 337) rfl ?_
    intro v176 T176 h176 w176 K176 q176
    obtain ⟨rfl, rfl⟩ := q176
    show Goes p e below _ T176 (mkF m 337 #[.val (.int y0), .val (.int y1), .val (.int y2), .val (.int y3), .val (.int y4), .val (.int (4 : Int32)), .val (.int (Int32.ofNat ka)), .val (.int (Int32.ofNat kb)), .val (.int (Int32.ofNat kc)), .val (.int (Int32.ofNat kd)), .val (.ref a), .val (.int zo), .val (.int z12), .val (.int zc), .val (.int (0 : Int32)), .val (.int (4 : Int32)), .val (.int ((4 : Int32) - (0 : Int32))), .val (.ref a)] [(.int (Int32.ofNat ka))])
    refine i_iload w176 at_337 rfl (pc' := 339) rfl ?_
    refine i_iload w176 at_339 rfl (pc' := 341) rfl ?_
    refine i_iload w176 at_341 rfl (pc' := 343) rfl ?_
    refine i_iload w176 at_343 rfl (pc' := 345) rfl ?_
    refine i_iload w176 at_345 rfl (pc' := 347) rfl ?_
    refine c_static w176 (y := (⟨"com/example/cluster_lock/clusterlock/redis/LockKeysHashTagPinLaw", "at", "(ICCCC)C"⟩ : MethodName)) (argsL := [(.int (0 : Int32)), (.int (Int32.ofNat ka)), (.int (Int32.ofNat kb)), (.int (Int32.ofNat kc)), (.int (Int32.ofNat kd))]) (st := [(.int (Int32.ofNat ka))]) at_347 (hw _ (List.mem_of_getElem? (i := 40) rfl)) (hw _ (List.mem_of_getElem? (i := 41) rfl)) (hw _ (List.mem_of_getElem? (i := 2) rfl)) (hw _ (List.mem_of_getElem? (i := 42) rfl)) (by decide) own_pd_pICCCCqC rfl (own_at l Z a0 hw 0 ka kb kc kd h173 n0 w176.old (by decide) hka hkb hkc hkd) rfl (by decide) (W := 1) (Nat.le_of_eq rfl) (by decide) (by decide) (by decide) (fun _ q => nomatch q) (pc' := 350) rfl ?_
    intro v177 T177 h177 w177 K177 q177
    obtain ⟨rfl, rfl⟩ := q177
    show Goes p e below _ T177 (mkF m 350 #[.val (.int y0), .val (.int y1), .val (.int y2), .val (.int y3), .val (.int y4), .val (.int (4 : Int32)), .val (.int (Int32.ofNat ka)), .val (.int (Int32.ofNat kb)), .val (.int (Int32.ofNat kc)), .val (.int (Int32.ofNat kd)), .val (.ref a), .val (.int zo), .val (.int z12), .val (.int zc), .val (.int (0 : Int32)), .val (.int (4 : Int32)), .val (.int ((4 : Int32) - (0 : Int32))), .val (.ref a)] [(.int (Int32.ofNat ka)), (.int (Int32.ofNat ka))])
    refine i_icmp_eq_Y w177 rfl at_350 (pc' := 355) (by decide) ?_
    refine i_iload w177 at_355 rfl (pc' := 357) rfl ?_
    refine i_iconst w177 at_357 (z := (1 : Int32)) (by decide) (pc' := 358) rfl ?_
    refine i_icmp_le_N w177 (by decide) at_358 (pc' := 361) rfl ?_
    refine i_aload w177 at_361 rfl rfl (pc' := 363) rfl ?_
    refine i_iconst w177 at_363 (z := (1 : Int32)) (by decide) (pc' := 364) rfl ?_
    refine c_virtual w177 (y := (⟨"java/lang/String", "charAt", "(I)C"⟩ : MethodName)) (C := "java/lang/String") (a := a) (argsL := [(.int (1 : Int32))]) (st := []) at_364 (hw _ (List.mem_of_getElem? (i := 106) rfl)) (hw _ (List.mem_of_getElem? (i := 107) rfl)) (hw _ (List.mem_of_getElem? (i := 109) rfl)) (hw _ (List.mem_of_getElem? (i := 108) rfl)) (hw _ (List.mem_of_getElem? (i := 110) rfl)) (hw _ (List.mem_of_getElem? (i := 9) rfl)) (by decide) own_pd_pIqC rfl S_174.1 (own_charAt l Z a0 hw a t ct [ka, kb, kc, kd] 1 kb G1 hG SG G3 hG3 SF h173 n0 w177.old S_174 rfl) rfl (by decide) (W := 0) (Nat.le_of_eq rfl) (by decide) (by decide) (by decide) (fun _ q => nomatch q) (pc' := 367) rfl ?_
    intro v178 T178 h178 w178 K178 q178
    obtain ⟨rfl, rfl⟩ := q178
    show Goes p e below _ T178 (mkF m 367 #[.val (.int y0), .val (.int y1), .val (.int y2), .val (.int y3), .val (.int y4), .val (.int (4 : Int32)), .val (.int (Int32.ofNat ka)), .val (.int (Int32.ofNat kb)), .val (.int (Int32.ofNat kc)), .val (.int (Int32.ofNat kd)), .val (.ref a), .val (.int zo), .val (.int z12), .val (.int zc), .val (.int (0 : Int32)), .val (.int (4 : Int32)), .val (.int ((4 : Int32) - (0 : Int32))), .val (.ref a)] [(.int (Int32.ofNat kb))])
    refine i_iload w178 at_367 rfl (pc' := 369) rfl ?_
    refine i_iconst w178 at_369 (z := (1 : Int32)) (by decide) (pc' := 370) rfl ?_
    refine i_iadd w178 at_370 (pc' := 371) rfl ?_
    refine i_iload w178 at_371 rfl (pc' := 373) rfl ?_
    refine i_iload w178 at_373 rfl (pc' := 375) rfl ?_
    refine i_iload w178 at_375 rfl (pc' := 377) rfl ?_
    refine i_iload w178 at_377 rfl (pc' := 379) rfl ?_
    refine c_static w178 (y := (⟨"com/example/cluster_lock/clusterlock/redis/LockKeysHashTagPinLaw", "at", "(ICCCC)C"⟩ : MethodName)) (argsL := [(.int ((0 : Int32) + (1 : Int32))), (.int (Int32.ofNat ka)), (.int (Int32.ofNat kb)), (.int (Int32.ofNat kc)), (.int (Int32.ofNat kd))]) (st := [(.int (Int32.ofNat kb))]) at_379 (hw _ (List.mem_of_getElem? (i := 40) rfl)) (hw _ (List.mem_of_getElem? (i := 41) rfl)) (hw _ (List.mem_of_getElem? (i := 2) rfl)) (hw _ (List.mem_of_getElem? (i := 42) rfl)) (by decide) own_pd_pICCCCqC rfl (own_at l Z a0 hw 1 ka kb kc kd h173 n0 w178.old (by decide) hka hkb hkc hkd) rfl (by decide) (W := 1) (Nat.le_of_eq rfl) (by decide) (by decide) (by decide) (fun _ q => nomatch q) (pc' := 382) rfl ?_
    intro v179 T179 h179 w179 K179 q179
    obtain ⟨rfl, rfl⟩ := q179
    show Goes p e below _ T179 (mkF m 382 #[.val (.int y0), .val (.int y1), .val (.int y2), .val (.int y3), .val (.int y4), .val (.int (4 : Int32)), .val (.int (Int32.ofNat ka)), .val (.int (Int32.ofNat kb)), .val (.int (Int32.ofNat kc)), .val (.int (Int32.ofNat kd)), .val (.ref a), .val (.int zo), .val (.int z12), .val (.int zc), .val (.int (0 : Int32)), .val (.int (4 : Int32)), .val (.int ((4 : Int32) - (0 : Int32))), .val (.ref a)] [(.int (Int32.ofNat kb)), (.int (Int32.ofNat kb))])
    refine i_icmp_eq_Y w179 rfl at_382 (pc' := 387) (by decide) ?_
    refine i_iload w179 at_387 rfl (pc' := 389) rfl ?_
    refine i_iconst w179 at_389 (z := (2 : Int32)) (by decide) (pc' := 390) rfl ?_
    refine i_icmp_le_N w179 (by decide) at_390 (pc' := 393) rfl ?_
    refine i_aload w179 at_393 rfl rfl (pc' := 395) rfl ?_
    refine i_iconst w179 at_395 (z := (2 : Int32)) (by decide) (pc' := 396) rfl ?_
    refine c_virtual w179 (y := (⟨"java/lang/String", "charAt", "(I)C"⟩ : MethodName)) (C := "java/lang/String") (a := a) (argsL := [(.int (2 : Int32))]) (st := []) at_396 (hw _ (List.mem_of_getElem? (i := 106) rfl)) (hw _ (List.mem_of_getElem? (i := 107) rfl)) (hw _ (List.mem_of_getElem? (i := 109) rfl)) (hw _ (List.mem_of_getElem? (i := 108) rfl)) (hw _ (List.mem_of_getElem? (i := 110) rfl)) (hw _ (List.mem_of_getElem? (i := 9) rfl)) (by decide) own_pd_pIqC rfl S_174.1 (own_charAt l Z a0 hw a t ct [ka, kb, kc, kd] 2 kc G1 hG SG G3 hG3 SF h173 n0 w179.old S_174 rfl) rfl (by decide) (W := 0) (Nat.le_of_eq rfl) (by decide) (by decide) (by decide) (fun _ q => nomatch q) (pc' := 399) rfl ?_
    intro v180 T180 h180 w180 K180 q180
    obtain ⟨rfl, rfl⟩ := q180
    show Goes p e below _ T180 (mkF m 399 #[.val (.int y0), .val (.int y1), .val (.int y2), .val (.int y3), .val (.int y4), .val (.int (4 : Int32)), .val (.int (Int32.ofNat ka)), .val (.int (Int32.ofNat kb)), .val (.int (Int32.ofNat kc)), .val (.int (Int32.ofNat kd)), .val (.ref a), .val (.int zo), .val (.int z12), .val (.int zc), .val (.int (0 : Int32)), .val (.int (4 : Int32)), .val (.int ((4 : Int32) - (0 : Int32))), .val (.ref a)] [(.int (Int32.ofNat kc))])
    refine i_iload w180 at_399 rfl (pc' := 401) rfl ?_
    refine i_iconst w180 at_401 (z := (2 : Int32)) (by decide) (pc' := 402) rfl ?_
    refine i_iadd w180 at_402 (pc' := 403) rfl ?_
    refine i_iload w180 at_403 rfl (pc' := 405) rfl ?_
    refine i_iload w180 at_405 rfl (pc' := 407) rfl ?_
    refine i_iload w180 at_407 rfl (pc' := 409) rfl ?_
    refine i_iload w180 at_409 rfl (pc' := 411) rfl ?_
    refine c_static w180 (y := (⟨"com/example/cluster_lock/clusterlock/redis/LockKeysHashTagPinLaw", "at", "(ICCCC)C"⟩ : MethodName)) (argsL := [(.int ((0 : Int32) + (2 : Int32))), (.int (Int32.ofNat ka)), (.int (Int32.ofNat kb)), (.int (Int32.ofNat kc)), (.int (Int32.ofNat kd))]) (st := [(.int (Int32.ofNat kc))]) at_411 (hw _ (List.mem_of_getElem? (i := 40) rfl)) (hw _ (List.mem_of_getElem? (i := 41) rfl)) (hw _ (List.mem_of_getElem? (i := 2) rfl)) (hw _ (List.mem_of_getElem? (i := 42) rfl)) (by decide) own_pd_pICCCCqC rfl (own_at l Z a0 hw 2 ka kb kc kd h173 n0 w180.old (by decide) hka hkb hkc hkd) rfl (by decide) (W := 1) (Nat.le_of_eq rfl) (by decide) (by decide) (by decide) (fun _ q => nomatch q) (pc' := 414) rfl ?_
    intro v181 T181 h181 w181 K181 q181
    obtain ⟨rfl, rfl⟩ := q181
    show Goes p e below _ T181 (mkF m 414 #[.val (.int y0), .val (.int y1), .val (.int y2), .val (.int y3), .val (.int y4), .val (.int (4 : Int32)), .val (.int (Int32.ofNat ka)), .val (.int (Int32.ofNat kb)), .val (.int (Int32.ofNat kc)), .val (.int (Int32.ofNat kd)), .val (.ref a), .val (.int zo), .val (.int z12), .val (.int zc), .val (.int (0 : Int32)), .val (.int (4 : Int32)), .val (.int ((4 : Int32) - (0 : Int32))), .val (.ref a)] [(.int (Int32.ofNat kc)), (.int (Int32.ofNat kc))])
    refine i_icmp_eq_Y w181 rfl at_414 (pc' := 419) (by decide) ?_
    refine i_iload w181 at_419 rfl (pc' := 421) rfl ?_
    refine i_iconst w181 at_421 (z := (3 : Int32)) (by decide) (pc' := 422) rfl ?_
    refine i_icmp_le_N w181 (by decide) at_422 (pc' := 425) rfl ?_
    refine i_aload w181 at_425 rfl rfl (pc' := 427) rfl ?_
    refine i_iconst w181 at_427 (z := (3 : Int32)) (by decide) (pc' := 428) rfl ?_
    refine c_virtual w181 (y := (⟨"java/lang/String", "charAt", "(I)C"⟩ : MethodName)) (C := "java/lang/String") (a := a) (argsL := [(.int (3 : Int32))]) (st := []) at_428 (hw _ (List.mem_of_getElem? (i := 106) rfl)) (hw _ (List.mem_of_getElem? (i := 107) rfl)) (hw _ (List.mem_of_getElem? (i := 109) rfl)) (hw _ (List.mem_of_getElem? (i := 108) rfl)) (hw _ (List.mem_of_getElem? (i := 110) rfl)) (hw _ (List.mem_of_getElem? (i := 9) rfl)) (by decide) own_pd_pIqC rfl S_174.1 (own_charAt l Z a0 hw a t ct [ka, kb, kc, kd] 3 kd G1 hG SG G3 hG3 SF h173 n0 w181.old S_174 rfl) rfl (by decide) (W := 0) (Nat.le_of_eq rfl) (by decide) (by decide) (by decide) (fun _ q => nomatch q) (pc' := 431) rfl ?_
    intro v182 T182 h182 w182 K182 q182
    obtain ⟨rfl, rfl⟩ := q182
    show Goes p e below _ T182 (mkF m 431 #[.val (.int y0), .val (.int y1), .val (.int y2), .val (.int y3), .val (.int y4), .val (.int (4 : Int32)), .val (.int (Int32.ofNat ka)), .val (.int (Int32.ofNat kb)), .val (.int (Int32.ofNat kc)), .val (.int (Int32.ofNat kd)), .val (.ref a), .val (.int zo), .val (.int z12), .val (.int zc), .val (.int (0 : Int32)), .val (.int (4 : Int32)), .val (.int ((4 : Int32) - (0 : Int32))), .val (.ref a)] [(.int (Int32.ofNat kd))])
    refine i_iload w182 at_431 rfl (pc' := 433) rfl ?_
    refine i_iconst w182 at_433 (z := (3 : Int32)) (by decide) (pc' := 434) rfl ?_
    refine i_iadd w182 at_434 (pc' := 435) rfl ?_
    refine i_iload w182 at_435 rfl (pc' := 437) rfl ?_
    refine i_iload w182 at_437 rfl (pc' := 439) rfl ?_
    refine i_iload w182 at_439 rfl (pc' := 441) rfl ?_
    refine i_iload w182 at_441 rfl (pc' := 443) rfl ?_
    refine c_static w182 (y := (⟨"com/example/cluster_lock/clusterlock/redis/LockKeysHashTagPinLaw", "at", "(ICCCC)C"⟩ : MethodName)) (argsL := [(.int ((0 : Int32) + (3 : Int32))), (.int (Int32.ofNat ka)), (.int (Int32.ofNat kb)), (.int (Int32.ofNat kc)), (.int (Int32.ofNat kd))]) (st := [(.int (Int32.ofNat kd))]) at_443 (hw _ (List.mem_of_getElem? (i := 40) rfl)) (hw _ (List.mem_of_getElem? (i := 41) rfl)) (hw _ (List.mem_of_getElem? (i := 2) rfl)) (hw _ (List.mem_of_getElem? (i := 42) rfl)) (by decide) own_pd_pICCCCqC rfl (own_at l Z a0 hw 3 ka kb kc kd h173 n0 w182.old (by decide) hka hkb hkc hkd) rfl (by decide) (W := 1) (Nat.le_of_eq rfl) (by decide) (by decide) (by decide) (fun _ q => nomatch q) (pc' := 446) rfl ?_
    intro v183 T183 h183 w183 K183 q183
    obtain ⟨rfl, rfl⟩ := q183
    show Goes p e below _ T183 (mkF m 446 #[.val (.int y0), .val (.int y1), .val (.int y2), .val (.int y3), .val (.int y4), .val (.int (4 : Int32)), .val (.int (Int32.ofNat ka)), .val (.int (Int32.ofNat kb)), .val (.int (Int32.ofNat kc)), .val (.int (Int32.ofNat kd)), .val (.ref a), .val (.int zo), .val (.int z12), .val (.int zc), .val (.int (0 : Int32)), .val (.int (4 : Int32)), .val (.int ((4 : Int32) - (0 : Int32))), .val (.ref a)] [(.int (Int32.ofNat kd)), (.int (Int32.ofNat kd))])
    refine i_icmp_eq_Y w183 rfl at_446 (pc' := 451) (by decide) ?_
    refine i_iconst w183 at_451 (z := (1 : Int32)) (by decide) (pc' := 452) rfl ?_
    exact i_retNW w183 hS173 (Nat.le_trans (Nat.le_trans (Nat.le_trans (Nat.le_trans (Nat.le_trans (Nat.le_trans (Nat.le_trans (Nat.le_trans (Nat.le_trans (Nat.le_refl _) K175.1) K176.1) K177.1) K178.1) K179.1) K180.1) K181.1) K182.1) K183.1) at_452 rfl (by simp) rfl (by decide) (by decide)
  ·
    refine c_staticW w hS hkS (y := (⟨"com/example/cluster_lock/clusterlock/redis/LockKeys", "hashTag", "(Ljava/lang/String;)Ljava/lang/String;"⟩ : MethodName)) (argsL := [(.ref a)]) (st := []) at_309 (hw _ (List.mem_of_getElem? (i := 43) rfl)) (hw _ (List.mem_of_getElem? (i := 44) rfl)) (hw _ (List.mem_of_getElem? (i := 45) rfl)) (hw _ (List.mem_of_getElem? (i := 46) rfl)) (by decide) own_pd_pLjava_lang_StringeqLjava_lang_Stringe rfl (own_tagN l Z a0 hw a t ct [ka, kb, kc, kd] zo zc f G1 hG SG G3 hG3 SF h n0 w.old S (by simp) (by simp) hf ho hzo1 hcz hyo hnc) rfl (by decide) (W := 0) (Nat.le_of_eq rfl) (by decide) (by decide) (by decide) (fun _ q => nomatch q) (pc' := 312) rfl ?_
    intro v184 T184 h184 vm184 w184 hS184 K184 q184
    obtain rfl := q184
    show Goes p e below _ T184 (mkF m 312 #[.val (.int y0), .val (.int y1), .val (.int y2), .val (.int y3), .val (.int y4), .val (.int (4 : Int32)), .val (.int (Int32.ofNat ka)), .val (.int (Int32.ofNat kb)), .val (.int (Int32.ofNat kc)), .val (.int (Int32.ofNat kd)), .val (.ref a), .val (.int zo), .val (.int z12), .val (.int zc), .val (.int (0 : Int32)), .val (.int (4 : Int32)), .val (.int ((4 : Int32) - (0 : Int32))), .unset] [(.ref a)])
    have S_185 := S.keep K184 nin0 nin0
    refine i_astore w184 at_312 rfl (l' := #[.val (.int y0), .val (.int y1), .val (.int y2), .val (.int y3), .val (.int y4), .val (.int (4 : Int32)), .val (.int (Int32.ofNat ka)), .val (.int (Int32.ofNat kb)), .val (.int (Int32.ofNat kc)), .val (.int (Int32.ofNat kd)), .val (.ref a), .val (.int zo), .val (.int z12), .val (.int zc), .val (.int (0 : Int32)), .val (.int (4 : Int32)), .val (.int ((4 : Int32) - (0 : Int32))), .val (.ref a)]) rfl (pc' := 314) rfl ?_
    refine i_aload w184 at_314 rfl rfl (pc' := 316) rfl ?_
    refine c_virtual w184 (y := (⟨"java/lang/String", "length", "()I"⟩ : MethodName)) (C := "java/lang/String") (a := a) (argsL := []) (st := []) at_316 (hw _ (List.mem_of_getElem? (i := 105) rfl)) (hw _ (List.mem_of_getElem? (i := 78) rfl)) (hw _ (List.mem_of_getElem? (i := 80) rfl)) (hw _ (List.mem_of_getElem? (i := 79) rfl)) (hw _ (List.mem_of_getElem? (i := 81) rfl)) (hw _ (List.mem_of_getElem? (i := 9) rfl)) (by decide) own_pd_pqI rfl S_185.1 (own_length l Z a0 hw a t ct [ka, kb, kc, kd] G1 hG SG h184 n0 w184.old (Or.inl S_185)) rfl (by decide) (W := 0) (Nat.le_of_eq rfl) (by decide) (by decide) (by decide) (fun _ q => nomatch q) (pc' := 319) rfl ?_
    intro v186 T186 h186 w186 K186 q186
    obtain ⟨rfl, rfl⟩ := q186
    show Goes p e below _ T186 (mkF m 319 #[.val (.int y0), .val (.int y1), .val (.int y2), .val (.int y3), .val (.int y4), .val (.int (4 : Int32)), .val (.int (Int32.ofNat ka)), .val (.int (Int32.ofNat kb)), .val (.int (Int32.ofNat kc)), .val (.int (Int32.ofNat kd)), .val (.ref a), .val (.int zo), .val (.int z12), .val (.int zc), .val (.int (0 : Int32)), .val (.int (4 : Int32)), .val (.int ((4 : Int32) - (0 : Int32))), .val (.ref a)] [(.int (4 : Int32))])
    refine i_iload w186 at_319 rfl (pc' := 321) rfl ?_
    refine i_icmp_eq_Y w186 rfl at_321 (pc' := 326) (by decide) ?_
    refine i_iload w186 at_326 rfl (pc' := 328) rfl ?_
    refine i_if_le_N w186 (by decide) at_328 (pc' := 331) rfl ?_
    refine i_aload w186 at_331 rfl rfl (pc' := 333) rfl ?_
    refine i_iconst w186 at_333 (z := (0 : Int32)) (by decide) (pc' := 334) rfl ?_
    refine c_virtual w186 (y := (⟨"java/lang/String", "charAt", "(I)C"⟩ : MethodName)) (C := "java/lang/String") (a := a) (argsL := [(.int (0 : Int32))]) (st := []) at_334 (hw _ (List.mem_of_getElem? (i := 106) rfl)) (hw _ (List.mem_of_getElem? (i := 107) rfl)) (hw _ (List.mem_of_getElem? (i := 109) rfl)) (hw _ (List.mem_of_getElem? (i := 108) rfl)) (hw _ (List.mem_of_getElem? (i := 110) rfl)) (hw _ (List.mem_of_getElem? (i := 9) rfl)) (by decide) own_pd_pIqC rfl S_185.1 (own_charAt l Z a0 hw a t ct [ka, kb, kc, kd] 0 ka G1 hG SG G3 hG3 SF h184 n0 w186.old S_185 rfl) rfl (by decide) (W := 0) (Nat.le_of_eq rfl) (by decide) (by decide) (by decide) (fun _ q => nomatch q) (pc' := 337) rfl ?_
    intro v187 T187 h187 w187 K187 q187
    obtain ⟨rfl, rfl⟩ := q187
    show Goes p e below _ T187 (mkF m 337 #[.val (.int y0), .val (.int y1), .val (.int y2), .val (.int y3), .val (.int y4), .val (.int (4 : Int32)), .val (.int (Int32.ofNat ka)), .val (.int (Int32.ofNat kb)), .val (.int (Int32.ofNat kc)), .val (.int (Int32.ofNat kd)), .val (.ref a), .val (.int zo), .val (.int z12), .val (.int zc), .val (.int (0 : Int32)), .val (.int (4 : Int32)), .val (.int ((4 : Int32) - (0 : Int32))), .val (.ref a)] [(.int (Int32.ofNat ka))])
    refine i_iload w187 at_337 rfl (pc' := 339) rfl ?_
    refine i_iload w187 at_339 rfl (pc' := 341) rfl ?_
    refine i_iload w187 at_341 rfl (pc' := 343) rfl ?_
    refine i_iload w187 at_343 rfl (pc' := 345) rfl ?_
    refine i_iload w187 at_345 rfl (pc' := 347) rfl ?_
    refine c_static w187 (y := (⟨"com/example/cluster_lock/clusterlock/redis/LockKeysHashTagPinLaw", "at", "(ICCCC)C"⟩ : MethodName)) (argsL := [(.int (0 : Int32)), (.int (Int32.ofNat ka)), (.int (Int32.ofNat kb)), (.int (Int32.ofNat kc)), (.int (Int32.ofNat kd))]) (st := [(.int (Int32.ofNat ka))]) at_347 (hw _ (List.mem_of_getElem? (i := 40) rfl)) (hw _ (List.mem_of_getElem? (i := 41) rfl)) (hw _ (List.mem_of_getElem? (i := 2) rfl)) (hw _ (List.mem_of_getElem? (i := 42) rfl)) (by decide) own_pd_pICCCCqC rfl (own_at l Z a0 hw 0 ka kb kc kd h184 n0 w187.old (by decide) hka hkb hkc hkd) rfl (by decide) (W := 1) (Nat.le_of_eq rfl) (by decide) (by decide) (by decide) (fun _ q => nomatch q) (pc' := 350) rfl ?_
    intro v188 T188 h188 w188 K188 q188
    obtain ⟨rfl, rfl⟩ := q188
    show Goes p e below _ T188 (mkF m 350 #[.val (.int y0), .val (.int y1), .val (.int y2), .val (.int y3), .val (.int y4), .val (.int (4 : Int32)), .val (.int (Int32.ofNat ka)), .val (.int (Int32.ofNat kb)), .val (.int (Int32.ofNat kc)), .val (.int (Int32.ofNat kd)), .val (.ref a), .val (.int zo), .val (.int z12), .val (.int zc), .val (.int (0 : Int32)), .val (.int (4 : Int32)), .val (.int ((4 : Int32) - (0 : Int32))), .val (.ref a)] [(.int (Int32.ofNat ka)), (.int (Int32.ofNat ka))])
    refine i_icmp_eq_Y w188 rfl at_350 (pc' := 355) (by decide) ?_
    refine i_iload w188 at_355 rfl (pc' := 357) rfl ?_
    refine i_iconst w188 at_357 (z := (1 : Int32)) (by decide) (pc' := 358) rfl ?_
    refine i_icmp_le_N w188 (by decide) at_358 (pc' := 361) rfl ?_
    refine i_aload w188 at_361 rfl rfl (pc' := 363) rfl ?_
    refine i_iconst w188 at_363 (z := (1 : Int32)) (by decide) (pc' := 364) rfl ?_
    refine c_virtual w188 (y := (⟨"java/lang/String", "charAt", "(I)C"⟩ : MethodName)) (C := "java/lang/String") (a := a) (argsL := [(.int (1 : Int32))]) (st := []) at_364 (hw _ (List.mem_of_getElem? (i := 106) rfl)) (hw _ (List.mem_of_getElem? (i := 107) rfl)) (hw _ (List.mem_of_getElem? (i := 109) rfl)) (hw _ (List.mem_of_getElem? (i := 108) rfl)) (hw _ (List.mem_of_getElem? (i := 110) rfl)) (hw _ (List.mem_of_getElem? (i := 9) rfl)) (by decide) own_pd_pIqC rfl S_185.1 (own_charAt l Z a0 hw a t ct [ka, kb, kc, kd] 1 kb G1 hG SG G3 hG3 SF h184 n0 w188.old S_185 rfl) rfl (by decide) (W := 0) (Nat.le_of_eq rfl) (by decide) (by decide) (by decide) (fun _ q => nomatch q) (pc' := 367) rfl ?_
    intro v189 T189 h189 w189 K189 q189
    obtain ⟨rfl, rfl⟩ := q189
    show Goes p e below _ T189 (mkF m 367 #[.val (.int y0), .val (.int y1), .val (.int y2), .val (.int y3), .val (.int y4), .val (.int (4 : Int32)), .val (.int (Int32.ofNat ka)), .val (.int (Int32.ofNat kb)), .val (.int (Int32.ofNat kc)), .val (.int (Int32.ofNat kd)), .val (.ref a), .val (.int zo), .val (.int z12), .val (.int zc), .val (.int (0 : Int32)), .val (.int (4 : Int32)), .val (.int ((4 : Int32) - (0 : Int32))), .val (.ref a)] [(.int (Int32.ofNat kb))])
    refine i_iload w189 at_367 rfl (pc' := 369) rfl ?_
    refine i_iconst w189 at_369 (z := (1 : Int32)) (by decide) (pc' := 370) rfl ?_
    refine i_iadd w189 at_370 (pc' := 371) rfl ?_
    refine i_iload w189 at_371 rfl (pc' := 373) rfl ?_
    refine i_iload w189 at_373 rfl (pc' := 375) rfl ?_
    refine i_iload w189 at_375 rfl (pc' := 377) rfl ?_
    refine i_iload w189 at_377 rfl (pc' := 379) rfl ?_
    refine c_static w189 (y := (⟨"com/example/cluster_lock/clusterlock/redis/LockKeysHashTagPinLaw", "at", "(ICCCC)C"⟩ : MethodName)) (argsL := [(.int ((0 : Int32) + (1 : Int32))), (.int (Int32.ofNat ka)), (.int (Int32.ofNat kb)), (.int (Int32.ofNat kc)), (.int (Int32.ofNat kd))]) (st := [(.int (Int32.ofNat kb))]) at_379 (hw _ (List.mem_of_getElem? (i := 40) rfl)) (hw _ (List.mem_of_getElem? (i := 41) rfl)) (hw _ (List.mem_of_getElem? (i := 2) rfl)) (hw _ (List.mem_of_getElem? (i := 42) rfl)) (by decide) own_pd_pICCCCqC rfl (own_at l Z a0 hw 1 ka kb kc kd h184 n0 w189.old (by decide) hka hkb hkc hkd) rfl (by decide) (W := 1) (Nat.le_of_eq rfl) (by decide) (by decide) (by decide) (fun _ q => nomatch q) (pc' := 382) rfl ?_
    intro v190 T190 h190 w190 K190 q190
    obtain ⟨rfl, rfl⟩ := q190
    show Goes p e below _ T190 (mkF m 382 #[.val (.int y0), .val (.int y1), .val (.int y2), .val (.int y3), .val (.int y4), .val (.int (4 : Int32)), .val (.int (Int32.ofNat ka)), .val (.int (Int32.ofNat kb)), .val (.int (Int32.ofNat kc)), .val (.int (Int32.ofNat kd)), .val (.ref a), .val (.int zo), .val (.int z12), .val (.int zc), .val (.int (0 : Int32)), .val (.int (4 : Int32)), .val (.int ((4 : Int32) - (0 : Int32))), .val (.ref a)] [(.int (Int32.ofNat kb)), (.int (Int32.ofNat kb))])
    refine i_icmp_eq_Y w190 rfl at_382 (pc' := 387) (by decide) ?_
    refine i_iload w190 at_387 rfl (pc' := 389) rfl ?_
    refine i_iconst w190 at_389 (z := (2 : Int32)) (by decide) (pc' := 390) rfl ?_
    refine i_icmp_le_N w190 (by decide) at_390 (pc' := 393) rfl ?_
    refine i_aload w190 at_393 rfl rfl (pc' := 395) rfl ?_
    refine i_iconst w190 at_395 (z := (2 : Int32)) (by decide) (pc' := 396) rfl ?_
    refine c_virtual w190 (y := (⟨"java/lang/String", "charAt", "(I)C"⟩ : MethodName)) (C := "java/lang/String") (a := a) (argsL := [(.int (2 : Int32))]) (st := []) at_396 (hw _ (List.mem_of_getElem? (i := 106) rfl)) (hw _ (List.mem_of_getElem? (i := 107) rfl)) (hw _ (List.mem_of_getElem? (i := 109) rfl)) (hw _ (List.mem_of_getElem? (i := 108) rfl)) (hw _ (List.mem_of_getElem? (i := 110) rfl)) (hw _ (List.mem_of_getElem? (i := 9) rfl)) (by decide) own_pd_pIqC rfl S_185.1 (own_charAt l Z a0 hw a t ct [ka, kb, kc, kd] 2 kc G1 hG SG G3 hG3 SF h184 n0 w190.old S_185 rfl) rfl (by decide) (W := 0) (Nat.le_of_eq rfl) (by decide) (by decide) (by decide) (fun _ q => nomatch q) (pc' := 399) rfl ?_
    intro v191 T191 h191 w191 K191 q191
    obtain ⟨rfl, rfl⟩ := q191
    show Goes p e below _ T191 (mkF m 399 #[.val (.int y0), .val (.int y1), .val (.int y2), .val (.int y3), .val (.int y4), .val (.int (4 : Int32)), .val (.int (Int32.ofNat ka)), .val (.int (Int32.ofNat kb)), .val (.int (Int32.ofNat kc)), .val (.int (Int32.ofNat kd)), .val (.ref a), .val (.int zo), .val (.int z12), .val (.int zc), .val (.int (0 : Int32)), .val (.int (4 : Int32)), .val (.int ((4 : Int32) - (0 : Int32))), .val (.ref a)] [(.int (Int32.ofNat kc))])
    refine i_iload w191 at_399 rfl (pc' := 401) rfl ?_
    refine i_iconst w191 at_401 (z := (2 : Int32)) (by decide) (pc' := 402) rfl ?_
    refine i_iadd w191 at_402 (pc' := 403) rfl ?_
    refine i_iload w191 at_403 rfl (pc' := 405) rfl ?_
    refine i_iload w191 at_405 rfl (pc' := 407) rfl ?_
    refine i_iload w191 at_407 rfl (pc' := 409) rfl ?_
    refine i_iload w191 at_409 rfl (pc' := 411) rfl ?_
    refine c_static w191 (y := (⟨"com/example/cluster_lock/clusterlock/redis/LockKeysHashTagPinLaw", "at", "(ICCCC)C"⟩ : MethodName)) (argsL := [(.int ((0 : Int32) + (2 : Int32))), (.int (Int32.ofNat ka)), (.int (Int32.ofNat kb)), (.int (Int32.ofNat kc)), (.int (Int32.ofNat kd))]) (st := [(.int (Int32.ofNat kc))]) at_411 (hw _ (List.mem_of_getElem? (i := 40) rfl)) (hw _ (List.mem_of_getElem? (i := 41) rfl)) (hw _ (List.mem_of_getElem? (i := 2) rfl)) (hw _ (List.mem_of_getElem? (i := 42) rfl)) (by decide) own_pd_pICCCCqC rfl (own_at l Z a0 hw 2 ka kb kc kd h184 n0 w191.old (by decide) hka hkb hkc hkd) rfl (by decide) (W := 1) (Nat.le_of_eq rfl) (by decide) (by decide) (by decide) (fun _ q => nomatch q) (pc' := 414) rfl ?_
    intro v192 T192 h192 w192 K192 q192
    obtain ⟨rfl, rfl⟩ := q192
    show Goes p e below _ T192 (mkF m 414 #[.val (.int y0), .val (.int y1), .val (.int y2), .val (.int y3), .val (.int y4), .val (.int (4 : Int32)), .val (.int (Int32.ofNat ka)), .val (.int (Int32.ofNat kb)), .val (.int (Int32.ofNat kc)), .val (.int (Int32.ofNat kd)), .val (.ref a), .val (.int zo), .val (.int z12), .val (.int zc), .val (.int (0 : Int32)), .val (.int (4 : Int32)), .val (.int ((4 : Int32) - (0 : Int32))), .val (.ref a)] [(.int (Int32.ofNat kc)), (.int (Int32.ofNat kc))])
    refine i_icmp_eq_Y w192 rfl at_414 (pc' := 419) (by decide) ?_
    refine i_iload w192 at_419 rfl (pc' := 421) rfl ?_
    refine i_iconst w192 at_421 (z := (3 : Int32)) (by decide) (pc' := 422) rfl ?_
    refine i_icmp_le_N w192 (by decide) at_422 (pc' := 425) rfl ?_
    refine i_aload w192 at_425 rfl rfl (pc' := 427) rfl ?_
    refine i_iconst w192 at_427 (z := (3 : Int32)) (by decide) (pc' := 428) rfl ?_
    refine c_virtual w192 (y := (⟨"java/lang/String", "charAt", "(I)C"⟩ : MethodName)) (C := "java/lang/String") (a := a) (argsL := [(.int (3 : Int32))]) (st := []) at_428 (hw _ (List.mem_of_getElem? (i := 106) rfl)) (hw _ (List.mem_of_getElem? (i := 107) rfl)) (hw _ (List.mem_of_getElem? (i := 109) rfl)) (hw _ (List.mem_of_getElem? (i := 108) rfl)) (hw _ (List.mem_of_getElem? (i := 110) rfl)) (hw _ (List.mem_of_getElem? (i := 9) rfl)) (by decide) own_pd_pIqC rfl S_185.1 (own_charAt l Z a0 hw a t ct [ka, kb, kc, kd] 3 kd G1 hG SG G3 hG3 SF h184 n0 w192.old S_185 rfl) rfl (by decide) (W := 0) (Nat.le_of_eq rfl) (by decide) (by decide) (by decide) (fun _ q => nomatch q) (pc' := 431) rfl ?_
    intro v193 T193 h193 w193 K193 q193
    obtain ⟨rfl, rfl⟩ := q193
    show Goes p e below _ T193 (mkF m 431 #[.val (.int y0), .val (.int y1), .val (.int y2), .val (.int y3), .val (.int y4), .val (.int (4 : Int32)), .val (.int (Int32.ofNat ka)), .val (.int (Int32.ofNat kb)), .val (.int (Int32.ofNat kc)), .val (.int (Int32.ofNat kd)), .val (.ref a), .val (.int zo), .val (.int z12), .val (.int zc), .val (.int (0 : Int32)), .val (.int (4 : Int32)), .val (.int ((4 : Int32) - (0 : Int32))), .val (.ref a)] [(.int (Int32.ofNat kd))])
    refine i_iload w193 at_431 rfl (pc' := 433) rfl ?_
    refine i_iconst w193 at_433 (z := (3 : Int32)) (by decide) (pc' := 434) rfl ?_
    refine i_iadd w193 at_434 (pc' := 435) rfl ?_
    refine i_iload w193 at_435 rfl (pc' := 437) rfl ?_
    refine i_iload w193 at_437 rfl (pc' := 439) rfl ?_
    refine i_iload w193 at_439 rfl (pc' := 441) rfl ?_
    refine i_iload w193 at_441 rfl (pc' := 443) rfl ?_
    refine c_static w193 (y := (⟨"com/example/cluster_lock/clusterlock/redis/LockKeysHashTagPinLaw", "at", "(ICCCC)C"⟩ : MethodName)) (argsL := [(.int ((0 : Int32) + (3 : Int32))), (.int (Int32.ofNat ka)), (.int (Int32.ofNat kb)), (.int (Int32.ofNat kc)), (.int (Int32.ofNat kd))]) (st := [(.int (Int32.ofNat kd))]) at_443 (hw _ (List.mem_of_getElem? (i := 40) rfl)) (hw _ (List.mem_of_getElem? (i := 41) rfl)) (hw _ (List.mem_of_getElem? (i := 2) rfl)) (hw _ (List.mem_of_getElem? (i := 42) rfl)) (by decide) own_pd_pICCCCqC rfl (own_at l Z a0 hw 3 ka kb kc kd h184 n0 w193.old (by decide) hka hkb hkc hkd) rfl (by decide) (W := 1) (Nat.le_of_eq rfl) (by decide) (by decide) (by decide) (fun _ q => nomatch q) (pc' := 446) rfl ?_
    intro v194 T194 h194 w194 K194 q194
    obtain ⟨rfl, rfl⟩ := q194
    show Goes p e below _ T194 (mkF m 446 #[.val (.int y0), .val (.int y1), .val (.int y2), .val (.int y3), .val (.int y4), .val (.int (4 : Int32)), .val (.int (Int32.ofNat ka)), .val (.int (Int32.ofNat kb)), .val (.int (Int32.ofNat kc)), .val (.int (Int32.ofNat kd)), .val (.ref a), .val (.int zo), .val (.int z12), .val (.int zc), .val (.int (0 : Int32)), .val (.int (4 : Int32)), .val (.int ((4 : Int32) - (0 : Int32))), .val (.ref a)] [(.int (Int32.ofNat kd)), (.int (Int32.ofNat kd))])
    refine i_icmp_eq_Y w194 rfl at_446 (pc' := 451) (by decide) ?_
    refine i_iconst w194 at_451 (z := (1 : Int32)) (by decide) (pc' := 452) rfl ?_
    exact i_retNW w194 hS184 (Nat.le_trans (Nat.le_trans (Nat.le_trans (Nat.le_trans (Nat.le_trans (Nat.le_trans (Nat.le_trans (Nat.le_trans (Nat.le_trans (Nat.le_refl _) K186.1) K187.1) K188.1) K189.1) K190.1) K191.1) K192.1) K193.1) K194.1) at_452 rfl (by simp) rfl (by decide) (by decide)
set_option maxRecDepth 65536 in
set_option maxHeartbeats 40000000 in
theorem own_t4_1_2 (l : Launch) (Z : State) (a0 : Array Value) (hw : ∀ d ∈ tables_1, d.before a0 Z = true) (ka kb kc kd : Nat) (hka : ka < 256) (hkb : kb < 256) (hkc : kc < 256) (hkd : kd < 256) (y0 y1 y2 y3 y4 : Int32) (a t : Addr) (ct : ClassId) (zo z12 zc : Int32) (f : Nat) (G1 : Int32) (hG : ¬ G1 = 0) (SG : Sta Z Z.heap "java/lang/String" "COMPACT_STRINGS" "Z" (.int G1)) (G3 : Value) (hG3 : G3.isRef = true) (SF : Sta Z Z.heap "jdk/internal/util/Preconditions" "SIOOBE_FORMATTER" "Ljava/util/function/BiFunction;" G3) (h0 : Heap) (n0 : Nat) {p : Program} {e : Env} {s : State} {m : MethodId} {below : List Frame} {meth : Method} {c : Code} {vm : Vm} {kS : Nat} {T : State} {h : Heap} (w : Wk p l e room_1 (s.setVm vm) m #[(.int y0), (.int y1), (.int y2), (.int y3), (.int y4)] below meth c Z x.cls code maxLocals ret x.name n0 h0 [] T h 20 1000) (hS : s.Since vm kS) (hkS : kS ≤ h.size) (S : StrL Z h a t ct [ka, kb, kc, kd]) (hf : f ≤ 65536) (ho : ixv 123 [ka, kb, kc, kd] 0 = zo) (hzo1 : zo + 1 = Int32.ofNat f) (hcz : ixv 125 [ka, kb, kc, kd] f = zc) (hfs : f = 1) (hzc : zc = Int32.ofNat (f + 1)) (hyo : ¬ zo < 0) (hyc : Int32.ofNat f < zc) :
    Goes p e below (PW s n0 h0 [] (fun v h => v = some (.int 1)) room_1.cells room_1.slots) T (mkF m 300 #[.val (.int y0), .val (.int y1), .val (.int y2), .val (.int y3), .val (.int y4), .val (.int (4 : Int32)), .val (.int (Int32.ofNat ka)), .val (.int (Int32.ofNat kb)), .val (.int (Int32.ofNat kc)), .val (.int (Int32.ofNat kd)), .val (.ref a), .val (.int zo), .val (.int z12), .val (.int zc), .val (.int (1 : Int32)), .val (.int (2 : Int32)), .unset, .unset] []) := by
  refine i_iload w at_300 rfl (pc' := 302) rfl ?_
  refine i_iload w at_302 rfl (pc' := 304) rfl ?_
  refine i_isub w at_304 (pc' := 305) rfl ?_
  refine i_istore w at_305 (l' := #[.val (.int y0), .val (.int y1), .val (.int y2), .val (.int y3), .val (.int y4), .val (.int (4 : Int32)), .val (.int (Int32.ofNat ka)), .val (.int (Int32.ofNat kb)), .val (.int (Int32.ofNat kc)), .val (.int (Int32.ofNat kd)), .val (.ref a), .val (.int zo), .val (.int z12), .val (.int zc), .val (.int (1 : Int32)), .val (.int (2 : Int32)), .val (.int ((2 : Int32) - (1 : Int32))), .unset]) rfl (pc' := 307) rfl ?_
  refine i_aload w at_307 rfl rfl (pc' := 309) rfl ?_
  refine c_staticW w hS hkS (y := (⟨"com/example/cluster_lock/clusterlock/redis/LockKeys", "hashTag", "(Ljava/lang/String;)Ljava/lang/String;"⟩ : MethodName)) (argsL := [(.ref a)]) (st := []) at_309 (hw _ (List.mem_of_getElem? (i := 43) rfl)) (hw _ (List.mem_of_getElem? (i := 44) rfl)) (hw _ (List.mem_of_getElem? (i := 45) rfl)) (hw _ (List.mem_of_getElem? (i := 46) rfl)) (by decide) own_pd_pLjava_lang_StringeqLjava_lang_Stringe rfl (own_tagS l Z a0 hw a t ct [ka, kb, kc, kd] zo zc f G1 hG SG G3 hG3 SF h n0 w.old S (by simp) (by simp) hf ho hzo1 hcz 1 hzc (by omega) (by decide) (by simp; omega) (by decide) hyo hyc) rfl (by decide) (W := 0) (Nat.le_of_eq rfl) (by decide) (by decide) (by decide) (fun _ q => nomatch q) (pc' := 312) rfl ?_
  intro v195 T195 h195 vm195 w195 hS195 K195 q195
  obtain ⟨r, t', c', rfl, zr, lr, Sr⟩ := q195
  show Goes p e below _ T195 (mkF m 312 #[.val (.int y0), .val (.int y1), .val (.int y2), .val (.int y3), .val (.int y4), .val (.int (4 : Int32)), .val (.int (Int32.ofNat ka)), .val (.int (Int32.ofNat kb)), .val (.int (Int32.ofNat kc)), .val (.int (Int32.ofNat kd)), .val (.ref a), .val (.int zo), .val (.int z12), .val (.int zc), .val (.int (1 : Int32)), .val (.int (2 : Int32)), .val (.int ((2 : Int32) - (1 : Int32))), .unset] [(.ref r)])
  have S_196 := S.keep K195 nin0 nin0
  have hff : f = 1 := hfs
  subst hff
  have Sr2 : StrL Z h195 r t' c' [kb] := Sr
  refine i_astore w195 at_312 rfl (l' := #[.val (.int y0), .val (.int y1), .val (.int y2), .val (.int y3), .val (.int y4), .val (.int (4 : Int32)), .val (.int (Int32.ofNat ka)), .val (.int (Int32.ofNat kb)), .val (.int (Int32.ofNat kc)), .val (.int (Int32.ofNat kd)), .val (.ref a), .val (.int zo), .val (.int z12), .val (.int zc), .val (.int (1 : Int32)), .val (.int (2 : Int32)), .val (.int ((2 : Int32) - (1 : Int32))), .val (.ref r)]) rfl (pc' := 314) rfl ?_
  refine i_aload w195 at_314 rfl rfl (pc' := 316) rfl ?_
  refine c_virtual w195 (y := (⟨"java/lang/String", "length", "()I"⟩ : MethodName)) (C := "java/lang/String") (a := r) (argsL := []) (st := []) at_316 (hw _ (List.mem_of_getElem? (i := 105) rfl)) (hw _ (List.mem_of_getElem? (i := 78) rfl)) (hw _ (List.mem_of_getElem? (i := 80) rfl)) (hw _ (List.mem_of_getElem? (i := 79) rfl)) (hw _ (List.mem_of_getElem? (i := 81) rfl)) (hw _ (List.mem_of_getElem? (i := 9) rfl)) (by decide) own_pd_pqI rfl Sr2.1 (own_length l Z a0 hw r t' c' [kb] G1 hG SG h195 n0 w195.old (Or.inl Sr2)) rfl (by decide) (W := 0) (Nat.le_of_eq rfl) (by decide) (by decide) (by decide) (fun _ q => nomatch q) (pc' := 319) rfl ?_
  intro v197 T197 h197 w197 K197 q197
  obtain ⟨rfl, rfl⟩ := q197
  show Goes p e below _ T197 (mkF m 319 #[.val (.int y0), .val (.int y1), .val (.int y2), .val (.int y3), .val (.int y4), .val (.int (4 : Int32)), .val (.int (Int32.ofNat ka)), .val (.int (Int32.ofNat kb)), .val (.int (Int32.ofNat kc)), .val (.int (Int32.ofNat kd)), .val (.ref a), .val (.int zo), .val (.int z12), .val (.int zc), .val (.int (1 : Int32)), .val (.int (2 : Int32)), .val (.int ((2 : Int32) - (1 : Int32))), .val (.ref r)] [(.int (1 : Int32))])
  refine i_iload w197 at_319 rfl (pc' := 321) rfl ?_
  refine i_icmp_eq_Y w197 rfl at_321 (pc' := 326) (by decide) ?_
  refine i_iload w197 at_326 rfl (pc' := 328) rfl ?_
  refine i_if_le_N w197 (by decide) at_328 (pc' := 331) rfl ?_
  refine i_aload w197 at_331 rfl rfl (pc' := 333) rfl ?_
  refine i_iconst w197 at_333 (z := (0 : Int32)) (by decide) (pc' := 334) rfl ?_
  refine c_virtual w197 (y := (⟨"java/lang/String", "charAt", "(I)C"⟩ : MethodName)) (C := "java/lang/String") (a := r) (argsL := [(.int (0 : Int32))]) (st := []) at_334 (hw _ (List.mem_of_getElem? (i := 106) rfl)) (hw _ (List.mem_of_getElem? (i := 107) rfl)) (hw _ (List.mem_of_getElem? (i := 109) rfl)) (hw _ (List.mem_of_getElem? (i := 108) rfl)) (hw _ (List.mem_of_getElem? (i := 110) rfl)) (hw _ (List.mem_of_getElem? (i := 9) rfl)) (by decide) own_pd_pIqC rfl Sr2.1 (own_charAt l Z a0 hw r t' c' [kb] 0 kb G1 hG SG G3 hG3 SF h195 n0 w197.old Sr2 rfl) rfl (by decide) (W := 0) (Nat.le_of_eq rfl) (by decide) (by decide) (by decide) (fun _ q => nomatch q) (pc' := 337) rfl ?_
  intro v198 T198 h198 w198 K198 q198
  obtain ⟨rfl, rfl⟩ := q198
  show Goes p e below _ T198 (mkF m 337 #[.val (.int y0), .val (.int y1), .val (.int y2), .val (.int y3), .val (.int y4), .val (.int (4 : Int32)), .val (.int (Int32.ofNat ka)), .val (.int (Int32.ofNat kb)), .val (.int (Int32.ofNat kc)), .val (.int (Int32.ofNat kd)), .val (.ref a), .val (.int zo), .val (.int z12), .val (.int zc), .val (.int (1 : Int32)), .val (.int (2 : Int32)), .val (.int ((2 : Int32) - (1 : Int32))), .val (.ref r)] [(.int (Int32.ofNat kb))])
  refine i_iload w198 at_337 rfl (pc' := 339) rfl ?_
  refine i_iload w198 at_339 rfl (pc' := 341) rfl ?_
  refine i_iload w198 at_341 rfl (pc' := 343) rfl ?_
  refine i_iload w198 at_343 rfl (pc' := 345) rfl ?_
  refine i_iload w198 at_345 rfl (pc' := 347) rfl ?_
  refine c_static w198 (y := (⟨"com/example/cluster_lock/clusterlock/redis/LockKeysHashTagPinLaw", "at", "(ICCCC)C"⟩ : MethodName)) (argsL := [(.int (1 : Int32)), (.int (Int32.ofNat ka)), (.int (Int32.ofNat kb)), (.int (Int32.ofNat kc)), (.int (Int32.ofNat kd))]) (st := [(.int (Int32.ofNat kb))]) at_347 (hw _ (List.mem_of_getElem? (i := 40) rfl)) (hw _ (List.mem_of_getElem? (i := 41) rfl)) (hw _ (List.mem_of_getElem? (i := 2) rfl)) (hw _ (List.mem_of_getElem? (i := 42) rfl)) (by decide) own_pd_pICCCCqC rfl (own_at l Z a0 hw 1 ka kb kc kd h195 n0 w198.old (by decide) hka hkb hkc hkd) rfl (by decide) (W := 1) (Nat.le_of_eq rfl) (by decide) (by decide) (by decide) (fun _ q => nomatch q) (pc' := 350) rfl ?_
  intro v199 T199 h199 w199 K199 q199
  obtain ⟨rfl, rfl⟩ := q199
  show Goes p e below _ T199 (mkF m 350 #[.val (.int y0), .val (.int y1), .val (.int y2), .val (.int y3), .val (.int y4), .val (.int (4 : Int32)), .val (.int (Int32.ofNat ka)), .val (.int (Int32.ofNat kb)), .val (.int (Int32.ofNat kc)), .val (.int (Int32.ofNat kd)), .val (.ref a), .val (.int zo), .val (.int z12), .val (.int zc), .val (.int (1 : Int32)), .val (.int (2 : Int32)), .val (.int ((2 : Int32) - (1 : Int32))), .val (.ref r)] [(.int (Int32.ofNat kb)), (.int (Int32.ofNat kb))])
  refine i_icmp_eq_Y w199 rfl at_350 (pc' := 355) (by decide) ?_
  refine i_iload w199 at_355 rfl (pc' := 357) rfl ?_
  refine i_iconst w199 at_357 (z := (1 : Int32)) (by decide) (pc' := 358) rfl ?_
  refine i_icmp_le_Y w199 (by decide) at_358 (pc' := 387) (by decide) ?_
  refine i_iload w199 at_387 rfl (pc' := 389) rfl ?_
  refine i_iconst w199 at_389 (z := (2 : Int32)) (by decide) (pc' := 390) rfl ?_
  refine i_icmp_le_Y w199 (by decide) at_390 (pc' := 419) (by decide) ?_
  refine i_iload w199 at_419 rfl (pc' := 421) rfl ?_
  refine i_iconst w199 at_421 (z := (3 : Int32)) (by decide) (pc' := 422) rfl ?_
  refine i_icmp_le_Y w199 (by decide) at_422 (pc' := 451) (by decide) ?_
  refine i_iconst w199 at_451 (z := (1 : Int32)) (by decide) (pc' := 452) rfl ?_
  exact i_retNW w199 hS195 (Nat.le_trans (Nat.le_trans (Nat.le_trans (Nat.le_refl _) K197.1) K198.1) K199.1) at_452 rfl (by simp) rfl (by decide) (by decide)
set_option maxRecDepth 65536 in
set_option maxHeartbeats 40000000 in
theorem own_t4_1_3 (l : Launch) (Z : State) (a0 : Array Value) (hw : ∀ d ∈ tables_1, d.before a0 Z = true) (ka kb kc kd : Nat) (hka : ka < 256) (hkb : kb < 256) (hkc : kc < 256) (hkd : kd < 256) (y0 y1 y2 y3 y4 : Int32) (a t : Addr) (ct : ClassId) (zo z12 zc : Int32) (f : Nat) (G1 : Int32) (hG : ¬ G1 = 0) (SG : Sta Z Z.heap "java/lang/String" "COMPACT_STRINGS" "Z" (.int G1)) (G3 : Value) (hG3 : G3.isRef = true) (SF : Sta Z Z.heap "jdk/internal/util/Preconditions" "SIOOBE_FORMATTER" "Ljava/util/function/BiFunction;" G3) (h0 : Heap) (n0 : Nat) {p : Program} {e : Env} {s : State} {m : MethodId} {below : List Frame} {meth : Method} {c : Code} {vm : Vm} {kS : Nat} {T : State} {h : Heap} (w : Wk p l e room_1 (s.setVm vm) m #[(.int y0), (.int y1), (.int y2), (.int y3), (.int y4)] below meth c Z x.cls code maxLocals ret x.name n0 h0 [] T h 20 1000) (hS : s.Since vm kS) (hkS : kS ≤ h.size) (S : StrL Z h a t ct [ka, kb, kc, kd]) (hf : f ≤ 65536) (ho : ixv 123 [ka, kb, kc, kd] 0 = zo) (hzo1 : zo + 1 = Int32.ofNat f) (hcz : ixv 125 [ka, kb, kc, kd] f = zc) (hfs : f = 1) (hzc : zc = Int32.ofNat (f + 2)) (hyo : ¬ zo < 0) (hyc : Int32.ofNat f < zc) :
    Goes p e below (PW s n0 h0 [] (fun v h => v = some (.int 1)) room_1.cells room_1.slots) T (mkF m 300 #[.val (.int y0), .val (.int y1), .val (.int y2), .val (.int y3), .val (.int y4), .val (.int (4 : Int32)), .val (.int (Int32.ofNat ka)), .val (.int (Int32.ofNat kb)), .val (.int (Int32.ofNat kc)), .val (.int (Int32.ofNat kd)), .val (.ref a), .val (.int zo), .val (.int z12), .val (.int zc), .val (.int (1 : Int32)), .val (.int (3 : Int32)), .unset, .unset] []) := by
  refine i_iload w at_300 rfl (pc' := 302) rfl ?_
  refine i_iload w at_302 rfl (pc' := 304) rfl ?_
  refine i_isub w at_304 (pc' := 305) rfl ?_
  refine i_istore w at_305 (l' := #[.val (.int y0), .val (.int y1), .val (.int y2), .val (.int y3), .val (.int y4), .val (.int (4 : Int32)), .val (.int (Int32.ofNat ka)), .val (.int (Int32.ofNat kb)), .val (.int (Int32.ofNat kc)), .val (.int (Int32.ofNat kd)), .val (.ref a), .val (.int zo), .val (.int z12), .val (.int zc), .val (.int (1 : Int32)), .val (.int (3 : Int32)), .val (.int ((3 : Int32) - (1 : Int32))), .unset]) rfl (pc' := 307) rfl ?_
  refine i_aload w at_307 rfl rfl (pc' := 309) rfl ?_
  refine c_staticW w hS hkS (y := (⟨"com/example/cluster_lock/clusterlock/redis/LockKeys", "hashTag", "(Ljava/lang/String;)Ljava/lang/String;"⟩ : MethodName)) (argsL := [(.ref a)]) (st := []) at_309 (hw _ (List.mem_of_getElem? (i := 43) rfl)) (hw _ (List.mem_of_getElem? (i := 44) rfl)) (hw _ (List.mem_of_getElem? (i := 45) rfl)) (hw _ (List.mem_of_getElem? (i := 46) rfl)) (by decide) own_pd_pLjava_lang_StringeqLjava_lang_Stringe rfl (own_tagS l Z a0 hw a t ct [ka, kb, kc, kd] zo zc f G1 hG SG G3 hG3 SF h n0 w.old S (by simp) (by simp) hf ho hzo1 hcz 2 hzc (by omega) (by decide) (by simp; omega) (by decide) hyo hyc) rfl (by decide) (W := 0) (Nat.le_of_eq rfl) (by decide) (by decide) (by decide) (fun _ q => nomatch q) (pc' := 312) rfl ?_
  intro v200 T200 h200 vm200 w200 hS200 K200 q200
  obtain ⟨r, t', c', rfl, zr, lr, Sr⟩ := q200
  show Goes p e below _ T200 (mkF m 312 #[.val (.int y0), .val (.int y1), .val (.int y2), .val (.int y3), .val (.int y4), .val (.int (4 : Int32)), .val (.int (Int32.ofNat ka)), .val (.int (Int32.ofNat kb)), .val (.int (Int32.ofNat kc)), .val (.int (Int32.ofNat kd)), .val (.ref a), .val (.int zo), .val (.int z12), .val (.int zc), .val (.int (1 : Int32)), .val (.int (3 : Int32)), .val (.int ((3 : Int32) - (1 : Int32))), .unset] [(.ref r)])
  have S_201 := S.keep K200 nin0 nin0
  have hff : f = 1 := hfs
  subst hff
  have Sr2 : StrL Z h200 r t' c' [kb, kc] := Sr
  refine i_astore w200 at_312 rfl (l' := #[.val (.int y0), .val (.int y1), .val (.int y2), .val (.int y3), .val (.int y4), .val (.int (4 : Int32)), .val (.int (Int32.ofNat ka)), .val (.int (Int32.ofNat kb)), .val (.int (Int32.ofNat kc)), .val (.int (Int32.ofNat kd)), .val (.ref a), .val (.int zo), .val (.int z12), .val (.int zc), .val (.int (1 : Int32)), .val (.int (3 : Int32)), .val (.int ((3 : Int32) - (1 : Int32))), .val (.ref r)]) rfl (pc' := 314) rfl ?_
  refine i_aload w200 at_314 rfl rfl (pc' := 316) rfl ?_
  refine c_virtual w200 (y := (⟨"java/lang/String", "length", "()I"⟩ : MethodName)) (C := "java/lang/String") (a := r) (argsL := []) (st := []) at_316 (hw _ (List.mem_of_getElem? (i := 105) rfl)) (hw _ (List.mem_of_getElem? (i := 78) rfl)) (hw _ (List.mem_of_getElem? (i := 80) rfl)) (hw _ (List.mem_of_getElem? (i := 79) rfl)) (hw _ (List.mem_of_getElem? (i := 81) rfl)) (hw _ (List.mem_of_getElem? (i := 9) rfl)) (by decide) own_pd_pqI rfl Sr2.1 (own_length l Z a0 hw r t' c' [kb, kc] G1 hG SG h200 n0 w200.old (Or.inl Sr2)) rfl (by decide) (W := 0) (Nat.le_of_eq rfl) (by decide) (by decide) (by decide) (fun _ q => nomatch q) (pc' := 319) rfl ?_
  intro v202 T202 h202 w202 K202 q202
  obtain ⟨rfl, rfl⟩ := q202
  show Goes p e below _ T202 (mkF m 319 #[.val (.int y0), .val (.int y1), .val (.int y2), .val (.int y3), .val (.int y4), .val (.int (4 : Int32)), .val (.int (Int32.ofNat ka)), .val (.int (Int32.ofNat kb)), .val (.int (Int32.ofNat kc)), .val (.int (Int32.ofNat kd)), .val (.ref a), .val (.int zo), .val (.int z12), .val (.int zc), .val (.int (1 : Int32)), .val (.int (3 : Int32)), .val (.int ((3 : Int32) - (1 : Int32))), .val (.ref r)] [(.int (2 : Int32))])
  refine i_iload w202 at_319 rfl (pc' := 321) rfl ?_
  refine i_icmp_eq_Y w202 rfl at_321 (pc' := 326) (by decide) ?_
  refine i_iload w202 at_326 rfl (pc' := 328) rfl ?_
  refine i_if_le_N w202 (by decide) at_328 (pc' := 331) rfl ?_
  refine i_aload w202 at_331 rfl rfl (pc' := 333) rfl ?_
  refine i_iconst w202 at_333 (z := (0 : Int32)) (by decide) (pc' := 334) rfl ?_
  refine c_virtual w202 (y := (⟨"java/lang/String", "charAt", "(I)C"⟩ : MethodName)) (C := "java/lang/String") (a := r) (argsL := [(.int (0 : Int32))]) (st := []) at_334 (hw _ (List.mem_of_getElem? (i := 106) rfl)) (hw _ (List.mem_of_getElem? (i := 107) rfl)) (hw _ (List.mem_of_getElem? (i := 109) rfl)) (hw _ (List.mem_of_getElem? (i := 108) rfl)) (hw _ (List.mem_of_getElem? (i := 110) rfl)) (hw _ (List.mem_of_getElem? (i := 9) rfl)) (by decide) own_pd_pIqC rfl Sr2.1 (own_charAt l Z a0 hw r t' c' [kb, kc] 0 kb G1 hG SG G3 hG3 SF h200 n0 w202.old Sr2 rfl) rfl (by decide) (W := 0) (Nat.le_of_eq rfl) (by decide) (by decide) (by decide) (fun _ q => nomatch q) (pc' := 337) rfl ?_
  intro v203 T203 h203 w203 K203 q203
  obtain ⟨rfl, rfl⟩ := q203
  show Goes p e below _ T203 (mkF m 337 #[.val (.int y0), .val (.int y1), .val (.int y2), .val (.int y3), .val (.int y4), .val (.int (4 : Int32)), .val (.int (Int32.ofNat ka)), .val (.int (Int32.ofNat kb)), .val (.int (Int32.ofNat kc)), .val (.int (Int32.ofNat kd)), .val (.ref a), .val (.int zo), .val (.int z12), .val (.int zc), .val (.int (1 : Int32)), .val (.int (3 : Int32)), .val (.int ((3 : Int32) - (1 : Int32))), .val (.ref r)] [(.int (Int32.ofNat kb))])
  refine i_iload w203 at_337 rfl (pc' := 339) rfl ?_
  refine i_iload w203 at_339 rfl (pc' := 341) rfl ?_
  refine i_iload w203 at_341 rfl (pc' := 343) rfl ?_
  refine i_iload w203 at_343 rfl (pc' := 345) rfl ?_
  refine i_iload w203 at_345 rfl (pc' := 347) rfl ?_
  refine c_static w203 (y := (⟨"com/example/cluster_lock/clusterlock/redis/LockKeysHashTagPinLaw", "at", "(ICCCC)C"⟩ : MethodName)) (argsL := [(.int (1 : Int32)), (.int (Int32.ofNat ka)), (.int (Int32.ofNat kb)), (.int (Int32.ofNat kc)), (.int (Int32.ofNat kd))]) (st := [(.int (Int32.ofNat kb))]) at_347 (hw _ (List.mem_of_getElem? (i := 40) rfl)) (hw _ (List.mem_of_getElem? (i := 41) rfl)) (hw _ (List.mem_of_getElem? (i := 2) rfl)) (hw _ (List.mem_of_getElem? (i := 42) rfl)) (by decide) own_pd_pICCCCqC rfl (own_at l Z a0 hw 1 ka kb kc kd h200 n0 w203.old (by decide) hka hkb hkc hkd) rfl (by decide) (W := 1) (Nat.le_of_eq rfl) (by decide) (by decide) (by decide) (fun _ q => nomatch q) (pc' := 350) rfl ?_
  intro v204 T204 h204 w204 K204 q204
  obtain ⟨rfl, rfl⟩ := q204
  show Goes p e below _ T204 (mkF m 350 #[.val (.int y0), .val (.int y1), .val (.int y2), .val (.int y3), .val (.int y4), .val (.int (4 : Int32)), .val (.int (Int32.ofNat ka)), .val (.int (Int32.ofNat kb)), .val (.int (Int32.ofNat kc)), .val (.int (Int32.ofNat kd)), .val (.ref a), .val (.int zo), .val (.int z12), .val (.int zc), .val (.int (1 : Int32)), .val (.int (3 : Int32)), .val (.int ((3 : Int32) - (1 : Int32))), .val (.ref r)] [(.int (Int32.ofNat kb)), (.int (Int32.ofNat kb))])
  refine i_icmp_eq_Y w204 rfl at_350 (pc' := 355) (by decide) ?_
  refine i_iload w204 at_355 rfl (pc' := 357) rfl ?_
  refine i_iconst w204 at_357 (z := (1 : Int32)) (by decide) (pc' := 358) rfl ?_
  refine i_icmp_le_N w204 (by decide) at_358 (pc' := 361) rfl ?_
  refine i_aload w204 at_361 rfl rfl (pc' := 363) rfl ?_
  refine i_iconst w204 at_363 (z := (1 : Int32)) (by decide) (pc' := 364) rfl ?_
  refine c_virtual w204 (y := (⟨"java/lang/String", "charAt", "(I)C"⟩ : MethodName)) (C := "java/lang/String") (a := r) (argsL := [(.int (1 : Int32))]) (st := []) at_364 (hw _ (List.mem_of_getElem? (i := 106) rfl)) (hw _ (List.mem_of_getElem? (i := 107) rfl)) (hw _ (List.mem_of_getElem? (i := 109) rfl)) (hw _ (List.mem_of_getElem? (i := 108) rfl)) (hw _ (List.mem_of_getElem? (i := 110) rfl)) (hw _ (List.mem_of_getElem? (i := 9) rfl)) (by decide) own_pd_pIqC rfl Sr2.1 (own_charAt l Z a0 hw r t' c' [kb, kc] 1 kc G1 hG SG G3 hG3 SF h200 n0 w204.old Sr2 rfl) rfl (by decide) (W := 0) (Nat.le_of_eq rfl) (by decide) (by decide) (by decide) (fun _ q => nomatch q) (pc' := 367) rfl ?_
  intro v205 T205 h205 w205 K205 q205
  obtain ⟨rfl, rfl⟩ := q205
  show Goes p e below _ T205 (mkF m 367 #[.val (.int y0), .val (.int y1), .val (.int y2), .val (.int y3), .val (.int y4), .val (.int (4 : Int32)), .val (.int (Int32.ofNat ka)), .val (.int (Int32.ofNat kb)), .val (.int (Int32.ofNat kc)), .val (.int (Int32.ofNat kd)), .val (.ref a), .val (.int zo), .val (.int z12), .val (.int zc), .val (.int (1 : Int32)), .val (.int (3 : Int32)), .val (.int ((3 : Int32) - (1 : Int32))), .val (.ref r)] [(.int (Int32.ofNat kc))])
  refine i_iload w205 at_367 rfl (pc' := 369) rfl ?_
  refine i_iconst w205 at_369 (z := (1 : Int32)) (by decide) (pc' := 370) rfl ?_
  refine i_iadd w205 at_370 (pc' := 371) rfl ?_
  refine i_iload w205 at_371 rfl (pc' := 373) rfl ?_
  refine i_iload w205 at_373 rfl (pc' := 375) rfl ?_
  refine i_iload w205 at_375 rfl (pc' := 377) rfl ?_
  refine i_iload w205 at_377 rfl (pc' := 379) rfl ?_
  refine c_static w205 (y := (⟨"com/example/cluster_lock/clusterlock/redis/LockKeysHashTagPinLaw", "at", "(ICCCC)C"⟩ : MethodName)) (argsL := [(.int ((1 : Int32) + (1 : Int32))), (.int (Int32.ofNat ka)), (.int (Int32.ofNat kb)), (.int (Int32.ofNat kc)), (.int (Int32.ofNat kd))]) (st := [(.int (Int32.ofNat kc))]) at_379 (hw _ (List.mem_of_getElem? (i := 40) rfl)) (hw _ (List.mem_of_getElem? (i := 41) rfl)) (hw _ (List.mem_of_getElem? (i := 2) rfl)) (hw _ (List.mem_of_getElem? (i := 42) rfl)) (by decide) own_pd_pICCCCqC rfl (own_at l Z a0 hw 2 ka kb kc kd h200 n0 w205.old (by decide) hka hkb hkc hkd) rfl (by decide) (W := 1) (Nat.le_of_eq rfl) (by decide) (by decide) (by decide) (fun _ q => nomatch q) (pc' := 382) rfl ?_
  intro v206 T206 h206 w206 K206 q206
  obtain ⟨rfl, rfl⟩ := q206
  show Goes p e below _ T206 (mkF m 382 #[.val (.int y0), .val (.int y1), .val (.int y2), .val (.int y3), .val (.int y4), .val (.int (4 : Int32)), .val (.int (Int32.ofNat ka)), .val (.int (Int32.ofNat kb)), .val (.int (Int32.ofNat kc)), .val (.int (Int32.ofNat kd)), .val (.ref a), .val (.int zo), .val (.int z12), .val (.int zc), .val (.int (1 : Int32)), .val (.int (3 : Int32)), .val (.int ((3 : Int32) - (1 : Int32))), .val (.ref r)] [(.int (Int32.ofNat kc)), (.int (Int32.ofNat kc))])
  refine i_icmp_eq_Y w206 rfl at_382 (pc' := 387) (by decide) ?_
  refine i_iload w206 at_387 rfl (pc' := 389) rfl ?_
  refine i_iconst w206 at_389 (z := (2 : Int32)) (by decide) (pc' := 390) rfl ?_
  refine i_icmp_le_Y w206 (by decide) at_390 (pc' := 419) (by decide) ?_
  refine i_iload w206 at_419 rfl (pc' := 421) rfl ?_
  refine i_iconst w206 at_421 (z := (3 : Int32)) (by decide) (pc' := 422) rfl ?_
  refine i_icmp_le_Y w206 (by decide) at_422 (pc' := 451) (by decide) ?_
  refine i_iconst w206 at_451 (z := (1 : Int32)) (by decide) (pc' := 452) rfl ?_
  exact i_retNW w206 hS200 (Nat.le_trans (Nat.le_trans (Nat.le_trans (Nat.le_trans (Nat.le_trans (Nat.le_refl _) K202.1) K203.1) K204.1) K205.1) K206.1) at_452 rfl (by simp) rfl (by decide) (by decide)
set_option maxRecDepth 65536 in
set_option maxHeartbeats 40000000 in
theorem own_t4_2_3 (l : Launch) (Z : State) (a0 : Array Value) (hw : ∀ d ∈ tables_1, d.before a0 Z = true) (ka kb kc kd : Nat) (hka : ka < 256) (hkb : kb < 256) (hkc : kc < 256) (hkd : kd < 256) (y0 y1 y2 y3 y4 : Int32) (a t : Addr) (ct : ClassId) (zo z12 zc : Int32) (f : Nat) (G1 : Int32) (hG : ¬ G1 = 0) (SG : Sta Z Z.heap "java/lang/String" "COMPACT_STRINGS" "Z" (.int G1)) (G3 : Value) (hG3 : G3.isRef = true) (SF : Sta Z Z.heap "jdk/internal/util/Preconditions" "SIOOBE_FORMATTER" "Ljava/util/function/BiFunction;" G3) (h0 : Heap) (n0 : Nat) {p : Program} {e : Env} {s : State} {m : MethodId} {below : List Frame} {meth : Method} {c : Code} {vm : Vm} {kS : Nat} {T : State} {h : Heap} (w : Wk p l e room_1 (s.setVm vm) m #[(.int y0), (.int y1), (.int y2), (.int y3), (.int y4)] below meth c Z x.cls code maxLocals ret x.name n0 h0 [] T h 20 1000) (hS : s.Since vm kS) (hkS : kS ≤ h.size) (S : StrL Z h a t ct [ka, kb, kc, kd]) (hf : f ≤ 65536) (ho : ixv 123 [ka, kb, kc, kd] 0 = zo) (hzo1 : zo + 1 = Int32.ofNat f) (hcz : ixv 125 [ka, kb, kc, kd] f = zc) (hfs : f = 2) (hzc : zc = Int32.ofNat (f + 1)) (hyo : ¬ zo < 0) (hyc : Int32.ofNat f < zc) :
    Goes p e below (PW s n0 h0 [] (fun v h => v = some (.int 1)) room_1.cells room_1.slots) T (mkF m 300 #[.val (.int y0), .val (.int y1), .val (.int y2), .val (.int y3), .val (.int y4), .val (.int (4 : Int32)), .val (.int (Int32.ofNat ka)), .val (.int (Int32.ofNat kb)), .val (.int (Int32.ofNat kc)), .val (.int (Int32.ofNat kd)), .val (.ref a), .val (.int zo), .val (.int z12), .val (.int zc), .val (.int (2 : Int32)), .val (.int (3 : Int32)), .unset, .unset] []) := by
  refine i_iload w at_300 rfl (pc' := 302) rfl ?_
  refine i_iload w at_302 rfl (pc' := 304) rfl ?_
  refine i_isub w at_304 (pc' := 305) rfl ?_
  refine i_istore w at_305 (l' := #[.val (.int y0), .val (.int y1), .val (.int y2), .val (.int y3), .val (.int y4), .val (.int (4 : Int32)), .val (.int (Int32.ofNat ka)), .val (.int (Int32.ofNat kb)), .val (.int (Int32.ofNat kc)), .val (.int (Int32.ofNat kd)), .val (.ref a), .val (.int zo), .val (.int z12), .val (.int zc), .val (.int (2 : Int32)), .val (.int (3 : Int32)), .val (.int ((3 : Int32) - (2 : Int32))), .unset]) rfl (pc' := 307) rfl ?_
  refine i_aload w at_307 rfl rfl (pc' := 309) rfl ?_
  refine c_staticW w hS hkS (y := (⟨"com/example/cluster_lock/clusterlock/redis/LockKeys", "hashTag", "(Ljava/lang/String;)Ljava/lang/String;"⟩ : MethodName)) (argsL := [(.ref a)]) (st := []) at_309 (hw _ (List.mem_of_getElem? (i := 43) rfl)) (hw _ (List.mem_of_getElem? (i := 44) rfl)) (hw _ (List.mem_of_getElem? (i := 45) rfl)) (hw _ (List.mem_of_getElem? (i := 46) rfl)) (by decide) own_pd_pLjava_lang_StringeqLjava_lang_Stringe rfl (own_tagS l Z a0 hw a t ct [ka, kb, kc, kd] zo zc f G1 hG SG G3 hG3 SF h n0 w.old S (by simp) (by simp) hf ho hzo1 hcz 1 hzc (by omega) (by decide) (by simp; omega) (by decide) hyo hyc) rfl (by decide) (W := 0) (Nat.le_of_eq rfl) (by decide) (by decide) (by decide) (fun _ q => nomatch q) (pc' := 312) rfl ?_
  intro v207 T207 h207 vm207 w207 hS207 K207 q207
  obtain ⟨r, t', c', rfl, zr, lr, Sr⟩ := q207
  show Goes p e below _ T207 (mkF m 312 #[.val (.int y0), .val (.int y1), .val (.int y2), .val (.int y3), .val (.int y4), .val (.int (4 : Int32)), .val (.int (Int32.ofNat ka)), .val (.int (Int32.ofNat kb)), .val (.int (Int32.ofNat kc)), .val (.int (Int32.ofNat kd)), .val (.ref a), .val (.int zo), .val (.int z12), .val (.int zc), .val (.int (2 : Int32)), .val (.int (3 : Int32)), .val (.int ((3 : Int32) - (2 : Int32))), .unset] [(.ref r)])
  have S_208 := S.keep K207 nin0 nin0
  have hff : f = 2 := hfs
  subst hff
  have Sr2 : StrL Z h207 r t' c' [kc] := Sr
  refine i_astore w207 at_312 rfl (l' := #[.val (.int y0), .val (.int y1), .val (.int y2), .val (.int y3), .val (.int y4), .val (.int (4 : Int32)), .val (.int (Int32.ofNat ka)), .val (.int (Int32.ofNat kb)), .val (.int (Int32.ofNat kc)), .val (.int (Int32.ofNat kd)), .val (.ref a), .val (.int zo), .val (.int z12), .val (.int zc), .val (.int (2 : Int32)), .val (.int (3 : Int32)), .val (.int ((3 : Int32) - (2 : Int32))), .val (.ref r)]) rfl (pc' := 314) rfl ?_
  refine i_aload w207 at_314 rfl rfl (pc' := 316) rfl ?_
  refine c_virtual w207 (y := (⟨"java/lang/String", "length", "()I"⟩ : MethodName)) (C := "java/lang/String") (a := r) (argsL := []) (st := []) at_316 (hw _ (List.mem_of_getElem? (i := 105) rfl)) (hw _ (List.mem_of_getElem? (i := 78) rfl)) (hw _ (List.mem_of_getElem? (i := 80) rfl)) (hw _ (List.mem_of_getElem? (i := 79) rfl)) (hw _ (List.mem_of_getElem? (i := 81) rfl)) (hw _ (List.mem_of_getElem? (i := 9) rfl)) (by decide) own_pd_pqI rfl Sr2.1 (own_length l Z a0 hw r t' c' [kc] G1 hG SG h207 n0 w207.old (Or.inl Sr2)) rfl (by decide) (W := 0) (Nat.le_of_eq rfl) (by decide) (by decide) (by decide) (fun _ q => nomatch q) (pc' := 319) rfl ?_
  intro v209 T209 h209 w209 K209 q209
  obtain ⟨rfl, rfl⟩ := q209
  show Goes p e below _ T209 (mkF m 319 #[.val (.int y0), .val (.int y1), .val (.int y2), .val (.int y3), .val (.int y4), .val (.int (4 : Int32)), .val (.int (Int32.ofNat ka)), .val (.int (Int32.ofNat kb)), .val (.int (Int32.ofNat kc)), .val (.int (Int32.ofNat kd)), .val (.ref a), .val (.int zo), .val (.int z12), .val (.int zc), .val (.int (2 : Int32)), .val (.int (3 : Int32)), .val (.int ((3 : Int32) - (2 : Int32))), .val (.ref r)] [(.int (1 : Int32))])
  refine i_iload w209 at_319 rfl (pc' := 321) rfl ?_
  refine i_icmp_eq_Y w209 rfl at_321 (pc' := 326) (by decide) ?_
  refine i_iload w209 at_326 rfl (pc' := 328) rfl ?_
  refine i_if_le_N w209 (by decide) at_328 (pc' := 331) rfl ?_
  refine i_aload w209 at_331 rfl rfl (pc' := 333) rfl ?_
  refine i_iconst w209 at_333 (z := (0 : Int32)) (by decide) (pc' := 334) rfl ?_
  refine c_virtual w209 (y := (⟨"java/lang/String", "charAt", "(I)C"⟩ : MethodName)) (C := "java/lang/String") (a := r) (argsL := [(.int (0 : Int32))]) (st := []) at_334 (hw _ (List.mem_of_getElem? (i := 106) rfl)) (hw _ (List.mem_of_getElem? (i := 107) rfl)) (hw _ (List.mem_of_getElem? (i := 109) rfl)) (hw _ (List.mem_of_getElem? (i := 108) rfl)) (hw _ (List.mem_of_getElem? (i := 110) rfl)) (hw _ (List.mem_of_getElem? (i := 9) rfl)) (by decide) own_pd_pIqC rfl Sr2.1 (own_charAt l Z a0 hw r t' c' [kc] 0 kc G1 hG SG G3 hG3 SF h207 n0 w209.old Sr2 rfl) rfl (by decide) (W := 0) (Nat.le_of_eq rfl) (by decide) (by decide) (by decide) (fun _ q => nomatch q) (pc' := 337) rfl ?_
  intro v210 T210 h210 w210 K210 q210
  obtain ⟨rfl, rfl⟩ := q210
  show Goes p e below _ T210 (mkF m 337 #[.val (.int y0), .val (.int y1), .val (.int y2), .val (.int y3), .val (.int y4), .val (.int (4 : Int32)), .val (.int (Int32.ofNat ka)), .val (.int (Int32.ofNat kb)), .val (.int (Int32.ofNat kc)), .val (.int (Int32.ofNat kd)), .val (.ref a), .val (.int zo), .val (.int z12), .val (.int zc), .val (.int (2 : Int32)), .val (.int (3 : Int32)), .val (.int ((3 : Int32) - (2 : Int32))), .val (.ref r)] [(.int (Int32.ofNat kc))])
  refine i_iload w210 at_337 rfl (pc' := 339) rfl ?_
  refine i_iload w210 at_339 rfl (pc' := 341) rfl ?_
  refine i_iload w210 at_341 rfl (pc' := 343) rfl ?_
  refine i_iload w210 at_343 rfl (pc' := 345) rfl ?_
  refine i_iload w210 at_345 rfl (pc' := 347) rfl ?_
  refine c_static w210 (y := (⟨"com/example/cluster_lock/clusterlock/redis/LockKeysHashTagPinLaw", "at", "(ICCCC)C"⟩ : MethodName)) (argsL := [(.int (2 : Int32)), (.int (Int32.ofNat ka)), (.int (Int32.ofNat kb)), (.int (Int32.ofNat kc)), (.int (Int32.ofNat kd))]) (st := [(.int (Int32.ofNat kc))]) at_347 (hw _ (List.mem_of_getElem? (i := 40) rfl)) (hw _ (List.mem_of_getElem? (i := 41) rfl)) (hw _ (List.mem_of_getElem? (i := 2) rfl)) (hw _ (List.mem_of_getElem? (i := 42) rfl)) (by decide) own_pd_pICCCCqC rfl (own_at l Z a0 hw 2 ka kb kc kd h207 n0 w210.old (by decide) hka hkb hkc hkd) rfl (by decide) (W := 1) (Nat.le_of_eq rfl) (by decide) (by decide) (by decide) (fun _ q => nomatch q) (pc' := 350) rfl ?_
  intro v211 T211 h211 w211 K211 q211
  obtain ⟨rfl, rfl⟩ := q211
  show Goes p e below _ T211 (mkF m 350 #[.val (.int y0), .val (.int y1), .val (.int y2), .val (.int y3), .val (.int y4), .val (.int (4 : Int32)), .val (.int (Int32.ofNat ka)), .val (.int (Int32.ofNat kb)), .val (.int (Int32.ofNat kc)), .val (.int (Int32.ofNat kd)), .val (.ref a), .val (.int zo), .val (.int z12), .val (.int zc), .val (.int (2 : Int32)), .val (.int (3 : Int32)), .val (.int ((3 : Int32) - (2 : Int32))), .val (.ref r)] [(.int (Int32.ofNat kc)), (.int (Int32.ofNat kc))])
  refine i_icmp_eq_Y w211 rfl at_350 (pc' := 355) (by decide) ?_
  refine i_iload w211 at_355 rfl (pc' := 357) rfl ?_
  refine i_iconst w211 at_357 (z := (1 : Int32)) (by decide) (pc' := 358) rfl ?_
  refine i_icmp_le_Y w211 (by decide) at_358 (pc' := 387) (by decide) ?_
  refine i_iload w211 at_387 rfl (pc' := 389) rfl ?_
  refine i_iconst w211 at_389 (z := (2 : Int32)) (by decide) (pc' := 390) rfl ?_
  refine i_icmp_le_Y w211 (by decide) at_390 (pc' := 419) (by decide) ?_
  refine i_iload w211 at_419 rfl (pc' := 421) rfl ?_
  refine i_iconst w211 at_421 (z := (3 : Int32)) (by decide) (pc' := 422) rfl ?_
  refine i_icmp_le_Y w211 (by decide) at_422 (pc' := 451) (by decide) ?_
  refine i_iconst w211 at_451 (z := (1 : Int32)) (by decide) (pc' := 452) rfl ?_
  exact i_retNW w211 hS207 (Nat.le_trans (Nat.le_trans (Nat.le_trans (Nat.le_refl _) K209.1) K210.1) K211.1) at_452 rfl (by simp) rfl (by decide) (by decide)
set_option maxRecDepth 65536 in
set_option maxHeartbeats 40000000 in
theorem own_s1 (l : Launch) (Z : State) (a0 : Array Value) (hw : ∀ d ∈ tables_1, d.before a0 Z = true) (ka kb kc kd : Nat) (hka : ka < 256) (hkb : kb < 256) (hkc : kc < 256) (hkd : kd < 256) (y0 y1 y2 y3 y4 : Int32) (a t : Addr) (ct : ClassId) (G1 : Int32) (hG : ¬ G1 = 0) (SG : Sta Z Z.heap "java/lang/String" "COMPACT_STRINGS" "Z" (.int G1)) (G3 : Value) (hG3 : G3.isRef = true) (SF : Sta Z Z.heap "jdk/internal/util/Preconditions" "SIOOBE_FORMATTER" "Ljava/util/function/BiFunction;" G3) (h0 : Heap) (n0 : Nat) {p : Program} {e : Env} {s : State} {m : MethodId} {below : List Frame} {meth : Method} {c : Code} {vm : Vm} {kS : Nat} {T : State} {h : Heap} (w : Wk p l e room_1 (s.setVm vm) m #[(.int y0), (.int y1), (.int y2), (.int y3), (.int y4)] below meth c Z x.cls code maxLocals ret x.name n0 h0 [] T h 20 1000) (hS : s.Since vm kS) (hkS : kS ≤ h.size) (S : StrL Z h a t ct [ka]) :
    Goes p e below (PW s n0 h0 [] (fun v h => v = some (.int 1)) room_1.cells room_1.slots) T (mkF m 47 #[.val (.int y0), .val (.int y1), .val (.int y2), .val (.int y3), .val (.int y4), .val (.int (1 : Int32)), .val (.int (Int32.ofNat ka)), .val (.int (Int32.ofNat kb)), .val (.int (Int32.ofNat kc)), .val (.int (Int32.ofNat kd)), .val (.ref a), .unset, .unset, .unset, .unset, .unset, .unset, .unset] []) := by
  refine i_iconst w at_47 (z := (0 : Int32)) (by decide) (pc' := 48) rfl ?_
  refine i_iload w at_48 rfl (pc' := 50) rfl ?_
  refine i_bipush w at_50 (z := (123 : Int32)) (by decide) (pc' := 52) rfl ?_
  refine i_iload w at_52 rfl (pc' := 54) rfl ?_
  refine i_iload w at_54 rfl (pc' := 56) rfl ?_
  refine i_iload w at_56 rfl (pc' := 58) rfl ?_
  refine i_iload w at_58 rfl (pc' := 60) rfl ?_
  refine c_static w (y := (⟨"com/example/cluster_lock/clusterlock/redis/LockKeysHashTagPinLaw", "is", "(IICCCCC)Z"⟩ : MethodName)) (argsL := [(.int (0 : Int32)), (.int (1 : Int32)), (.int (123 : Int32)), (.int (Int32.ofNat ka)), (.int (Int32.ofNat kb)), (.int (Int32.ofNat kc)), (.int (Int32.ofNat kd))]) (st := []) at_60 (hw _ (List.mem_of_getElem? (i := 37) rfl)) (hw _ (List.mem_of_getElem? (i := 38) rfl)) (hw _ (List.mem_of_getElem? (i := 2) rfl)) (hw _ (List.mem_of_getElem? (i := 39) rfl)) (by decide) own_pd_pIICCCCCqZ rfl (own_is l Z a0 hw 0 1 123 ka kb kc kd h n0 w.old (by decide) (by decide) (by decide) hka hkb hkc hkd) rfl (by decide) (W := 0) (Nat.le_of_eq rfl) (by decide) (by decide) (by decide) (fun _ q => nomatch q) (pc' := 63) rfl ?_
  intro v212 T212 h212 w212 K212 q212
  obtain ⟨rfl, rfl⟩ := q212
  show Goes p e below _ T212 (mkF m 63 #[.val (.int y0), .val (.int y1), .val (.int y2), .val (.int y3), .val (.int y4), .val (.int (1 : Int32)), .val (.int (Int32.ofNat ka)), .val (.int (Int32.ofNat kb)), .val (.int (Int32.ofNat kc)), .val (.int (Int32.ofNat kd)), .val (.ref a), .unset, .unset, .unset, .unset, .unset, .unset, .unset] [(.int (if 0 < 1 ∧ own_atN 0 ka kb kc kd = 123 then 1 else 0))])
  by_cases qo0 : ka = 123
  ·
    rw [show (if 0 < 1 ∧ own_atN 0 ka kb kc kd = 123 then 1 else 0) = (1 : Int32) from (by simp [own_atN, qo0])]
    show Goes p e below _ T212 (mkF m 63 #[.val (.int y0), .val (.int y1), .val (.int y2), .val (.int y3), .val (.int y4), .val (.int (1 : Int32)), .val (.int (Int32.ofNat ka)), .val (.int (Int32.ofNat kb)), .val (.int (Int32.ofNat kc)), .val (.int (Int32.ofNat kd)), .val (.ref a), .unset, .unset, .unset, .unset, .unset, .unset, .unset] [(.int (1 : Int32))])
    refine i_if_eq_N w212 (by decide) at_63 (pc' := 66) rfl ?_
    refine i_iconst w212 at_66 (z := (0 : Int32)) (by decide) (pc' := 67) rfl ?_
    refine i_goto w212 at_67 (pc' := 140) (by decide) ?_
    refine i_istore w212 at_140 (l' := #[.val (.int y0), .val (.int y1), .val (.int y2), .val (.int y3), .val (.int y4), .val (.int (1 : Int32)), .val (.int (Int32.ofNat ka)), .val (.int (Int32.ofNat kb)), .val (.int (Int32.ofNat kc)), .val (.int (Int32.ofNat kd)), .val (.ref a), .val (.int (0 : Int32)), .unset, .unset, .unset, .unset, .unset, .unset]) rfl (pc' := 142) rfl ?_
    refine i_iload w212 at_142 rfl (pc' := 144) rfl ?_
    refine i_iconst w212 at_144 (z := (1 : Int32)) (by decide) (pc' := 145) rfl ?_
    refine i_iadd w212 at_145 (pc' := 146) rfl ?_
    rw [show ((0 : Int32) + (1 : Int32)) = (1 : Int32) from by decide]
    show Goes p e below _ T212 (mkF m 146 #[.val (.int y0), .val (.int y1), .val (.int y2), .val (.int y3), .val (.int y4), .val (.int (1 : Int32)), .val (.int (Int32.ofNat ka)), .val (.int (Int32.ofNat kb)), .val (.int (Int32.ofNat kc)), .val (.int (Int32.ofNat kd)), .val (.ref a), .val (.int (0 : Int32)), .unset, .unset, .unset, .unset, .unset, .unset] [(.int (1 : Int32))])
    refine i_istore w212 at_146 (l' := #[.val (.int y0), .val (.int y1), .val (.int y2), .val (.int y3), .val (.int y4), .val (.int (1 : Int32)), .val (.int (Int32.ofNat ka)), .val (.int (Int32.ofNat kb)), .val (.int (Int32.ofNat kc)), .val (.int (Int32.ofNat kd)), .val (.ref a), .val (.int (0 : Int32)), .val (.int (1 : Int32)), .unset, .unset, .unset, .unset, .unset]) rfl (pc' := 148) rfl ?_
    refine i_iload w212 at_148 rfl (pc' := 150) rfl ?_
    refine i_if_gt_Y w212 (by decide) at_150 (pc' := 176) (by decide) ?_
    refine i_iload w212 at_176 rfl (pc' := 178) rfl ?_
    refine i_iconst w212 at_178 (z := (1 : Int32)) (by decide) (pc' := 179) rfl ?_
    refine i_icmp_gt_N w212 (by decide) at_179 (pc' := 182) rfl ?_
    refine i_iconst w212 at_182 (z := (1 : Int32)) (by decide) (pc' := 183) rfl ?_
    refine i_iload w212 at_183 rfl (pc' := 185) rfl ?_
    refine i_bipush w212 at_185 (z := (125 : Int32)) (by decide) (pc' := 187) rfl ?_
    refine i_iload w212 at_187 rfl (pc' := 189) rfl ?_
    refine i_iload w212 at_189 rfl (pc' := 191) rfl ?_
    refine i_iload w212 at_191 rfl (pc' := 193) rfl ?_
    refine i_iload w212 at_193 rfl (pc' := 195) rfl ?_
    refine c_static w212 (y := (⟨"com/example/cluster_lock/clusterlock/redis/LockKeysHashTagPinLaw", "is", "(IICCCCC)Z"⟩ : MethodName)) (argsL := [(.int (1 : Int32)), (.int (1 : Int32)), (.int (125 : Int32)), (.int (Int32.ofNat ka)), (.int (Int32.ofNat kb)), (.int (Int32.ofNat kc)), (.int (Int32.ofNat kd))]) (st := []) at_195 (hw _ (List.mem_of_getElem? (i := 37) rfl)) (hw _ (List.mem_of_getElem? (i := 38) rfl)) (hw _ (List.mem_of_getElem? (i := 2) rfl)) (hw _ (List.mem_of_getElem? (i := 39) rfl)) (by decide) own_pd_pIICCCCCqZ rfl (own_is l Z a0 hw 1 1 125 ka kb kc kd h n0 w212.old (by decide) (by decide) (by decide) hka hkb hkc hkd) rfl (by decide) (W := 0) (Nat.le_of_eq rfl) (by decide) (by decide) (by decide) (fun _ q => nomatch q) (pc' := 198) rfl ?_
    intro v213 T213 h213 w213 K213 q213
    obtain ⟨rfl, rfl⟩ := q213
    show Goes p e below _ T213 (mkF m 198 #[.val (.int y0), .val (.int y1), .val (.int y2), .val (.int y3), .val (.int y4), .val (.int (1 : Int32)), .val (.int (Int32.ofNat ka)), .val (.int (Int32.ofNat kb)), .val (.int (Int32.ofNat kc)), .val (.int (Int32.ofNat kd)), .val (.ref a), .val (.int (0 : Int32)), .val (.int (1 : Int32)), .unset, .unset, .unset, .unset, .unset] [(.int (if 1 < 1 ∧ own_atN 1 ka kb kc kd = 125 then 1 else 0))])
    rw [show (if 1 < 1 ∧ own_atN 1 ka kb kc kd = 125 then 1 else 0) = (0 : Int32) from (by simp)]
    show Goes p e below _ T213 (mkF m 198 #[.val (.int y0), .val (.int y1), .val (.int y2), .val (.int y3), .val (.int y4), .val (.int (1 : Int32)), .val (.int (Int32.ofNat ka)), .val (.int (Int32.ofNat kb)), .val (.int (Int32.ofNat kc)), .val (.int (Int32.ofNat kd)), .val (.ref a), .val (.int (0 : Int32)), .val (.int (1 : Int32)), .unset, .unset, .unset, .unset, .unset] [(.int (0 : Int32))])
    refine i_if_eq_Y w213 rfl at_198 (pc' := 205) (by decide) ?_
    refine i_iload w213 at_205 rfl (pc' := 207) rfl ?_
    refine i_iconst w213 at_207 (z := (2 : Int32)) (by decide) (pc' := 208) rfl ?_
    refine i_icmp_gt_N w213 (by decide) at_208 (pc' := 211) rfl ?_
    refine i_iconst w213 at_211 (z := (2 : Int32)) (by decide) (pc' := 212) rfl ?_
    refine i_iload w213 at_212 rfl (pc' := 214) rfl ?_
    refine i_bipush w213 at_214 (z := (125 : Int32)) (by decide) (pc' := 216) rfl ?_
    refine i_iload w213 at_216 rfl (pc' := 218) rfl ?_
    refine i_iload w213 at_218 rfl (pc' := 220) rfl ?_
    refine i_iload w213 at_220 rfl (pc' := 222) rfl ?_
    refine i_iload w213 at_222 rfl (pc' := 224) rfl ?_
    refine c_static w213 (y := (⟨"com/example/cluster_lock/clusterlock/redis/LockKeysHashTagPinLaw", "is", "(IICCCCC)Z"⟩ : MethodName)) (argsL := [(.int (2 : Int32)), (.int (1 : Int32)), (.int (125 : Int32)), (.int (Int32.ofNat ka)), (.int (Int32.ofNat kb)), (.int (Int32.ofNat kc)), (.int (Int32.ofNat kd))]) (st := []) at_224 (hw _ (List.mem_of_getElem? (i := 37) rfl)) (hw _ (List.mem_of_getElem? (i := 38) rfl)) (hw _ (List.mem_of_getElem? (i := 2) rfl)) (hw _ (List.mem_of_getElem? (i := 39) rfl)) (by decide) own_pd_pIICCCCCqZ rfl (own_is l Z a0 hw 2 1 125 ka kb kc kd h n0 w213.old (by decide) (by decide) (by decide) hka hkb hkc hkd) rfl (by decide) (W := 0) (Nat.le_of_eq rfl) (by decide) (by decide) (by decide) (fun _ q => nomatch q) (pc' := 227) rfl ?_
    intro v214 T214 h214 w214 K214 q214
    obtain ⟨rfl, rfl⟩ := q214
    show Goes p e below _ T214 (mkF m 227 #[.val (.int y0), .val (.int y1), .val (.int y2), .val (.int y3), .val (.int y4), .val (.int (1 : Int32)), .val (.int (Int32.ofNat ka)), .val (.int (Int32.ofNat kb)), .val (.int (Int32.ofNat kc)), .val (.int (Int32.ofNat kd)), .val (.ref a), .val (.int (0 : Int32)), .val (.int (1 : Int32)), .unset, .unset, .unset, .unset, .unset] [(.int (if 2 < 1 ∧ own_atN 2 ka kb kc kd = 125 then 1 else 0))])
    rw [show (if 2 < 1 ∧ own_atN 2 ka kb kc kd = 125 then 1 else 0) = (0 : Int32) from (by simp)]
    show Goes p e below _ T214 (mkF m 227 #[.val (.int y0), .val (.int y1), .val (.int y2), .val (.int y3), .val (.int y4), .val (.int (1 : Int32)), .val (.int (Int32.ofNat ka)), .val (.int (Int32.ofNat kb)), .val (.int (Int32.ofNat kc)), .val (.int (Int32.ofNat kd)), .val (.ref a), .val (.int (0 : Int32)), .val (.int (1 : Int32)), .unset, .unset, .unset, .unset, .unset] [(.int (0 : Int32))])
    refine i_if_eq_Y w214 rfl at_227 (pc' := 234) (by decide) ?_
    refine i_iload w214 at_234 rfl (pc' := 236) rfl ?_
    refine i_iconst w214 at_236 (z := (3 : Int32)) (by decide) (pc' := 237) rfl ?_
    refine i_icmp_gt_N w214 (by decide) at_237 (pc' := 240) rfl ?_
    refine i_iconst w214 at_240 (z := (3 : Int32)) (by decide) (pc' := 241) rfl ?_
    refine i_iload w214 at_241 rfl (pc' := 243) rfl ?_
    refine i_bipush w214 at_243 (z := (125 : Int32)) (by decide) (pc' := 245) rfl ?_
    refine i_iload w214 at_245 rfl (pc' := 247) rfl ?_
    refine i_iload w214 at_247 rfl (pc' := 249) rfl ?_
    refine i_iload w214 at_249 rfl (pc' := 251) rfl ?_
    refine i_iload w214 at_251 rfl (pc' := 253) rfl ?_
    refine c_static w214 (y := (⟨"com/example/cluster_lock/clusterlock/redis/LockKeysHashTagPinLaw", "is", "(IICCCCC)Z"⟩ : MethodName)) (argsL := [(.int (3 : Int32)), (.int (1 : Int32)), (.int (125 : Int32)), (.int (Int32.ofNat ka)), (.int (Int32.ofNat kb)), (.int (Int32.ofNat kc)), (.int (Int32.ofNat kd))]) (st := []) at_253 (hw _ (List.mem_of_getElem? (i := 37) rfl)) (hw _ (List.mem_of_getElem? (i := 38) rfl)) (hw _ (List.mem_of_getElem? (i := 2) rfl)) (hw _ (List.mem_of_getElem? (i := 39) rfl)) (by decide) own_pd_pIICCCCCqZ rfl (own_is l Z a0 hw 3 1 125 ka kb kc kd h n0 w214.old (by decide) (by decide) (by decide) hka hkb hkc hkd) rfl (by decide) (W := 0) (Nat.le_of_eq rfl) (by decide) (by decide) (by decide) (fun _ q => nomatch q) (pc' := 256) rfl ?_
    intro v215 T215 h215 w215 K215 q215
    obtain ⟨rfl, rfl⟩ := q215
    show Goes p e below _ T215 (mkF m 256 #[.val (.int y0), .val (.int y1), .val (.int y2), .val (.int y3), .val (.int y4), .val (.int (1 : Int32)), .val (.int (Int32.ofNat ka)), .val (.int (Int32.ofNat kb)), .val (.int (Int32.ofNat kc)), .val (.int (Int32.ofNat kd)), .val (.ref a), .val (.int (0 : Int32)), .val (.int (1 : Int32)), .unset, .unset, .unset, .unset, .unset] [(.int (if 3 < 1 ∧ own_atN 3 ka kb kc kd = 125 then 1 else 0))])
    rw [show (if 3 < 1 ∧ own_atN 3 ka kb kc kd = 125 then 1 else 0) = (0 : Int32) from (by simp)]
    show Goes p e below _ T215 (mkF m 256 #[.val (.int y0), .val (.int y1), .val (.int y2), .val (.int y3), .val (.int y4), .val (.int (1 : Int32)), .val (.int (Int32.ofNat ka)), .val (.int (Int32.ofNat kb)), .val (.int (Int32.ofNat kc)), .val (.int (Int32.ofNat kd)), .val (.ref a), .val (.int (0 : Int32)), .val (.int (1 : Int32)), .unset, .unset, .unset, .unset, .unset] [(.int (0 : Int32))])
    refine i_if_eq_Y w215 rfl at_256 (pc' := 263) (by decide) ?_
    refine i_iconst w215 at_263 (z := (-1 : Int32)) (by decide) (pc' := 264) rfl ?_
    refine i_istore w215 at_264 (l' := #[.val (.int y0), .val (.int y1), .val (.int y2), .val (.int y3), .val (.int y4), .val (.int (1 : Int32)), .val (.int (Int32.ofNat ka)), .val (.int (Int32.ofNat kb)), .val (.int (Int32.ofNat kc)), .val (.int (Int32.ofNat kd)), .val (.ref a), .val (.int (0 : Int32)), .val (.int (1 : Int32)), .val (.int (-1 : Int32)), .unset, .unset, .unset, .unset]) rfl (pc' := 266) rfl ?_
    refine i_iload w215 at_266 rfl (pc' := 268) rfl ?_
    refine i_if_lt_N w215 (by decide) at_268 (pc' := 271) rfl ?_
    refine i_iload w215 at_271 rfl (pc' := 273) rfl ?_
    refine i_iload w215 at_273 rfl (pc' := 275) rfl ?_
    refine i_iconst w215 at_275 (z := (1 : Int32)) (by decide) (pc' := 276) rfl ?_
    refine i_iadd w215 at_276 (pc' := 277) rfl ?_
    refine i_icmp_le_Y w215 (by decide) at_277 (pc' := 293) (by decide) ?_
    refine i_iconst w215 at_293 (z := (0 : Int32)) (by decide) (pc' := 294) rfl ?_
    refine i_istore w215 at_294 (l' := #[.val (.int y0), .val (.int y1), .val (.int y2), .val (.int y3), .val (.int y4), .val (.int (1 : Int32)), .val (.int (Int32.ofNat ka)), .val (.int (Int32.ofNat kb)), .val (.int (Int32.ofNat kc)), .val (.int (Int32.ofNat kd)), .val (.ref a), .val (.int (0 : Int32)), .val (.int (1 : Int32)), .val (.int (-1 : Int32)), .val (.int (0 : Int32)), .unset, .unset, .unset]) rfl (pc' := 296) rfl ?_
    refine i_iload w215 at_296 rfl (pc' := 298) rfl ?_
    refine i_istore w215 at_298 (l' := #[.val (.int y0), .val (.int y1), .val (.int y2), .val (.int y3), .val (.int y4), .val (.int (1 : Int32)), .val (.int (Int32.ofNat ka)), .val (.int (Int32.ofNat kb)), .val (.int (Int32.ofNat kc)), .val (.int (Int32.ofNat kd)), .val (.ref a), .val (.int (0 : Int32)), .val (.int (1 : Int32)), .val (.int (-1 : Int32)), .val (.int (0 : Int32)), .val (.int (1 : Int32)), .unset, .unset]) rfl (pc' := 300) rfl ?_
    exact own_t1_0_1 l Z a0 hw ka kb kc kd hka hkb hkc hkd y0 y1 y2 y3 y4 a t ct (0 : Int32) (1 : Int32) (-1 : Int32) 1 G1 hG SG G3 hG3 SF h0 n0 (w215.mono (by decide) (by decide)) hS (Nat.le_trans (Nat.le_trans (Nat.le_trans (Nat.le_trans hkS K212.1) K213.1) K214.1) K215.1) S (by decide) (by simp [ixv, ixN, qo0]) (by decide) (by simp [ixv, ixN, qo0]) (Or.inr ⟨by decide, by decide⟩)
  ·
    rw [show (if 0 < 1 ∧ own_atN 0 ka kb kc kd = 123 then 1 else 0) = (0 : Int32) from (by simp [own_atN, qo0])]
    show Goes p e below _ T212 (mkF m 63 #[.val (.int y0), .val (.int y1), .val (.int y2), .val (.int y3), .val (.int y4), .val (.int (1 : Int32)), .val (.int (Int32.ofNat ka)), .val (.int (Int32.ofNat kb)), .val (.int (Int32.ofNat kc)), .val (.int (Int32.ofNat kd)), .val (.ref a), .unset, .unset, .unset, .unset, .unset, .unset, .unset] [(.int (0 : Int32))])
    refine i_if_eq_Y w212 rfl at_63 (pc' := 70) (by decide) ?_
    refine i_iconst w212 at_70 (z := (1 : Int32)) (by decide) (pc' := 71) rfl ?_
    refine i_iload w212 at_71 rfl (pc' := 73) rfl ?_
    refine i_bipush w212 at_73 (z := (123 : Int32)) (by decide) (pc' := 75) rfl ?_
    refine i_iload w212 at_75 rfl (pc' := 77) rfl ?_
    refine i_iload w212 at_77 rfl (pc' := 79) rfl ?_
    refine i_iload w212 at_79 rfl (pc' := 81) rfl ?_
    refine i_iload w212 at_81 rfl (pc' := 83) rfl ?_
    refine c_static w212 (y := (⟨"com/example/cluster_lock/clusterlock/redis/LockKeysHashTagPinLaw", "is", "(IICCCCC)Z"⟩ : MethodName)) (argsL := [(.int (1 : Int32)), (.int (1 : Int32)), (.int (123 : Int32)), (.int (Int32.ofNat ka)), (.int (Int32.ofNat kb)), (.int (Int32.ofNat kc)), (.int (Int32.ofNat kd))]) (st := []) at_83 (hw _ (List.mem_of_getElem? (i := 37) rfl)) (hw _ (List.mem_of_getElem? (i := 38) rfl)) (hw _ (List.mem_of_getElem? (i := 2) rfl)) (hw _ (List.mem_of_getElem? (i := 39) rfl)) (by decide) own_pd_pIICCCCCqZ rfl (own_is l Z a0 hw 1 1 123 ka kb kc kd h n0 w212.old (by decide) (by decide) (by decide) hka hkb hkc hkd) rfl (by decide) (W := 0) (Nat.le_of_eq rfl) (by decide) (by decide) (by decide) (fun _ q => nomatch q) (pc' := 86) rfl ?_
    intro v216 T216 h216 w216 K216 q216
    obtain ⟨rfl, rfl⟩ := q216
    show Goes p e below _ T216 (mkF m 86 #[.val (.int y0), .val (.int y1), .val (.int y2), .val (.int y3), .val (.int y4), .val (.int (1 : Int32)), .val (.int (Int32.ofNat ka)), .val (.int (Int32.ofNat kb)), .val (.int (Int32.ofNat kc)), .val (.int (Int32.ofNat kd)), .val (.ref a), .unset, .unset, .unset, .unset, .unset, .unset, .unset] [(.int (if 1 < 1 ∧ own_atN 1 ka kb kc kd = 123 then 1 else 0))])
    rw [show (if 1 < 1 ∧ own_atN 1 ka kb kc kd = 123 then 1 else 0) = (0 : Int32) from (by simp)]
    show Goes p e below _ T216 (mkF m 86 #[.val (.int y0), .val (.int y1), .val (.int y2), .val (.int y3), .val (.int y4), .val (.int (1 : Int32)), .val (.int (Int32.ofNat ka)), .val (.int (Int32.ofNat kb)), .val (.int (Int32.ofNat kc)), .val (.int (Int32.ofNat kd)), .val (.ref a), .unset, .unset, .unset, .unset, .unset, .unset, .unset] [(.int (0 : Int32))])
    refine i_if_eq_Y w216 rfl at_86 (pc' := 93) (by decide) ?_
    refine i_iconst w216 at_93 (z := (2 : Int32)) (by decide) (pc' := 94) rfl ?_
    refine i_iload w216 at_94 rfl (pc' := 96) rfl ?_
    refine i_bipush w216 at_96 (z := (123 : Int32)) (by decide) (pc' := 98) rfl ?_
    refine i_iload w216 at_98 rfl (pc' := 100) rfl ?_
    refine i_iload w216 at_100 rfl (pc' := 102) rfl ?_
    refine i_iload w216 at_102 rfl (pc' := 104) rfl ?_
    refine i_iload w216 at_104 rfl (pc' := 106) rfl ?_
    refine c_static w216 (y := (⟨"com/example/cluster_lock/clusterlock/redis/LockKeysHashTagPinLaw", "is", "(IICCCCC)Z"⟩ : MethodName)) (argsL := [(.int (2 : Int32)), (.int (1 : Int32)), (.int (123 : Int32)), (.int (Int32.ofNat ka)), (.int (Int32.ofNat kb)), (.int (Int32.ofNat kc)), (.int (Int32.ofNat kd))]) (st := []) at_106 (hw _ (List.mem_of_getElem? (i := 37) rfl)) (hw _ (List.mem_of_getElem? (i := 38) rfl)) (hw _ (List.mem_of_getElem? (i := 2) rfl)) (hw _ (List.mem_of_getElem? (i := 39) rfl)) (by decide) own_pd_pIICCCCCqZ rfl (own_is l Z a0 hw 2 1 123 ka kb kc kd h n0 w216.old (by decide) (by decide) (by decide) hka hkb hkc hkd) rfl (by decide) (W := 0) (Nat.le_of_eq rfl) (by decide) (by decide) (by decide) (fun _ q => nomatch q) (pc' := 109) rfl ?_
    intro v217 T217 h217 w217 K217 q217
    obtain ⟨rfl, rfl⟩ := q217
    show Goes p e below _ T217 (mkF m 109 #[.val (.int y0), .val (.int y1), .val (.int y2), .val (.int y3), .val (.int y4), .val (.int (1 : Int32)), .val (.int (Int32.ofNat ka)), .val (.int (Int32.ofNat kb)), .val (.int (Int32.ofNat kc)), .val (.int (Int32.ofNat kd)), .val (.ref a), .unset, .unset, .unset, .unset, .unset, .unset, .unset] [(.int (if 2 < 1 ∧ own_atN 2 ka kb kc kd = 123 then 1 else 0))])
    rw [show (if 2 < 1 ∧ own_atN 2 ka kb kc kd = 123 then 1 else 0) = (0 : Int32) from (by simp)]
    show Goes p e below _ T217 (mkF m 109 #[.val (.int y0), .val (.int y1), .val (.int y2), .val (.int y3), .val (.int y4), .val (.int (1 : Int32)), .val (.int (Int32.ofNat ka)), .val (.int (Int32.ofNat kb)), .val (.int (Int32.ofNat kc)), .val (.int (Int32.ofNat kd)), .val (.ref a), .unset, .unset, .unset, .unset, .unset, .unset, .unset] [(.int (0 : Int32))])
    refine i_if_eq_Y w217 rfl at_109 (pc' := 116) (by decide) ?_
    refine i_iconst w217 at_116 (z := (3 : Int32)) (by decide) (pc' := 117) rfl ?_
    refine i_iload w217 at_117 rfl (pc' := 119) rfl ?_
    refine i_bipush w217 at_119 (z := (123 : Int32)) (by decide) (pc' := 121) rfl ?_
    refine i_iload w217 at_121 rfl (pc' := 123) rfl ?_
    refine i_iload w217 at_123 rfl (pc' := 125) rfl ?_
    refine i_iload w217 at_125 rfl (pc' := 127) rfl ?_
    refine i_iload w217 at_127 rfl (pc' := 129) rfl ?_
    refine c_static w217 (y := (⟨"com/example/cluster_lock/clusterlock/redis/LockKeysHashTagPinLaw", "is", "(IICCCCC)Z"⟩ : MethodName)) (argsL := [(.int (3 : Int32)), (.int (1 : Int32)), (.int (123 : Int32)), (.int (Int32.ofNat ka)), (.int (Int32.ofNat kb)), (.int (Int32.ofNat kc)), (.int (Int32.ofNat kd))]) (st := []) at_129 (hw _ (List.mem_of_getElem? (i := 37) rfl)) (hw _ (List.mem_of_getElem? (i := 38) rfl)) (hw _ (List.mem_of_getElem? (i := 2) rfl)) (hw _ (List.mem_of_getElem? (i := 39) rfl)) (by decide) own_pd_pIICCCCCqZ rfl (own_is l Z a0 hw 3 1 123 ka kb kc kd h n0 w217.old (by decide) (by decide) (by decide) hka hkb hkc hkd) rfl (by decide) (W := 0) (Nat.le_of_eq rfl) (by decide) (by decide) (by decide) (fun _ q => nomatch q) (pc' := 132) rfl ?_
    intro v218 T218 h218 w218 K218 q218
    obtain ⟨rfl, rfl⟩ := q218
    show Goes p e below _ T218 (mkF m 132 #[.val (.int y0), .val (.int y1), .val (.int y2), .val (.int y3), .val (.int y4), .val (.int (1 : Int32)), .val (.int (Int32.ofNat ka)), .val (.int (Int32.ofNat kb)), .val (.int (Int32.ofNat kc)), .val (.int (Int32.ofNat kd)), .val (.ref a), .unset, .unset, .unset, .unset, .unset, .unset, .unset] [(.int (if 3 < 1 ∧ own_atN 3 ka kb kc kd = 123 then 1 else 0))])
    rw [show (if 3 < 1 ∧ own_atN 3 ka kb kc kd = 123 then 1 else 0) = (0 : Int32) from (by simp)]
    show Goes p e below _ T218 (mkF m 132 #[.val (.int y0), .val (.int y1), .val (.int y2), .val (.int y3), .val (.int y4), .val (.int (1 : Int32)), .val (.int (Int32.ofNat ka)), .val (.int (Int32.ofNat kb)), .val (.int (Int32.ofNat kc)), .val (.int (Int32.ofNat kd)), .val (.ref a), .unset, .unset, .unset, .unset, .unset, .unset, .unset] [(.int (0 : Int32))])
    refine i_if_eq_Y w218 rfl at_132 (pc' := 139) (by decide) ?_
    refine i_iconst w218 at_139 (z := (-1 : Int32)) (by decide) (pc' := 140) rfl ?_
    refine i_istore w218 at_140 (l' := #[.val (.int y0), .val (.int y1), .val (.int y2), .val (.int y3), .val (.int y4), .val (.int (1 : Int32)), .val (.int (Int32.ofNat ka)), .val (.int (Int32.ofNat kb)), .val (.int (Int32.ofNat kc)), .val (.int (Int32.ofNat kd)), .val (.ref a), .val (.int (-1 : Int32)), .unset, .unset, .unset, .unset, .unset, .unset]) rfl (pc' := 142) rfl ?_
    refine i_iload w218 at_142 rfl (pc' := 144) rfl ?_
    refine i_iconst w218 at_144 (z := (1 : Int32)) (by decide) (pc' := 145) rfl ?_
    refine i_iadd w218 at_145 (pc' := 146) rfl ?_
    rw [show ((-1 : Int32) + (1 : Int32)) = (0 : Int32) from by decide]
    show Goes p e below _ T218 (mkF m 146 #[.val (.int y0), .val (.int y1), .val (.int y2), .val (.int y3), .val (.int y4), .val (.int (1 : Int32)), .val (.int (Int32.ofNat ka)), .val (.int (Int32.ofNat kb)), .val (.int (Int32.ofNat kc)), .val (.int (Int32.ofNat kd)), .val (.ref a), .val (.int (-1 : Int32)), .unset, .unset, .unset, .unset, .unset, .unset] [(.int (0 : Int32))])
    refine i_istore w218 at_146 (l' := #[.val (.int y0), .val (.int y1), .val (.int y2), .val (.int y3), .val (.int y4), .val (.int (1 : Int32)), .val (.int (Int32.ofNat ka)), .val (.int (Int32.ofNat kb)), .val (.int (Int32.ofNat kc)), .val (.int (Int32.ofNat kd)), .val (.ref a), .val (.int (-1 : Int32)), .val (.int (0 : Int32)), .unset, .unset, .unset, .unset, .unset]) rfl (pc' := 148) rfl ?_
    refine i_iload w218 at_148 rfl (pc' := 150) rfl ?_
    refine i_if_gt_N w218 (by decide) at_150 (pc' := 153) rfl ?_
    refine i_iconst w218 at_153 (z := (0 : Int32)) (by decide) (pc' := 154) rfl ?_
    refine i_iload w218 at_154 rfl (pc' := 156) rfl ?_
    refine i_bipush w218 at_156 (z := (125 : Int32)) (by decide) (pc' := 158) rfl ?_
    refine i_iload w218 at_158 rfl (pc' := 160) rfl ?_
    refine i_iload w218 at_160 rfl (pc' := 162) rfl ?_
    refine i_iload w218 at_162 rfl (pc' := 164) rfl ?_
    refine i_iload w218 at_164 rfl (pc' := 166) rfl ?_
    refine c_static w218 (y := (⟨"com/example/cluster_lock/clusterlock/redis/LockKeysHashTagPinLaw", "is", "(IICCCCC)Z"⟩ : MethodName)) (argsL := [(.int (0 : Int32)), (.int (1 : Int32)), (.int (125 : Int32)), (.int (Int32.ofNat ka)), (.int (Int32.ofNat kb)), (.int (Int32.ofNat kc)), (.int (Int32.ofNat kd))]) (st := []) at_166 (hw _ (List.mem_of_getElem? (i := 37) rfl)) (hw _ (List.mem_of_getElem? (i := 38) rfl)) (hw _ (List.mem_of_getElem? (i := 2) rfl)) (hw _ (List.mem_of_getElem? (i := 39) rfl)) (by decide) own_pd_pIICCCCCqZ rfl (own_is l Z a0 hw 0 1 125 ka kb kc kd h n0 w218.old (by decide) (by decide) (by decide) hka hkb hkc hkd) rfl (by decide) (W := 0) (Nat.le_of_eq rfl) (by decide) (by decide) (by decide) (fun _ q => nomatch q) (pc' := 169) rfl ?_
    intro v219 T219 h219 w219 K219 q219
    obtain ⟨rfl, rfl⟩ := q219
    show Goes p e below _ T219 (mkF m 169 #[.val (.int y0), .val (.int y1), .val (.int y2), .val (.int y3), .val (.int y4), .val (.int (1 : Int32)), .val (.int (Int32.ofNat ka)), .val (.int (Int32.ofNat kb)), .val (.int (Int32.ofNat kc)), .val (.int (Int32.ofNat kd)), .val (.ref a), .val (.int (-1 : Int32)), .val (.int (0 : Int32)), .unset, .unset, .unset, .unset, .unset] [(.int (if 0 < 1 ∧ own_atN 0 ka kb kc kd = 125 then 1 else 0))])
    by_cases qc0 : ka = 125
    ·
      rw [show (if 0 < 1 ∧ own_atN 0 ka kb kc kd = 125 then 1 else 0) = (1 : Int32) from (by simp [own_atN, qc0])]
      show Goes p e below _ T219 (mkF m 169 #[.val (.int y0), .val (.int y1), .val (.int y2), .val (.int y3), .val (.int y4), .val (.int (1 : Int32)), .val (.int (Int32.ofNat ka)), .val (.int (Int32.ofNat kb)), .val (.int (Int32.ofNat kc)), .val (.int (Int32.ofNat kd)), .val (.ref a), .val (.int (-1 : Int32)), .val (.int (0 : Int32)), .unset, .unset, .unset, .unset, .unset] [(.int (1 : Int32))])
      refine i_if_eq_N w219 (by decide) at_169 (pc' := 172) rfl ?_
      refine i_iconst w219 at_172 (z := (0 : Int32)) (by decide) (pc' := 173) rfl ?_
      refine i_goto w219 at_173 (pc' := 264) (by decide) ?_
      refine i_istore w219 at_264 (l' := #[.val (.int y0), .val (.int y1), .val (.int y2), .val (.int y3), .val (.int y4), .val (.int (1 : Int32)), .val (.int (Int32.ofNat ka)), .val (.int (Int32.ofNat kb)), .val (.int (Int32.ofNat kc)), .val (.int (Int32.ofNat kd)), .val (.ref a), .val (.int (-1 : Int32)), .val (.int (0 : Int32)), .val (.int (0 : Int32)), .unset, .unset, .unset, .unset]) rfl (pc' := 266) rfl ?_
      refine i_iload w219 at_266 rfl (pc' := 268) rfl ?_
      refine i_if_lt_Y w219 (by decide) at_268 (pc' := 293) (by decide) ?_
      refine i_iconst w219 at_293 (z := (0 : Int32)) (by decide) (pc' := 294) rfl ?_
      refine i_istore w219 at_294 (l' := #[.val (.int y0), .val (.int y1), .val (.int y2), .val (.int y3), .val (.int y4), .val (.int (1 : Int32)), .val (.int (Int32.ofNat ka)), .val (.int (Int32.ofNat kb)), .val (.int (Int32.ofNat kc)), .val (.int (Int32.ofNat kd)), .val (.ref a), .val (.int (-1 : Int32)), .val (.int (0 : Int32)), .val (.int (0 : Int32)), .val (.int (0 : Int32)), .unset, .unset, .unset]) rfl (pc' := 296) rfl ?_
      refine i_iload w219 at_296 rfl (pc' := 298) rfl ?_
      refine i_istore w219 at_298 (l' := #[.val (.int y0), .val (.int y1), .val (.int y2), .val (.int y3), .val (.int y4), .val (.int (1 : Int32)), .val (.int (Int32.ofNat ka)), .val (.int (Int32.ofNat kb)), .val (.int (Int32.ofNat kc)), .val (.int (Int32.ofNat kd)), .val (.ref a), .val (.int (-1 : Int32)), .val (.int (0 : Int32)), .val (.int (0 : Int32)), .val (.int (0 : Int32)), .val (.int (1 : Int32)), .unset, .unset]) rfl (pc' := 300) rfl ?_
      exact own_t1_0_1 l Z a0 hw ka kb kc kd hka hkb hkc hkd y0 y1 y2 y3 y4 a t ct (-1 : Int32) (0 : Int32) (0 : Int32) 0 G1 hG SG G3 hG3 SF h0 n0 (w219.mono (by decide) (by decide)) hS (Nat.le_trans (Nat.le_trans (Nat.le_trans (Nat.le_trans (Nat.le_trans hkS K212.1) K216.1) K217.1) K218.1) K219.1) S (by decide) (by simp [ixv, ixN, qo0, qc0]) (by decide) (by simp [ixv, ixN, qo0, qc0]) (Or.inl (by decide))
    ·
      rw [show (if 0 < 1 ∧ own_atN 0 ka kb kc kd = 125 then 1 else 0) = (0 : Int32) from (by simp [own_atN, qc0])]
      show Goes p e below _ T219 (mkF m 169 #[.val (.int y0), .val (.int y1), .val (.int y2), .val (.int y3), .val (.int y4), .val (.int (1 : Int32)), .val (.int (Int32.ofNat ka)), .val (.int (Int32.ofNat kb)), .val (.int (Int32.ofNat kc)), .val (.int (Int32.ofNat kd)), .val (.ref a), .val (.int (-1 : Int32)), .val (.int (0 : Int32)), .unset, .unset, .unset, .unset, .unset] [(.int (0 : Int32))])
      refine i_if_eq_Y w219 rfl at_169 (pc' := 176) (by decide) ?_
      refine i_iload w219 at_176 rfl (pc' := 178) rfl ?_
      refine i_iconst w219 at_178 (z := (1 : Int32)) (by decide) (pc' := 179) rfl ?_
      refine i_icmp_gt_N w219 (by decide) at_179 (pc' := 182) rfl ?_
      refine i_iconst w219 at_182 (z := (1 : Int32)) (by decide) (pc' := 183) rfl ?_
      refine i_iload w219 at_183 rfl (pc' := 185) rfl ?_
      refine i_bipush w219 at_185 (z := (125 : Int32)) (by decide) (pc' := 187) rfl ?_
      refine i_iload w219 at_187 rfl (pc' := 189) rfl ?_
      refine i_iload w219 at_189 rfl (pc' := 191) rfl ?_
      refine i_iload w219 at_191 rfl (pc' := 193) rfl ?_
      refine i_iload w219 at_193 rfl (pc' := 195) rfl ?_
      refine c_static w219 (y := (⟨"com/example/cluster_lock/clusterlock/redis/LockKeysHashTagPinLaw", "is", "(IICCCCC)Z"⟩ : MethodName)) (argsL := [(.int (1 : Int32)), (.int (1 : Int32)), (.int (125 : Int32)), (.int (Int32.ofNat ka)), (.int (Int32.ofNat kb)), (.int (Int32.ofNat kc)), (.int (Int32.ofNat kd))]) (st := []) at_195 (hw _ (List.mem_of_getElem? (i := 37) rfl)) (hw _ (List.mem_of_getElem? (i := 38) rfl)) (hw _ (List.mem_of_getElem? (i := 2) rfl)) (hw _ (List.mem_of_getElem? (i := 39) rfl)) (by decide) own_pd_pIICCCCCqZ rfl (own_is l Z a0 hw 1 1 125 ka kb kc kd h n0 w219.old (by decide) (by decide) (by decide) hka hkb hkc hkd) rfl (by decide) (W := 0) (Nat.le_of_eq rfl) (by decide) (by decide) (by decide) (fun _ q => nomatch q) (pc' := 198) rfl ?_
      intro v220 T220 h220 w220 K220 q220
      obtain ⟨rfl, rfl⟩ := q220
      show Goes p e below _ T220 (mkF m 198 #[.val (.int y0), .val (.int y1), .val (.int y2), .val (.int y3), .val (.int y4), .val (.int (1 : Int32)), .val (.int (Int32.ofNat ka)), .val (.int (Int32.ofNat kb)), .val (.int (Int32.ofNat kc)), .val (.int (Int32.ofNat kd)), .val (.ref a), .val (.int (-1 : Int32)), .val (.int (0 : Int32)), .unset, .unset, .unset, .unset, .unset] [(.int (if 1 < 1 ∧ own_atN 1 ka kb kc kd = 125 then 1 else 0))])
      rw [show (if 1 < 1 ∧ own_atN 1 ka kb kc kd = 125 then 1 else 0) = (0 : Int32) from (by simp)]
      show Goes p e below _ T220 (mkF m 198 #[.val (.int y0), .val (.int y1), .val (.int y2), .val (.int y3), .val (.int y4), .val (.int (1 : Int32)), .val (.int (Int32.ofNat ka)), .val (.int (Int32.ofNat kb)), .val (.int (Int32.ofNat kc)), .val (.int (Int32.ofNat kd)), .val (.ref a), .val (.int (-1 : Int32)), .val (.int (0 : Int32)), .unset, .unset, .unset, .unset, .unset] [(.int (0 : Int32))])
      refine i_if_eq_Y w220 rfl at_198 (pc' := 205) (by decide) ?_
      refine i_iload w220 at_205 rfl (pc' := 207) rfl ?_
      refine i_iconst w220 at_207 (z := (2 : Int32)) (by decide) (pc' := 208) rfl ?_
      refine i_icmp_gt_N w220 (by decide) at_208 (pc' := 211) rfl ?_
      refine i_iconst w220 at_211 (z := (2 : Int32)) (by decide) (pc' := 212) rfl ?_
      refine i_iload w220 at_212 rfl (pc' := 214) rfl ?_
      refine i_bipush w220 at_214 (z := (125 : Int32)) (by decide) (pc' := 216) rfl ?_
      refine i_iload w220 at_216 rfl (pc' := 218) rfl ?_
      refine i_iload w220 at_218 rfl (pc' := 220) rfl ?_
      refine i_iload w220 at_220 rfl (pc' := 222) rfl ?_
      refine i_iload w220 at_222 rfl (pc' := 224) rfl ?_
      refine c_static w220 (y := (⟨"com/example/cluster_lock/clusterlock/redis/LockKeysHashTagPinLaw", "is", "(IICCCCC)Z"⟩ : MethodName)) (argsL := [(.int (2 : Int32)), (.int (1 : Int32)), (.int (125 : Int32)), (.int (Int32.ofNat ka)), (.int (Int32.ofNat kb)), (.int (Int32.ofNat kc)), (.int (Int32.ofNat kd))]) (st := []) at_224 (hw _ (List.mem_of_getElem? (i := 37) rfl)) (hw _ (List.mem_of_getElem? (i := 38) rfl)) (hw _ (List.mem_of_getElem? (i := 2) rfl)) (hw _ (List.mem_of_getElem? (i := 39) rfl)) (by decide) own_pd_pIICCCCCqZ rfl (own_is l Z a0 hw 2 1 125 ka kb kc kd h n0 w220.old (by decide) (by decide) (by decide) hka hkb hkc hkd) rfl (by decide) (W := 0) (Nat.le_of_eq rfl) (by decide) (by decide) (by decide) (fun _ q => nomatch q) (pc' := 227) rfl ?_
      intro v221 T221 h221 w221 K221 q221
      obtain ⟨rfl, rfl⟩ := q221
      show Goes p e below _ T221 (mkF m 227 #[.val (.int y0), .val (.int y1), .val (.int y2), .val (.int y3), .val (.int y4), .val (.int (1 : Int32)), .val (.int (Int32.ofNat ka)), .val (.int (Int32.ofNat kb)), .val (.int (Int32.ofNat kc)), .val (.int (Int32.ofNat kd)), .val (.ref a), .val (.int (-1 : Int32)), .val (.int (0 : Int32)), .unset, .unset, .unset, .unset, .unset] [(.int (if 2 < 1 ∧ own_atN 2 ka kb kc kd = 125 then 1 else 0))])
      rw [show (if 2 < 1 ∧ own_atN 2 ka kb kc kd = 125 then 1 else 0) = (0 : Int32) from (by simp)]
      show Goes p e below _ T221 (mkF m 227 #[.val (.int y0), .val (.int y1), .val (.int y2), .val (.int y3), .val (.int y4), .val (.int (1 : Int32)), .val (.int (Int32.ofNat ka)), .val (.int (Int32.ofNat kb)), .val (.int (Int32.ofNat kc)), .val (.int (Int32.ofNat kd)), .val (.ref a), .val (.int (-1 : Int32)), .val (.int (0 : Int32)), .unset, .unset, .unset, .unset, .unset] [(.int (0 : Int32))])
      refine i_if_eq_Y w221 rfl at_227 (pc' := 234) (by decide) ?_
      refine i_iload w221 at_234 rfl (pc' := 236) rfl ?_
      refine i_iconst w221 at_236 (z := (3 : Int32)) (by decide) (pc' := 237) rfl ?_
      refine i_icmp_gt_N w221 (by decide) at_237 (pc' := 240) rfl ?_
      refine i_iconst w221 at_240 (z := (3 : Int32)) (by decide) (pc' := 241) rfl ?_
      refine i_iload w221 at_241 rfl (pc' := 243) rfl ?_
      refine i_bipush w221 at_243 (z := (125 : Int32)) (by decide) (pc' := 245) rfl ?_
      refine i_iload w221 at_245 rfl (pc' := 247) rfl ?_
      refine i_iload w221 at_247 rfl (pc' := 249) rfl ?_
      refine i_iload w221 at_249 rfl (pc' := 251) rfl ?_
      refine i_iload w221 at_251 rfl (pc' := 253) rfl ?_
      refine c_static w221 (y := (⟨"com/example/cluster_lock/clusterlock/redis/LockKeysHashTagPinLaw", "is", "(IICCCCC)Z"⟩ : MethodName)) (argsL := [(.int (3 : Int32)), (.int (1 : Int32)), (.int (125 : Int32)), (.int (Int32.ofNat ka)), (.int (Int32.ofNat kb)), (.int (Int32.ofNat kc)), (.int (Int32.ofNat kd))]) (st := []) at_253 (hw _ (List.mem_of_getElem? (i := 37) rfl)) (hw _ (List.mem_of_getElem? (i := 38) rfl)) (hw _ (List.mem_of_getElem? (i := 2) rfl)) (hw _ (List.mem_of_getElem? (i := 39) rfl)) (by decide) own_pd_pIICCCCCqZ rfl (own_is l Z a0 hw 3 1 125 ka kb kc kd h n0 w221.old (by decide) (by decide) (by decide) hka hkb hkc hkd) rfl (by decide) (W := 0) (Nat.le_of_eq rfl) (by decide) (by decide) (by decide) (fun _ q => nomatch q) (pc' := 256) rfl ?_
      intro v222 T222 h222 w222 K222 q222
      obtain ⟨rfl, rfl⟩ := q222
      show Goes p e below _ T222 (mkF m 256 #[.val (.int y0), .val (.int y1), .val (.int y2), .val (.int y3), .val (.int y4), .val (.int (1 : Int32)), .val (.int (Int32.ofNat ka)), .val (.int (Int32.ofNat kb)), .val (.int (Int32.ofNat kc)), .val (.int (Int32.ofNat kd)), .val (.ref a), .val (.int (-1 : Int32)), .val (.int (0 : Int32)), .unset, .unset, .unset, .unset, .unset] [(.int (if 3 < 1 ∧ own_atN 3 ka kb kc kd = 125 then 1 else 0))])
      rw [show (if 3 < 1 ∧ own_atN 3 ka kb kc kd = 125 then 1 else 0) = (0 : Int32) from (by simp)]
      show Goes p e below _ T222 (mkF m 256 #[.val (.int y0), .val (.int y1), .val (.int y2), .val (.int y3), .val (.int y4), .val (.int (1 : Int32)), .val (.int (Int32.ofNat ka)), .val (.int (Int32.ofNat kb)), .val (.int (Int32.ofNat kc)), .val (.int (Int32.ofNat kd)), .val (.ref a), .val (.int (-1 : Int32)), .val (.int (0 : Int32)), .unset, .unset, .unset, .unset, .unset] [(.int (0 : Int32))])
      refine i_if_eq_Y w222 rfl at_256 (pc' := 263) (by decide) ?_
      refine i_iconst w222 at_263 (z := (-1 : Int32)) (by decide) (pc' := 264) rfl ?_
      refine i_istore w222 at_264 (l' := #[.val (.int y0), .val (.int y1), .val (.int y2), .val (.int y3), .val (.int y4), .val (.int (1 : Int32)), .val (.int (Int32.ofNat ka)), .val (.int (Int32.ofNat kb)), .val (.int (Int32.ofNat kc)), .val (.int (Int32.ofNat kd)), .val (.ref a), .val (.int (-1 : Int32)), .val (.int (0 : Int32)), .val (.int (-1 : Int32)), .unset, .unset, .unset, .unset]) rfl (pc' := 266) rfl ?_
      refine i_iload w222 at_266 rfl (pc' := 268) rfl ?_
      refine i_if_lt_Y w222 (by decide) at_268 (pc' := 293) (by decide) ?_
      refine i_iconst w222 at_293 (z := (0 : Int32)) (by decide) (pc' := 294) rfl ?_
      refine i_istore w222 at_294 (l' := #[.val (.int y0), .val (.int y1), .val (.int y2), .val (.int y3), .val (.int y4), .val (.int (1 : Int32)), .val (.int (Int32.ofNat ka)), .val (.int (Int32.ofNat kb)), .val (.int (Int32.ofNat kc)), .val (.int (Int32.ofNat kd)), .val (.ref a), .val (.int (-1 : Int32)), .val (.int (0 : Int32)), .val (.int (-1 : Int32)), .val (.int (0 : Int32)), .unset, .unset, .unset]) rfl (pc' := 296) rfl ?_
      refine i_iload w222 at_296 rfl (pc' := 298) rfl ?_
      refine i_istore w222 at_298 (l' := #[.val (.int y0), .val (.int y1), .val (.int y2), .val (.int y3), .val (.int y4), .val (.int (1 : Int32)), .val (.int (Int32.ofNat ka)), .val (.int (Int32.ofNat kb)), .val (.int (Int32.ofNat kc)), .val (.int (Int32.ofNat kd)), .val (.ref a), .val (.int (-1 : Int32)), .val (.int (0 : Int32)), .val (.int (-1 : Int32)), .val (.int (0 : Int32)), .val (.int (1 : Int32)), .unset, .unset]) rfl (pc' := 300) rfl ?_
      exact own_t1_0_1 l Z a0 hw ka kb kc kd hka hkb hkc hkd y0 y1 y2 y3 y4 a t ct (-1 : Int32) (0 : Int32) (-1 : Int32) 0 G1 hG SG G3 hG3 SF h0 n0 (w222.mono (by decide) (by decide)) hS (Nat.le_trans (Nat.le_trans (Nat.le_trans (Nat.le_trans (Nat.le_trans (Nat.le_trans (Nat.le_trans (Nat.le_trans hkS K212.1) K216.1) K217.1) K218.1) K219.1) K220.1) K221.1) K222.1) S (by decide) (by simp [ixv, ixN, qo0, qc0]) (by decide) (by simp [ixv, ixN, qo0, qc0]) (Or.inl (by decide))
set_option maxRecDepth 65536 in
set_option maxHeartbeats 40000000 in
theorem own_s2 (l : Launch) (Z : State) (a0 : Array Value) (hw : ∀ d ∈ tables_1, d.before a0 Z = true) (ka kb kc kd : Nat) (hka : ka < 256) (hkb : kb < 256) (hkc : kc < 256) (hkd : kd < 256) (y0 y1 y2 y3 y4 : Int32) (a t : Addr) (ct : ClassId) (G1 : Int32) (hG : ¬ G1 = 0) (SG : Sta Z Z.heap "java/lang/String" "COMPACT_STRINGS" "Z" (.int G1)) (G3 : Value) (hG3 : G3.isRef = true) (SF : Sta Z Z.heap "jdk/internal/util/Preconditions" "SIOOBE_FORMATTER" "Ljava/util/function/BiFunction;" G3) (h0 : Heap) (n0 : Nat) {p : Program} {e : Env} {s : State} {m : MethodId} {below : List Frame} {meth : Method} {c : Code} {vm : Vm} {kS : Nat} {T : State} {h : Heap} (w : Wk p l e room_1 (s.setVm vm) m #[(.int y0), (.int y1), (.int y2), (.int y3), (.int y4)] below meth c Z x.cls code maxLocals ret x.name n0 h0 [] T h 20 1000) (hS : s.Since vm kS) (hkS : kS ≤ h.size) (S : StrL Z h a t ct [ka, kb]) :
    Goes p e below (PW s n0 h0 [] (fun v h => v = some (.int 1)) room_1.cells room_1.slots) T (mkF m 47 #[.val (.int y0), .val (.int y1), .val (.int y2), .val (.int y3), .val (.int y4), .val (.int (2 : Int32)), .val (.int (Int32.ofNat ka)), .val (.int (Int32.ofNat kb)), .val (.int (Int32.ofNat kc)), .val (.int (Int32.ofNat kd)), .val (.ref a), .unset, .unset, .unset, .unset, .unset, .unset, .unset] []) := by
  refine i_iconst w at_47 (z := (0 : Int32)) (by decide) (pc' := 48) rfl ?_
  refine i_iload w at_48 rfl (pc' := 50) rfl ?_
  refine i_bipush w at_50 (z := (123 : Int32)) (by decide) (pc' := 52) rfl ?_
  refine i_iload w at_52 rfl (pc' := 54) rfl ?_
  refine i_iload w at_54 rfl (pc' := 56) rfl ?_
  refine i_iload w at_56 rfl (pc' := 58) rfl ?_
  refine i_iload w at_58 rfl (pc' := 60) rfl ?_
  refine c_static w (y := (⟨"com/example/cluster_lock/clusterlock/redis/LockKeysHashTagPinLaw", "is", "(IICCCCC)Z"⟩ : MethodName)) (argsL := [(.int (0 : Int32)), (.int (2 : Int32)), (.int (123 : Int32)), (.int (Int32.ofNat ka)), (.int (Int32.ofNat kb)), (.int (Int32.ofNat kc)), (.int (Int32.ofNat kd))]) (st := []) at_60 (hw _ (List.mem_of_getElem? (i := 37) rfl)) (hw _ (List.mem_of_getElem? (i := 38) rfl)) (hw _ (List.mem_of_getElem? (i := 2) rfl)) (hw _ (List.mem_of_getElem? (i := 39) rfl)) (by decide) own_pd_pIICCCCCqZ rfl (own_is l Z a0 hw 0 2 123 ka kb kc kd h n0 w.old (by decide) (by decide) (by decide) hka hkb hkc hkd) rfl (by decide) (W := 0) (Nat.le_of_eq rfl) (by decide) (by decide) (by decide) (fun _ q => nomatch q) (pc' := 63) rfl ?_
  intro v223 T223 h223 w223 K223 q223
  obtain ⟨rfl, rfl⟩ := q223
  show Goes p e below _ T223 (mkF m 63 #[.val (.int y0), .val (.int y1), .val (.int y2), .val (.int y3), .val (.int y4), .val (.int (2 : Int32)), .val (.int (Int32.ofNat ka)), .val (.int (Int32.ofNat kb)), .val (.int (Int32.ofNat kc)), .val (.int (Int32.ofNat kd)), .val (.ref a), .unset, .unset, .unset, .unset, .unset, .unset, .unset] [(.int (if 0 < 2 ∧ own_atN 0 ka kb kc kd = 123 then 1 else 0))])
  by_cases qo0 : ka = 123
  ·
    rw [show (if 0 < 2 ∧ own_atN 0 ka kb kc kd = 123 then 1 else 0) = (1 : Int32) from (by simp [own_atN, qo0])]
    show Goes p e below _ T223 (mkF m 63 #[.val (.int y0), .val (.int y1), .val (.int y2), .val (.int y3), .val (.int y4), .val (.int (2 : Int32)), .val (.int (Int32.ofNat ka)), .val (.int (Int32.ofNat kb)), .val (.int (Int32.ofNat kc)), .val (.int (Int32.ofNat kd)), .val (.ref a), .unset, .unset, .unset, .unset, .unset, .unset, .unset] [(.int (1 : Int32))])
    refine i_if_eq_N w223 (by decide) at_63 (pc' := 66) rfl ?_
    refine i_iconst w223 at_66 (z := (0 : Int32)) (by decide) (pc' := 67) rfl ?_
    refine i_goto w223 at_67 (pc' := 140) (by decide) ?_
    refine i_istore w223 at_140 (l' := #[.val (.int y0), .val (.int y1), .val (.int y2), .val (.int y3), .val (.int y4), .val (.int (2 : Int32)), .val (.int (Int32.ofNat ka)), .val (.int (Int32.ofNat kb)), .val (.int (Int32.ofNat kc)), .val (.int (Int32.ofNat kd)), .val (.ref a), .val (.int (0 : Int32)), .unset, .unset, .unset, .unset, .unset, .unset]) rfl (pc' := 142) rfl ?_
    refine i_iload w223 at_142 rfl (pc' := 144) rfl ?_
    refine i_iconst w223 at_144 (z := (1 : Int32)) (by decide) (pc' := 145) rfl ?_
    refine i_iadd w223 at_145 (pc' := 146) rfl ?_
    rw [show ((0 : Int32) + (1 : Int32)) = (1 : Int32) from by decide]
    show Goes p e below _ T223 (mkF m 146 #[.val (.int y0), .val (.int y1), .val (.int y2), .val (.int y3), .val (.int y4), .val (.int (2 : Int32)), .val (.int (Int32.ofNat ka)), .val (.int (Int32.ofNat kb)), .val (.int (Int32.ofNat kc)), .val (.int (Int32.ofNat kd)), .val (.ref a), .val (.int (0 : Int32)), .unset, .unset, .unset, .unset, .unset, .unset] [(.int (1 : Int32))])
    refine i_istore w223 at_146 (l' := #[.val (.int y0), .val (.int y1), .val (.int y2), .val (.int y3), .val (.int y4), .val (.int (2 : Int32)), .val (.int (Int32.ofNat ka)), .val (.int (Int32.ofNat kb)), .val (.int (Int32.ofNat kc)), .val (.int (Int32.ofNat kd)), .val (.ref a), .val (.int (0 : Int32)), .val (.int (1 : Int32)), .unset, .unset, .unset, .unset, .unset]) rfl (pc' := 148) rfl ?_
    refine i_iload w223 at_148 rfl (pc' := 150) rfl ?_
    refine i_if_gt_Y w223 (by decide) at_150 (pc' := 176) (by decide) ?_
    refine i_iload w223 at_176 rfl (pc' := 178) rfl ?_
    refine i_iconst w223 at_178 (z := (1 : Int32)) (by decide) (pc' := 179) rfl ?_
    refine i_icmp_gt_N w223 (by decide) at_179 (pc' := 182) rfl ?_
    refine i_iconst w223 at_182 (z := (1 : Int32)) (by decide) (pc' := 183) rfl ?_
    refine i_iload w223 at_183 rfl (pc' := 185) rfl ?_
    refine i_bipush w223 at_185 (z := (125 : Int32)) (by decide) (pc' := 187) rfl ?_
    refine i_iload w223 at_187 rfl (pc' := 189) rfl ?_
    refine i_iload w223 at_189 rfl (pc' := 191) rfl ?_
    refine i_iload w223 at_191 rfl (pc' := 193) rfl ?_
    refine i_iload w223 at_193 rfl (pc' := 195) rfl ?_
    refine c_static w223 (y := (⟨"com/example/cluster_lock/clusterlock/redis/LockKeysHashTagPinLaw", "is", "(IICCCCC)Z"⟩ : MethodName)) (argsL := [(.int (1 : Int32)), (.int (2 : Int32)), (.int (125 : Int32)), (.int (Int32.ofNat ka)), (.int (Int32.ofNat kb)), (.int (Int32.ofNat kc)), (.int (Int32.ofNat kd))]) (st := []) at_195 (hw _ (List.mem_of_getElem? (i := 37) rfl)) (hw _ (List.mem_of_getElem? (i := 38) rfl)) (hw _ (List.mem_of_getElem? (i := 2) rfl)) (hw _ (List.mem_of_getElem? (i := 39) rfl)) (by decide) own_pd_pIICCCCCqZ rfl (own_is l Z a0 hw 1 2 125 ka kb kc kd h n0 w223.old (by decide) (by decide) (by decide) hka hkb hkc hkd) rfl (by decide) (W := 0) (Nat.le_of_eq rfl) (by decide) (by decide) (by decide) (fun _ q => nomatch q) (pc' := 198) rfl ?_
    intro v224 T224 h224 w224 K224 q224
    obtain ⟨rfl, rfl⟩ := q224
    show Goes p e below _ T224 (mkF m 198 #[.val (.int y0), .val (.int y1), .val (.int y2), .val (.int y3), .val (.int y4), .val (.int (2 : Int32)), .val (.int (Int32.ofNat ka)), .val (.int (Int32.ofNat kb)), .val (.int (Int32.ofNat kc)), .val (.int (Int32.ofNat kd)), .val (.ref a), .val (.int (0 : Int32)), .val (.int (1 : Int32)), .unset, .unset, .unset, .unset, .unset] [(.int (if 1 < 2 ∧ own_atN 1 ka kb kc kd = 125 then 1 else 0))])
    by_cases qc1 : kb = 125
    ·
      rw [show (if 1 < 2 ∧ own_atN 1 ka kb kc kd = 125 then 1 else 0) = (1 : Int32) from (by simp [own_atN, qc1])]
      show Goes p e below _ T224 (mkF m 198 #[.val (.int y0), .val (.int y1), .val (.int y2), .val (.int y3), .val (.int y4), .val (.int (2 : Int32)), .val (.int (Int32.ofNat ka)), .val (.int (Int32.ofNat kb)), .val (.int (Int32.ofNat kc)), .val (.int (Int32.ofNat kd)), .val (.ref a), .val (.int (0 : Int32)), .val (.int (1 : Int32)), .unset, .unset, .unset, .unset, .unset] [(.int (1 : Int32))])
      refine i_if_eq_N w224 (by decide) at_198 (pc' := 201) rfl ?_
      refine i_iconst w224 at_201 (z := (1 : Int32)) (by decide) (pc' := 202) rfl ?_
      refine i_goto w224 at_202 (pc' := 264) (by decide) ?_
      refine i_istore w224 at_264 (l' := #[.val (.int y0), .val (.int y1), .val (.int y2), .val (.int y3), .val (.int y4), .val (.int (2 : Int32)), .val (.int (Int32.ofNat ka)), .val (.int (Int32.ofNat kb)), .val (.int (Int32.ofNat kc)), .val (.int (Int32.ofNat kd)), .val (.ref a), .val (.int (0 : Int32)), .val (.int (1 : Int32)), .val (.int (1 : Int32)), .unset, .unset, .unset, .unset]) rfl (pc' := 266) rfl ?_
      refine i_iload w224 at_266 rfl (pc' := 268) rfl ?_
      refine i_if_lt_N w224 (by decide) at_268 (pc' := 271) rfl ?_
      refine i_iload w224 at_271 rfl (pc' := 273) rfl ?_
      refine i_iload w224 at_273 rfl (pc' := 275) rfl ?_
      refine i_iconst w224 at_275 (z := (1 : Int32)) (by decide) (pc' := 276) rfl ?_
      refine i_iadd w224 at_276 (pc' := 277) rfl ?_
      refine i_icmp_le_Y w224 (by decide) at_277 (pc' := 293) (by decide) ?_
      refine i_iconst w224 at_293 (z := (0 : Int32)) (by decide) (pc' := 294) rfl ?_
      refine i_istore w224 at_294 (l' := #[.val (.int y0), .val (.int y1), .val (.int y2), .val (.int y3), .val (.int y4), .val (.int (2 : Int32)), .val (.int (Int32.ofNat ka)), .val (.int (Int32.ofNat kb)), .val (.int (Int32.ofNat kc)), .val (.int (Int32.ofNat kd)), .val (.ref a), .val (.int (0 : Int32)), .val (.int (1 : Int32)), .val (.int (1 : Int32)), .val (.int (0 : Int32)), .unset, .unset, .unset]) rfl (pc' := 296) rfl ?_
      refine i_iload w224 at_296 rfl (pc' := 298) rfl ?_
      refine i_istore w224 at_298 (l' := #[.val (.int y0), .val (.int y1), .val (.int y2), .val (.int y3), .val (.int y4), .val (.int (2 : Int32)), .val (.int (Int32.ofNat ka)), .val (.int (Int32.ofNat kb)), .val (.int (Int32.ofNat kc)), .val (.int (Int32.ofNat kd)), .val (.ref a), .val (.int (0 : Int32)), .val (.int (1 : Int32)), .val (.int (1 : Int32)), .val (.int (0 : Int32)), .val (.int (2 : Int32)), .unset, .unset]) rfl (pc' := 300) rfl ?_
      exact own_t2_0_2 l Z a0 hw ka kb kc kd hka hkb hkc hkd y0 y1 y2 y3 y4 a t ct (0 : Int32) (1 : Int32) (1 : Int32) 1 G1 hG SG G3 hG3 SF h0 n0 (w224.mono (by decide) (by decide)) hS (Nat.le_trans (Nat.le_trans hkS K223.1) K224.1) S (by decide) (by simp [ixv, ixN, qo0, qc1]) (by decide) (by simp [ixv, ixN, qo0, qc1]) (Or.inr ⟨by decide, by decide⟩)
    ·
      rw [show (if 1 < 2 ∧ own_atN 1 ka kb kc kd = 125 then 1 else 0) = (0 : Int32) from (by simp [own_atN, qc1])]
      show Goes p e below _ T224 (mkF m 198 #[.val (.int y0), .val (.int y1), .val (.int y2), .val (.int y3), .val (.int y4), .val (.int (2 : Int32)), .val (.int (Int32.ofNat ka)), .val (.int (Int32.ofNat kb)), .val (.int (Int32.ofNat kc)), .val (.int (Int32.ofNat kd)), .val (.ref a), .val (.int (0 : Int32)), .val (.int (1 : Int32)), .unset, .unset, .unset, .unset, .unset] [(.int (0 : Int32))])
      refine i_if_eq_Y w224 rfl at_198 (pc' := 205) (by decide) ?_
      refine i_iload w224 at_205 rfl (pc' := 207) rfl ?_
      refine i_iconst w224 at_207 (z := (2 : Int32)) (by decide) (pc' := 208) rfl ?_
      refine i_icmp_gt_N w224 (by decide) at_208 (pc' := 211) rfl ?_
      refine i_iconst w224 at_211 (z := (2 : Int32)) (by decide) (pc' := 212) rfl ?_
      refine i_iload w224 at_212 rfl (pc' := 214) rfl ?_
      refine i_bipush w224 at_214 (z := (125 : Int32)) (by decide) (pc' := 216) rfl ?_
      refine i_iload w224 at_216 rfl (pc' := 218) rfl ?_
      refine i_iload w224 at_218 rfl (pc' := 220) rfl ?_
      refine i_iload w224 at_220 rfl (pc' := 222) rfl ?_
      refine i_iload w224 at_222 rfl (pc' := 224) rfl ?_
      refine c_static w224 (y := (⟨"com/example/cluster_lock/clusterlock/redis/LockKeysHashTagPinLaw", "is", "(IICCCCC)Z"⟩ : MethodName)) (argsL := [(.int (2 : Int32)), (.int (2 : Int32)), (.int (125 : Int32)), (.int (Int32.ofNat ka)), (.int (Int32.ofNat kb)), (.int (Int32.ofNat kc)), (.int (Int32.ofNat kd))]) (st := []) at_224 (hw _ (List.mem_of_getElem? (i := 37) rfl)) (hw _ (List.mem_of_getElem? (i := 38) rfl)) (hw _ (List.mem_of_getElem? (i := 2) rfl)) (hw _ (List.mem_of_getElem? (i := 39) rfl)) (by decide) own_pd_pIICCCCCqZ rfl (own_is l Z a0 hw 2 2 125 ka kb kc kd h n0 w224.old (by decide) (by decide) (by decide) hka hkb hkc hkd) rfl (by decide) (W := 0) (Nat.le_of_eq rfl) (by decide) (by decide) (by decide) (fun _ q => nomatch q) (pc' := 227) rfl ?_
      intro v225 T225 h225 w225 K225 q225
      obtain ⟨rfl, rfl⟩ := q225
      show Goes p e below _ T225 (mkF m 227 #[.val (.int y0), .val (.int y1), .val (.int y2), .val (.int y3), .val (.int y4), .val (.int (2 : Int32)), .val (.int (Int32.ofNat ka)), .val (.int (Int32.ofNat kb)), .val (.int (Int32.ofNat kc)), .val (.int (Int32.ofNat kd)), .val (.ref a), .val (.int (0 : Int32)), .val (.int (1 : Int32)), .unset, .unset, .unset, .unset, .unset] [(.int (if 2 < 2 ∧ own_atN 2 ka kb kc kd = 125 then 1 else 0))])
      rw [show (if 2 < 2 ∧ own_atN 2 ka kb kc kd = 125 then 1 else 0) = (0 : Int32) from (by simp)]
      show Goes p e below _ T225 (mkF m 227 #[.val (.int y0), .val (.int y1), .val (.int y2), .val (.int y3), .val (.int y4), .val (.int (2 : Int32)), .val (.int (Int32.ofNat ka)), .val (.int (Int32.ofNat kb)), .val (.int (Int32.ofNat kc)), .val (.int (Int32.ofNat kd)), .val (.ref a), .val (.int (0 : Int32)), .val (.int (1 : Int32)), .unset, .unset, .unset, .unset, .unset] [(.int (0 : Int32))])
      refine i_if_eq_Y w225 rfl at_227 (pc' := 234) (by decide) ?_
      refine i_iload w225 at_234 rfl (pc' := 236) rfl ?_
      refine i_iconst w225 at_236 (z := (3 : Int32)) (by decide) (pc' := 237) rfl ?_
      refine i_icmp_gt_N w225 (by decide) at_237 (pc' := 240) rfl ?_
      refine i_iconst w225 at_240 (z := (3 : Int32)) (by decide) (pc' := 241) rfl ?_
      refine i_iload w225 at_241 rfl (pc' := 243) rfl ?_
      refine i_bipush w225 at_243 (z := (125 : Int32)) (by decide) (pc' := 245) rfl ?_
      refine i_iload w225 at_245 rfl (pc' := 247) rfl ?_
      refine i_iload w225 at_247 rfl (pc' := 249) rfl ?_
      refine i_iload w225 at_249 rfl (pc' := 251) rfl ?_
      refine i_iload w225 at_251 rfl (pc' := 253) rfl ?_
      refine c_static w225 (y := (⟨"com/example/cluster_lock/clusterlock/redis/LockKeysHashTagPinLaw", "is", "(IICCCCC)Z"⟩ : MethodName)) (argsL := [(.int (3 : Int32)), (.int (2 : Int32)), (.int (125 : Int32)), (.int (Int32.ofNat ka)), (.int (Int32.ofNat kb)), (.int (Int32.ofNat kc)), (.int (Int32.ofNat kd))]) (st := []) at_253 (hw _ (List.mem_of_getElem? (i := 37) rfl)) (hw _ (List.mem_of_getElem? (i := 38) rfl)) (hw _ (List.mem_of_getElem? (i := 2) rfl)) (hw _ (List.mem_of_getElem? (i := 39) rfl)) (by decide) own_pd_pIICCCCCqZ rfl (own_is l Z a0 hw 3 2 125 ka kb kc kd h n0 w225.old (by decide) (by decide) (by decide) hka hkb hkc hkd) rfl (by decide) (W := 0) (Nat.le_of_eq rfl) (by decide) (by decide) (by decide) (fun _ q => nomatch q) (pc' := 256) rfl ?_
      intro v226 T226 h226 w226 K226 q226
      obtain ⟨rfl, rfl⟩ := q226
      show Goes p e below _ T226 (mkF m 256 #[.val (.int y0), .val (.int y1), .val (.int y2), .val (.int y3), .val (.int y4), .val (.int (2 : Int32)), .val (.int (Int32.ofNat ka)), .val (.int (Int32.ofNat kb)), .val (.int (Int32.ofNat kc)), .val (.int (Int32.ofNat kd)), .val (.ref a), .val (.int (0 : Int32)), .val (.int (1 : Int32)), .unset, .unset, .unset, .unset, .unset] [(.int (if 3 < 2 ∧ own_atN 3 ka kb kc kd = 125 then 1 else 0))])
      rw [show (if 3 < 2 ∧ own_atN 3 ka kb kc kd = 125 then 1 else 0) = (0 : Int32) from (by simp)]
      show Goes p e below _ T226 (mkF m 256 #[.val (.int y0), .val (.int y1), .val (.int y2), .val (.int y3), .val (.int y4), .val (.int (2 : Int32)), .val (.int (Int32.ofNat ka)), .val (.int (Int32.ofNat kb)), .val (.int (Int32.ofNat kc)), .val (.int (Int32.ofNat kd)), .val (.ref a), .val (.int (0 : Int32)), .val (.int (1 : Int32)), .unset, .unset, .unset, .unset, .unset] [(.int (0 : Int32))])
      refine i_if_eq_Y w226 rfl at_256 (pc' := 263) (by decide) ?_
      refine i_iconst w226 at_263 (z := (-1 : Int32)) (by decide) (pc' := 264) rfl ?_
      refine i_istore w226 at_264 (l' := #[.val (.int y0), .val (.int y1), .val (.int y2), .val (.int y3), .val (.int y4), .val (.int (2 : Int32)), .val (.int (Int32.ofNat ka)), .val (.int (Int32.ofNat kb)), .val (.int (Int32.ofNat kc)), .val (.int (Int32.ofNat kd)), .val (.ref a), .val (.int (0 : Int32)), .val (.int (1 : Int32)), .val (.int (-1 : Int32)), .unset, .unset, .unset, .unset]) rfl (pc' := 266) rfl ?_
      refine i_iload w226 at_266 rfl (pc' := 268) rfl ?_
      refine i_if_lt_N w226 (by decide) at_268 (pc' := 271) rfl ?_
      refine i_iload w226 at_271 rfl (pc' := 273) rfl ?_
      refine i_iload w226 at_273 rfl (pc' := 275) rfl ?_
      refine i_iconst w226 at_275 (z := (1 : Int32)) (by decide) (pc' := 276) rfl ?_
      refine i_iadd w226 at_276 (pc' := 277) rfl ?_
      refine i_icmp_le_Y w226 (by decide) at_277 (pc' := 293) (by decide) ?_
      refine i_iconst w226 at_293 (z := (0 : Int32)) (by decide) (pc' := 294) rfl ?_
      refine i_istore w226 at_294 (l' := #[.val (.int y0), .val (.int y1), .val (.int y2), .val (.int y3), .val (.int y4), .val (.int (2 : Int32)), .val (.int (Int32.ofNat ka)), .val (.int (Int32.ofNat kb)), .val (.int (Int32.ofNat kc)), .val (.int (Int32.ofNat kd)), .val (.ref a), .val (.int (0 : Int32)), .val (.int (1 : Int32)), .val (.int (-1 : Int32)), .val (.int (0 : Int32)), .unset, .unset, .unset]) rfl (pc' := 296) rfl ?_
      refine i_iload w226 at_296 rfl (pc' := 298) rfl ?_
      refine i_istore w226 at_298 (l' := #[.val (.int y0), .val (.int y1), .val (.int y2), .val (.int y3), .val (.int y4), .val (.int (2 : Int32)), .val (.int (Int32.ofNat ka)), .val (.int (Int32.ofNat kb)), .val (.int (Int32.ofNat kc)), .val (.int (Int32.ofNat kd)), .val (.ref a), .val (.int (0 : Int32)), .val (.int (1 : Int32)), .val (.int (-1 : Int32)), .val (.int (0 : Int32)), .val (.int (2 : Int32)), .unset, .unset]) rfl (pc' := 300) rfl ?_
      exact own_t2_0_2 l Z a0 hw ka kb kc kd hka hkb hkc hkd y0 y1 y2 y3 y4 a t ct (0 : Int32) (1 : Int32) (-1 : Int32) 1 G1 hG SG G3 hG3 SF h0 n0 (w226.mono (by decide) (by decide)) hS (Nat.le_trans (Nat.le_trans (Nat.le_trans (Nat.le_trans hkS K223.1) K224.1) K225.1) K226.1) S (by decide) (by simp [ixv, ixN, qo0, qc1]) (by decide) (by simp [ixv, ixN, qo0, qc1]) (Or.inr ⟨by decide, by decide⟩)
  ·
    rw [show (if 0 < 2 ∧ own_atN 0 ka kb kc kd = 123 then 1 else 0) = (0 : Int32) from (by simp [own_atN, qo0])]
    show Goes p e below _ T223 (mkF m 63 #[.val (.int y0), .val (.int y1), .val (.int y2), .val (.int y3), .val (.int y4), .val (.int (2 : Int32)), .val (.int (Int32.ofNat ka)), .val (.int (Int32.ofNat kb)), .val (.int (Int32.ofNat kc)), .val (.int (Int32.ofNat kd)), .val (.ref a), .unset, .unset, .unset, .unset, .unset, .unset, .unset] [(.int (0 : Int32))])
    refine i_if_eq_Y w223 rfl at_63 (pc' := 70) (by decide) ?_
    refine i_iconst w223 at_70 (z := (1 : Int32)) (by decide) (pc' := 71) rfl ?_
    refine i_iload w223 at_71 rfl (pc' := 73) rfl ?_
    refine i_bipush w223 at_73 (z := (123 : Int32)) (by decide) (pc' := 75) rfl ?_
    refine i_iload w223 at_75 rfl (pc' := 77) rfl ?_
    refine i_iload w223 at_77 rfl (pc' := 79) rfl ?_
    refine i_iload w223 at_79 rfl (pc' := 81) rfl ?_
    refine i_iload w223 at_81 rfl (pc' := 83) rfl ?_
    refine c_static w223 (y := (⟨"com/example/cluster_lock/clusterlock/redis/LockKeysHashTagPinLaw", "is", "(IICCCCC)Z"⟩ : MethodName)) (argsL := [(.int (1 : Int32)), (.int (2 : Int32)), (.int (123 : Int32)), (.int (Int32.ofNat ka)), (.int (Int32.ofNat kb)), (.int (Int32.ofNat kc)), (.int (Int32.ofNat kd))]) (st := []) at_83 (hw _ (List.mem_of_getElem? (i := 37) rfl)) (hw _ (List.mem_of_getElem? (i := 38) rfl)) (hw _ (List.mem_of_getElem? (i := 2) rfl)) (hw _ (List.mem_of_getElem? (i := 39) rfl)) (by decide) own_pd_pIICCCCCqZ rfl (own_is l Z a0 hw 1 2 123 ka kb kc kd h n0 w223.old (by decide) (by decide) (by decide) hka hkb hkc hkd) rfl (by decide) (W := 0) (Nat.le_of_eq rfl) (by decide) (by decide) (by decide) (fun _ q => nomatch q) (pc' := 86) rfl ?_
    intro v227 T227 h227 w227 K227 q227
    obtain ⟨rfl, rfl⟩ := q227
    show Goes p e below _ T227 (mkF m 86 #[.val (.int y0), .val (.int y1), .val (.int y2), .val (.int y3), .val (.int y4), .val (.int (2 : Int32)), .val (.int (Int32.ofNat ka)), .val (.int (Int32.ofNat kb)), .val (.int (Int32.ofNat kc)), .val (.int (Int32.ofNat kd)), .val (.ref a), .unset, .unset, .unset, .unset, .unset, .unset, .unset] [(.int (if 1 < 2 ∧ own_atN 1 ka kb kc kd = 123 then 1 else 0))])
    by_cases qo1 : kb = 123
    ·
      rw [show (if 1 < 2 ∧ own_atN 1 ka kb kc kd = 123 then 1 else 0) = (1 : Int32) from (by simp [own_atN, qo1])]
      show Goes p e below _ T227 (mkF m 86 #[.val (.int y0), .val (.int y1), .val (.int y2), .val (.int y3), .val (.int y4), .val (.int (2 : Int32)), .val (.int (Int32.ofNat ka)), .val (.int (Int32.ofNat kb)), .val (.int (Int32.ofNat kc)), .val (.int (Int32.ofNat kd)), .val (.ref a), .unset, .unset, .unset, .unset, .unset, .unset, .unset] [(.int (1 : Int32))])
      refine i_if_eq_N w227 (by decide) at_86 (pc' := 89) rfl ?_
      refine i_iconst w227 at_89 (z := (1 : Int32)) (by decide) (pc' := 90) rfl ?_
      refine i_goto w227 at_90 (pc' := 140) (by decide) ?_
      refine i_istore w227 at_140 (l' := #[.val (.int y0), .val (.int y1), .val (.int y2), .val (.int y3), .val (.int y4), .val (.int (2 : Int32)), .val (.int (Int32.ofNat ka)), .val (.int (Int32.ofNat kb)), .val (.int (Int32.ofNat kc)), .val (.int (Int32.ofNat kd)), .val (.ref a), .val (.int (1 : Int32)), .unset, .unset, .unset, .unset, .unset, .unset]) rfl (pc' := 142) rfl ?_
      refine i_iload w227 at_142 rfl (pc' := 144) rfl ?_
      refine i_iconst w227 at_144 (z := (1 : Int32)) (by decide) (pc' := 145) rfl ?_
      refine i_iadd w227 at_145 (pc' := 146) rfl ?_
      rw [show ((1 : Int32) + (1 : Int32)) = (2 : Int32) from by decide]
      show Goes p e below _ T227 (mkF m 146 #[.val (.int y0), .val (.int y1), .val (.int y2), .val (.int y3), .val (.int y4), .val (.int (2 : Int32)), .val (.int (Int32.ofNat ka)), .val (.int (Int32.ofNat kb)), .val (.int (Int32.ofNat kc)), .val (.int (Int32.ofNat kd)), .val (.ref a), .val (.int (1 : Int32)), .unset, .unset, .unset, .unset, .unset, .unset] [(.int (2 : Int32))])
      refine i_istore w227 at_146 (l' := #[.val (.int y0), .val (.int y1), .val (.int y2), .val (.int y3), .val (.int y4), .val (.int (2 : Int32)), .val (.int (Int32.ofNat ka)), .val (.int (Int32.ofNat kb)), .val (.int (Int32.ofNat kc)), .val (.int (Int32.ofNat kd)), .val (.ref a), .val (.int (1 : Int32)), .val (.int (2 : Int32)), .unset, .unset, .unset, .unset, .unset]) rfl (pc' := 148) rfl ?_
      refine i_iload w227 at_148 rfl (pc' := 150) rfl ?_
      refine i_if_gt_Y w227 (by decide) at_150 (pc' := 176) (by decide) ?_
      refine i_iload w227 at_176 rfl (pc' := 178) rfl ?_
      refine i_iconst w227 at_178 (z := (1 : Int32)) (by decide) (pc' := 179) rfl ?_
      refine i_icmp_gt_Y w227 (by decide) at_179 (pc' := 205) (by decide) ?_
      refine i_iload w227 at_205 rfl (pc' := 207) rfl ?_
      refine i_iconst w227 at_207 (z := (2 : Int32)) (by decide) (pc' := 208) rfl ?_
      refine i_icmp_gt_N w227 (by decide) at_208 (pc' := 211) rfl ?_
      refine i_iconst w227 at_211 (z := (2 : Int32)) (by decide) (pc' := 212) rfl ?_
      refine i_iload w227 at_212 rfl (pc' := 214) rfl ?_
      refine i_bipush w227 at_214 (z := (125 : Int32)) (by decide) (pc' := 216) rfl ?_
      refine i_iload w227 at_216 rfl (pc' := 218) rfl ?_
      refine i_iload w227 at_218 rfl (pc' := 220) rfl ?_
      refine i_iload w227 at_220 rfl (pc' := 222) rfl ?_
      refine i_iload w227 at_222 rfl (pc' := 224) rfl ?_
      refine c_static w227 (y := (⟨"com/example/cluster_lock/clusterlock/redis/LockKeysHashTagPinLaw", "is", "(IICCCCC)Z"⟩ : MethodName)) (argsL := [(.int (2 : Int32)), (.int (2 : Int32)), (.int (125 : Int32)), (.int (Int32.ofNat ka)), (.int (Int32.ofNat kb)), (.int (Int32.ofNat kc)), (.int (Int32.ofNat kd))]) (st := []) at_224 (hw _ (List.mem_of_getElem? (i := 37) rfl)) (hw _ (List.mem_of_getElem? (i := 38) rfl)) (hw _ (List.mem_of_getElem? (i := 2) rfl)) (hw _ (List.mem_of_getElem? (i := 39) rfl)) (by decide) own_pd_pIICCCCCqZ rfl (own_is l Z a0 hw 2 2 125 ka kb kc kd h n0 w227.old (by decide) (by decide) (by decide) hka hkb hkc hkd) rfl (by decide) (W := 0) (Nat.le_of_eq rfl) (by decide) (by decide) (by decide) (fun _ q => nomatch q) (pc' := 227) rfl ?_
      intro v228 T228 h228 w228 K228 q228
      obtain ⟨rfl, rfl⟩ := q228
      show Goes p e below _ T228 (mkF m 227 #[.val (.int y0), .val (.int y1), .val (.int y2), .val (.int y3), .val (.int y4), .val (.int (2 : Int32)), .val (.int (Int32.ofNat ka)), .val (.int (Int32.ofNat kb)), .val (.int (Int32.ofNat kc)), .val (.int (Int32.ofNat kd)), .val (.ref a), .val (.int (1 : Int32)), .val (.int (2 : Int32)), .unset, .unset, .unset, .unset, .unset] [(.int (if 2 < 2 ∧ own_atN 2 ka kb kc kd = 125 then 1 else 0))])
      rw [show (if 2 < 2 ∧ own_atN 2 ka kb kc kd = 125 then 1 else 0) = (0 : Int32) from (by simp)]
      show Goes p e below _ T228 (mkF m 227 #[.val (.int y0), .val (.int y1), .val (.int y2), .val (.int y3), .val (.int y4), .val (.int (2 : Int32)), .val (.int (Int32.ofNat ka)), .val (.int (Int32.ofNat kb)), .val (.int (Int32.ofNat kc)), .val (.int (Int32.ofNat kd)), .val (.ref a), .val (.int (1 : Int32)), .val (.int (2 : Int32)), .unset, .unset, .unset, .unset, .unset] [(.int (0 : Int32))])
      refine i_if_eq_Y w228 rfl at_227 (pc' := 234) (by decide) ?_
      refine i_iload w228 at_234 rfl (pc' := 236) rfl ?_
      refine i_iconst w228 at_236 (z := (3 : Int32)) (by decide) (pc' := 237) rfl ?_
      refine i_icmp_gt_N w228 (by decide) at_237 (pc' := 240) rfl ?_
      refine i_iconst w228 at_240 (z := (3 : Int32)) (by decide) (pc' := 241) rfl ?_
      refine i_iload w228 at_241 rfl (pc' := 243) rfl ?_
      refine i_bipush w228 at_243 (z := (125 : Int32)) (by decide) (pc' := 245) rfl ?_
      refine i_iload w228 at_245 rfl (pc' := 247) rfl ?_
      refine i_iload w228 at_247 rfl (pc' := 249) rfl ?_
      refine i_iload w228 at_249 rfl (pc' := 251) rfl ?_
      refine i_iload w228 at_251 rfl (pc' := 253) rfl ?_
      refine c_static w228 (y := (⟨"com/example/cluster_lock/clusterlock/redis/LockKeysHashTagPinLaw", "is", "(IICCCCC)Z"⟩ : MethodName)) (argsL := [(.int (3 : Int32)), (.int (2 : Int32)), (.int (125 : Int32)), (.int (Int32.ofNat ka)), (.int (Int32.ofNat kb)), (.int (Int32.ofNat kc)), (.int (Int32.ofNat kd))]) (st := []) at_253 (hw _ (List.mem_of_getElem? (i := 37) rfl)) (hw _ (List.mem_of_getElem? (i := 38) rfl)) (hw _ (List.mem_of_getElem? (i := 2) rfl)) (hw _ (List.mem_of_getElem? (i := 39) rfl)) (by decide) own_pd_pIICCCCCqZ rfl (own_is l Z a0 hw 3 2 125 ka kb kc kd h n0 w228.old (by decide) (by decide) (by decide) hka hkb hkc hkd) rfl (by decide) (W := 0) (Nat.le_of_eq rfl) (by decide) (by decide) (by decide) (fun _ q => nomatch q) (pc' := 256) rfl ?_
      intro v229 T229 h229 w229 K229 q229
      obtain ⟨rfl, rfl⟩ := q229
      show Goes p e below _ T229 (mkF m 256 #[.val (.int y0), .val (.int y1), .val (.int y2), .val (.int y3), .val (.int y4), .val (.int (2 : Int32)), .val (.int (Int32.ofNat ka)), .val (.int (Int32.ofNat kb)), .val (.int (Int32.ofNat kc)), .val (.int (Int32.ofNat kd)), .val (.ref a), .val (.int (1 : Int32)), .val (.int (2 : Int32)), .unset, .unset, .unset, .unset, .unset] [(.int (if 3 < 2 ∧ own_atN 3 ka kb kc kd = 125 then 1 else 0))])
      rw [show (if 3 < 2 ∧ own_atN 3 ka kb kc kd = 125 then 1 else 0) = (0 : Int32) from (by simp)]
      show Goes p e below _ T229 (mkF m 256 #[.val (.int y0), .val (.int y1), .val (.int y2), .val (.int y3), .val (.int y4), .val (.int (2 : Int32)), .val (.int (Int32.ofNat ka)), .val (.int (Int32.ofNat kb)), .val (.int (Int32.ofNat kc)), .val (.int (Int32.ofNat kd)), .val (.ref a), .val (.int (1 : Int32)), .val (.int (2 : Int32)), .unset, .unset, .unset, .unset, .unset] [(.int (0 : Int32))])
      refine i_if_eq_Y w229 rfl at_256 (pc' := 263) (by decide) ?_
      refine i_iconst w229 at_263 (z := (-1 : Int32)) (by decide) (pc' := 264) rfl ?_
      refine i_istore w229 at_264 (l' := #[.val (.int y0), .val (.int y1), .val (.int y2), .val (.int y3), .val (.int y4), .val (.int (2 : Int32)), .val (.int (Int32.ofNat ka)), .val (.int (Int32.ofNat kb)), .val (.int (Int32.ofNat kc)), .val (.int (Int32.ofNat kd)), .val (.ref a), .val (.int (1 : Int32)), .val (.int (2 : Int32)), .val (.int (-1 : Int32)), .unset, .unset, .unset, .unset]) rfl (pc' := 266) rfl ?_
      refine i_iload w229 at_266 rfl (pc' := 268) rfl ?_
      refine i_if_lt_N w229 (by decide) at_268 (pc' := 271) rfl ?_
      refine i_iload w229 at_271 rfl (pc' := 273) rfl ?_
      refine i_iload w229 at_273 rfl (pc' := 275) rfl ?_
      refine i_iconst w229 at_275 (z := (1 : Int32)) (by decide) (pc' := 276) rfl ?_
      refine i_iadd w229 at_276 (pc' := 277) rfl ?_
      refine i_icmp_le_Y w229 (by decide) at_277 (pc' := 293) (by decide) ?_
      refine i_iconst w229 at_293 (z := (0 : Int32)) (by decide) (pc' := 294) rfl ?_
      refine i_istore w229 at_294 (l' := #[.val (.int y0), .val (.int y1), .val (.int y2), .val (.int y3), .val (.int y4), .val (.int (2 : Int32)), .val (.int (Int32.ofNat ka)), .val (.int (Int32.ofNat kb)), .val (.int (Int32.ofNat kc)), .val (.int (Int32.ofNat kd)), .val (.ref a), .val (.int (1 : Int32)), .val (.int (2 : Int32)), .val (.int (-1 : Int32)), .val (.int (0 : Int32)), .unset, .unset, .unset]) rfl (pc' := 296) rfl ?_
      refine i_iload w229 at_296 rfl (pc' := 298) rfl ?_
      refine i_istore w229 at_298 (l' := #[.val (.int y0), .val (.int y1), .val (.int y2), .val (.int y3), .val (.int y4), .val (.int (2 : Int32)), .val (.int (Int32.ofNat ka)), .val (.int (Int32.ofNat kb)), .val (.int (Int32.ofNat kc)), .val (.int (Int32.ofNat kd)), .val (.ref a), .val (.int (1 : Int32)), .val (.int (2 : Int32)), .val (.int (-1 : Int32)), .val (.int (0 : Int32)), .val (.int (2 : Int32)), .unset, .unset]) rfl (pc' := 300) rfl ?_
      exact own_t2_0_2 l Z a0 hw ka kb kc kd hka hkb hkc hkd y0 y1 y2 y3 y4 a t ct (1 : Int32) (2 : Int32) (-1 : Int32) 2 G1 hG SG G3 hG3 SF h0 n0 (w229.mono (by decide) (by decide)) hS (Nat.le_trans (Nat.le_trans (Nat.le_trans (Nat.le_trans hkS K223.1) K227.1) K228.1) K229.1) S (by decide) (by simp [ixv, ixN, qo0, qo1]) (by decide) (by simp [ixv, ixN, qo0, qo1]) (Or.inr ⟨by decide, by decide⟩)
    ·
      rw [show (if 1 < 2 ∧ own_atN 1 ka kb kc kd = 123 then 1 else 0) = (0 : Int32) from (by simp [own_atN, qo1])]
      show Goes p e below _ T227 (mkF m 86 #[.val (.int y0), .val (.int y1), .val (.int y2), .val (.int y3), .val (.int y4), .val (.int (2 : Int32)), .val (.int (Int32.ofNat ka)), .val (.int (Int32.ofNat kb)), .val (.int (Int32.ofNat kc)), .val (.int (Int32.ofNat kd)), .val (.ref a), .unset, .unset, .unset, .unset, .unset, .unset, .unset] [(.int (0 : Int32))])
      refine i_if_eq_Y w227 rfl at_86 (pc' := 93) (by decide) ?_
      refine i_iconst w227 at_93 (z := (2 : Int32)) (by decide) (pc' := 94) rfl ?_
      refine i_iload w227 at_94 rfl (pc' := 96) rfl ?_
      refine i_bipush w227 at_96 (z := (123 : Int32)) (by decide) (pc' := 98) rfl ?_
      refine i_iload w227 at_98 rfl (pc' := 100) rfl ?_
      refine i_iload w227 at_100 rfl (pc' := 102) rfl ?_
      refine i_iload w227 at_102 rfl (pc' := 104) rfl ?_
      refine i_iload w227 at_104 rfl (pc' := 106) rfl ?_
      refine c_static w227 (y := (⟨"com/example/cluster_lock/clusterlock/redis/LockKeysHashTagPinLaw", "is", "(IICCCCC)Z"⟩ : MethodName)) (argsL := [(.int (2 : Int32)), (.int (2 : Int32)), (.int (123 : Int32)), (.int (Int32.ofNat ka)), (.int (Int32.ofNat kb)), (.int (Int32.ofNat kc)), (.int (Int32.ofNat kd))]) (st := []) at_106 (hw _ (List.mem_of_getElem? (i := 37) rfl)) (hw _ (List.mem_of_getElem? (i := 38) rfl)) (hw _ (List.mem_of_getElem? (i := 2) rfl)) (hw _ (List.mem_of_getElem? (i := 39) rfl)) (by decide) own_pd_pIICCCCCqZ rfl (own_is l Z a0 hw 2 2 123 ka kb kc kd h n0 w227.old (by decide) (by decide) (by decide) hka hkb hkc hkd) rfl (by decide) (W := 0) (Nat.le_of_eq rfl) (by decide) (by decide) (by decide) (fun _ q => nomatch q) (pc' := 109) rfl ?_
      intro v230 T230 h230 w230 K230 q230
      obtain ⟨rfl, rfl⟩ := q230
      show Goes p e below _ T230 (mkF m 109 #[.val (.int y0), .val (.int y1), .val (.int y2), .val (.int y3), .val (.int y4), .val (.int (2 : Int32)), .val (.int (Int32.ofNat ka)), .val (.int (Int32.ofNat kb)), .val (.int (Int32.ofNat kc)), .val (.int (Int32.ofNat kd)), .val (.ref a), .unset, .unset, .unset, .unset, .unset, .unset, .unset] [(.int (if 2 < 2 ∧ own_atN 2 ka kb kc kd = 123 then 1 else 0))])
      rw [show (if 2 < 2 ∧ own_atN 2 ka kb kc kd = 123 then 1 else 0) = (0 : Int32) from (by simp)]
      show Goes p e below _ T230 (mkF m 109 #[.val (.int y0), .val (.int y1), .val (.int y2), .val (.int y3), .val (.int y4), .val (.int (2 : Int32)), .val (.int (Int32.ofNat ka)), .val (.int (Int32.ofNat kb)), .val (.int (Int32.ofNat kc)), .val (.int (Int32.ofNat kd)), .val (.ref a), .unset, .unset, .unset, .unset, .unset, .unset, .unset] [(.int (0 : Int32))])
      refine i_if_eq_Y w230 rfl at_109 (pc' := 116) (by decide) ?_
      refine i_iconst w230 at_116 (z := (3 : Int32)) (by decide) (pc' := 117) rfl ?_
      refine i_iload w230 at_117 rfl (pc' := 119) rfl ?_
      refine i_bipush w230 at_119 (z := (123 : Int32)) (by decide) (pc' := 121) rfl ?_
      refine i_iload w230 at_121 rfl (pc' := 123) rfl ?_
      refine i_iload w230 at_123 rfl (pc' := 125) rfl ?_
      refine i_iload w230 at_125 rfl (pc' := 127) rfl ?_
      refine i_iload w230 at_127 rfl (pc' := 129) rfl ?_
      refine c_static w230 (y := (⟨"com/example/cluster_lock/clusterlock/redis/LockKeysHashTagPinLaw", "is", "(IICCCCC)Z"⟩ : MethodName)) (argsL := [(.int (3 : Int32)), (.int (2 : Int32)), (.int (123 : Int32)), (.int (Int32.ofNat ka)), (.int (Int32.ofNat kb)), (.int (Int32.ofNat kc)), (.int (Int32.ofNat kd))]) (st := []) at_129 (hw _ (List.mem_of_getElem? (i := 37) rfl)) (hw _ (List.mem_of_getElem? (i := 38) rfl)) (hw _ (List.mem_of_getElem? (i := 2) rfl)) (hw _ (List.mem_of_getElem? (i := 39) rfl)) (by decide) own_pd_pIICCCCCqZ rfl (own_is l Z a0 hw 3 2 123 ka kb kc kd h n0 w230.old (by decide) (by decide) (by decide) hka hkb hkc hkd) rfl (by decide) (W := 0) (Nat.le_of_eq rfl) (by decide) (by decide) (by decide) (fun _ q => nomatch q) (pc' := 132) rfl ?_
      intro v231 T231 h231 w231 K231 q231
      obtain ⟨rfl, rfl⟩ := q231
      show Goes p e below _ T231 (mkF m 132 #[.val (.int y0), .val (.int y1), .val (.int y2), .val (.int y3), .val (.int y4), .val (.int (2 : Int32)), .val (.int (Int32.ofNat ka)), .val (.int (Int32.ofNat kb)), .val (.int (Int32.ofNat kc)), .val (.int (Int32.ofNat kd)), .val (.ref a), .unset, .unset, .unset, .unset, .unset, .unset, .unset] [(.int (if 3 < 2 ∧ own_atN 3 ka kb kc kd = 123 then 1 else 0))])
      rw [show (if 3 < 2 ∧ own_atN 3 ka kb kc kd = 123 then 1 else 0) = (0 : Int32) from (by simp)]
      show Goes p e below _ T231 (mkF m 132 #[.val (.int y0), .val (.int y1), .val (.int y2), .val (.int y3), .val (.int y4), .val (.int (2 : Int32)), .val (.int (Int32.ofNat ka)), .val (.int (Int32.ofNat kb)), .val (.int (Int32.ofNat kc)), .val (.int (Int32.ofNat kd)), .val (.ref a), .unset, .unset, .unset, .unset, .unset, .unset, .unset] [(.int (0 : Int32))])
      refine i_if_eq_Y w231 rfl at_132 (pc' := 139) (by decide) ?_
      refine i_iconst w231 at_139 (z := (-1 : Int32)) (by decide) (pc' := 140) rfl ?_
      refine i_istore w231 at_140 (l' := #[.val (.int y0), .val (.int y1), .val (.int y2), .val (.int y3), .val (.int y4), .val (.int (2 : Int32)), .val (.int (Int32.ofNat ka)), .val (.int (Int32.ofNat kb)), .val (.int (Int32.ofNat kc)), .val (.int (Int32.ofNat kd)), .val (.ref a), .val (.int (-1 : Int32)), .unset, .unset, .unset, .unset, .unset, .unset]) rfl (pc' := 142) rfl ?_
      refine i_iload w231 at_142 rfl (pc' := 144) rfl ?_
      refine i_iconst w231 at_144 (z := (1 : Int32)) (by decide) (pc' := 145) rfl ?_
      refine i_iadd w231 at_145 (pc' := 146) rfl ?_
      rw [show ((-1 : Int32) + (1 : Int32)) = (0 : Int32) from by decide]
      show Goes p e below _ T231 (mkF m 146 #[.val (.int y0), .val (.int y1), .val (.int y2), .val (.int y3), .val (.int y4), .val (.int (2 : Int32)), .val (.int (Int32.ofNat ka)), .val (.int (Int32.ofNat kb)), .val (.int (Int32.ofNat kc)), .val (.int (Int32.ofNat kd)), .val (.ref a), .val (.int (-1 : Int32)), .unset, .unset, .unset, .unset, .unset, .unset] [(.int (0 : Int32))])
      refine i_istore w231 at_146 (l' := #[.val (.int y0), .val (.int y1), .val (.int y2), .val (.int y3), .val (.int y4), .val (.int (2 : Int32)), .val (.int (Int32.ofNat ka)), .val (.int (Int32.ofNat kb)), .val (.int (Int32.ofNat kc)), .val (.int (Int32.ofNat kd)), .val (.ref a), .val (.int (-1 : Int32)), .val (.int (0 : Int32)), .unset, .unset, .unset, .unset, .unset]) rfl (pc' := 148) rfl ?_
      refine i_iload w231 at_148 rfl (pc' := 150) rfl ?_
      refine i_if_gt_N w231 (by decide) at_150 (pc' := 153) rfl ?_
      refine i_iconst w231 at_153 (z := (0 : Int32)) (by decide) (pc' := 154) rfl ?_
      refine i_iload w231 at_154 rfl (pc' := 156) rfl ?_
      refine i_bipush w231 at_156 (z := (125 : Int32)) (by decide) (pc' := 158) rfl ?_
      refine i_iload w231 at_158 rfl (pc' := 160) rfl ?_
      refine i_iload w231 at_160 rfl (pc' := 162) rfl ?_
      refine i_iload w231 at_162 rfl (pc' := 164) rfl ?_
      refine i_iload w231 at_164 rfl (pc' := 166) rfl ?_
      refine c_static w231 (y := (⟨"com/example/cluster_lock/clusterlock/redis/LockKeysHashTagPinLaw", "is", "(IICCCCC)Z"⟩ : MethodName)) (argsL := [(.int (0 : Int32)), (.int (2 : Int32)), (.int (125 : Int32)), (.int (Int32.ofNat ka)), (.int (Int32.ofNat kb)), (.int (Int32.ofNat kc)), (.int (Int32.ofNat kd))]) (st := []) at_166 (hw _ (List.mem_of_getElem? (i := 37) rfl)) (hw _ (List.mem_of_getElem? (i := 38) rfl)) (hw _ (List.mem_of_getElem? (i := 2) rfl)) (hw _ (List.mem_of_getElem? (i := 39) rfl)) (by decide) own_pd_pIICCCCCqZ rfl (own_is l Z a0 hw 0 2 125 ka kb kc kd h n0 w231.old (by decide) (by decide) (by decide) hka hkb hkc hkd) rfl (by decide) (W := 0) (Nat.le_of_eq rfl) (by decide) (by decide) (by decide) (fun _ q => nomatch q) (pc' := 169) rfl ?_
      intro v232 T232 h232 w232 K232 q232
      obtain ⟨rfl, rfl⟩ := q232
      show Goes p e below _ T232 (mkF m 169 #[.val (.int y0), .val (.int y1), .val (.int y2), .val (.int y3), .val (.int y4), .val (.int (2 : Int32)), .val (.int (Int32.ofNat ka)), .val (.int (Int32.ofNat kb)), .val (.int (Int32.ofNat kc)), .val (.int (Int32.ofNat kd)), .val (.ref a), .val (.int (-1 : Int32)), .val (.int (0 : Int32)), .unset, .unset, .unset, .unset, .unset] [(.int (if 0 < 2 ∧ own_atN 0 ka kb kc kd = 125 then 1 else 0))])
      by_cases qc0 : ka = 125
      ·
        rw [show (if 0 < 2 ∧ own_atN 0 ka kb kc kd = 125 then 1 else 0) = (1 : Int32) from (by simp [own_atN, qc0])]
        show Goes p e below _ T232 (mkF m 169 #[.val (.int y0), .val (.int y1), .val (.int y2), .val (.int y3), .val (.int y4), .val (.int (2 : Int32)), .val (.int (Int32.ofNat ka)), .val (.int (Int32.ofNat kb)), .val (.int (Int32.ofNat kc)), .val (.int (Int32.ofNat kd)), .val (.ref a), .val (.int (-1 : Int32)), .val (.int (0 : Int32)), .unset, .unset, .unset, .unset, .unset] [(.int (1 : Int32))])
        refine i_if_eq_N w232 (by decide) at_169 (pc' := 172) rfl ?_
        refine i_iconst w232 at_172 (z := (0 : Int32)) (by decide) (pc' := 173) rfl ?_
        refine i_goto w232 at_173 (pc' := 264) (by decide) ?_
        refine i_istore w232 at_264 (l' := #[.val (.int y0), .val (.int y1), .val (.int y2), .val (.int y3), .val (.int y4), .val (.int (2 : Int32)), .val (.int (Int32.ofNat ka)), .val (.int (Int32.ofNat kb)), .val (.int (Int32.ofNat kc)), .val (.int (Int32.ofNat kd)), .val (.ref a), .val (.int (-1 : Int32)), .val (.int (0 : Int32)), .val (.int (0 : Int32)), .unset, .unset, .unset, .unset]) rfl (pc' := 266) rfl ?_
        refine i_iload w232 at_266 rfl (pc' := 268) rfl ?_
        refine i_if_lt_Y w232 (by decide) at_268 (pc' := 293) (by decide) ?_
        refine i_iconst w232 at_293 (z := (0 : Int32)) (by decide) (pc' := 294) rfl ?_
        refine i_istore w232 at_294 (l' := #[.val (.int y0), .val (.int y1), .val (.int y2), .val (.int y3), .val (.int y4), .val (.int (2 : Int32)), .val (.int (Int32.ofNat ka)), .val (.int (Int32.ofNat kb)), .val (.int (Int32.ofNat kc)), .val (.int (Int32.ofNat kd)), .val (.ref a), .val (.int (-1 : Int32)), .val (.int (0 : Int32)), .val (.int (0 : Int32)), .val (.int (0 : Int32)), .unset, .unset, .unset]) rfl (pc' := 296) rfl ?_
        refine i_iload w232 at_296 rfl (pc' := 298) rfl ?_
        refine i_istore w232 at_298 (l' := #[.val (.int y0), .val (.int y1), .val (.int y2), .val (.int y3), .val (.int y4), .val (.int (2 : Int32)), .val (.int (Int32.ofNat ka)), .val (.int (Int32.ofNat kb)), .val (.int (Int32.ofNat kc)), .val (.int (Int32.ofNat kd)), .val (.ref a), .val (.int (-1 : Int32)), .val (.int (0 : Int32)), .val (.int (0 : Int32)), .val (.int (0 : Int32)), .val (.int (2 : Int32)), .unset, .unset]) rfl (pc' := 300) rfl ?_
        exact own_t2_0_2 l Z a0 hw ka kb kc kd hka hkb hkc hkd y0 y1 y2 y3 y4 a t ct (-1 : Int32) (0 : Int32) (0 : Int32) 0 G1 hG SG G3 hG3 SF h0 n0 (w232.mono (by decide) (by decide)) hS (Nat.le_trans (Nat.le_trans (Nat.le_trans (Nat.le_trans (Nat.le_trans hkS K223.1) K227.1) K230.1) K231.1) K232.1) S (by decide) (by simp [ixv, ixN, qo0, qo1, qc0]) (by decide) (by simp [ixv, ixN, qo0, qo1, qc0]) (Or.inl (by decide))
      ·
        rw [show (if 0 < 2 ∧ own_atN 0 ka kb kc kd = 125 then 1 else 0) = (0 : Int32) from (by simp [own_atN, qc0])]
        show Goes p e below _ T232 (mkF m 169 #[.val (.int y0), .val (.int y1), .val (.int y2), .val (.int y3), .val (.int y4), .val (.int (2 : Int32)), .val (.int (Int32.ofNat ka)), .val (.int (Int32.ofNat kb)), .val (.int (Int32.ofNat kc)), .val (.int (Int32.ofNat kd)), .val (.ref a), .val (.int (-1 : Int32)), .val (.int (0 : Int32)), .unset, .unset, .unset, .unset, .unset] [(.int (0 : Int32))])
        refine i_if_eq_Y w232 rfl at_169 (pc' := 176) (by decide) ?_
        refine i_iload w232 at_176 rfl (pc' := 178) rfl ?_
        refine i_iconst w232 at_178 (z := (1 : Int32)) (by decide) (pc' := 179) rfl ?_
        refine i_icmp_gt_N w232 (by decide) at_179 (pc' := 182) rfl ?_
        refine i_iconst w232 at_182 (z := (1 : Int32)) (by decide) (pc' := 183) rfl ?_
        refine i_iload w232 at_183 rfl (pc' := 185) rfl ?_
        refine i_bipush w232 at_185 (z := (125 : Int32)) (by decide) (pc' := 187) rfl ?_
        refine i_iload w232 at_187 rfl (pc' := 189) rfl ?_
        refine i_iload w232 at_189 rfl (pc' := 191) rfl ?_
        refine i_iload w232 at_191 rfl (pc' := 193) rfl ?_
        refine i_iload w232 at_193 rfl (pc' := 195) rfl ?_
        refine c_static w232 (y := (⟨"com/example/cluster_lock/clusterlock/redis/LockKeysHashTagPinLaw", "is", "(IICCCCC)Z"⟩ : MethodName)) (argsL := [(.int (1 : Int32)), (.int (2 : Int32)), (.int (125 : Int32)), (.int (Int32.ofNat ka)), (.int (Int32.ofNat kb)), (.int (Int32.ofNat kc)), (.int (Int32.ofNat kd))]) (st := []) at_195 (hw _ (List.mem_of_getElem? (i := 37) rfl)) (hw _ (List.mem_of_getElem? (i := 38) rfl)) (hw _ (List.mem_of_getElem? (i := 2) rfl)) (hw _ (List.mem_of_getElem? (i := 39) rfl)) (by decide) own_pd_pIICCCCCqZ rfl (own_is l Z a0 hw 1 2 125 ka kb kc kd h n0 w232.old (by decide) (by decide) (by decide) hka hkb hkc hkd) rfl (by decide) (W := 0) (Nat.le_of_eq rfl) (by decide) (by decide) (by decide) (fun _ q => nomatch q) (pc' := 198) rfl ?_
        intro v233 T233 h233 w233 K233 q233
        obtain ⟨rfl, rfl⟩ := q233
        show Goes p e below _ T233 (mkF m 198 #[.val (.int y0), .val (.int y1), .val (.int y2), .val (.int y3), .val (.int y4), .val (.int (2 : Int32)), .val (.int (Int32.ofNat ka)), .val (.int (Int32.ofNat kb)), .val (.int (Int32.ofNat kc)), .val (.int (Int32.ofNat kd)), .val (.ref a), .val (.int (-1 : Int32)), .val (.int (0 : Int32)), .unset, .unset, .unset, .unset, .unset] [(.int (if 1 < 2 ∧ own_atN 1 ka kb kc kd = 125 then 1 else 0))])
        by_cases qc1 : kb = 125
        ·
          rw [show (if 1 < 2 ∧ own_atN 1 ka kb kc kd = 125 then 1 else 0) = (1 : Int32) from (by simp [own_atN, qc1])]
          show Goes p e below _ T233 (mkF m 198 #[.val (.int y0), .val (.int y1), .val (.int y2), .val (.int y3), .val (.int y4), .val (.int (2 : Int32)), .val (.int (Int32.ofNat ka)), .val (.int (Int32.ofNat kb)), .val (.int (Int32.ofNat kc)), .val (.int (Int32.ofNat kd)), .val (.ref a), .val (.int (-1 : Int32)), .val (.int (0 : Int32)), .unset, .unset, .unset, .unset, .unset] [(.int (1 : Int32))])
          refine i_if_eq_N w233 (by decide) at_198 (pc' := 201) rfl ?_
          refine i_iconst w233 at_201 (z := (1 : Int32)) (by decide) (pc' := 202) rfl ?_
          refine i_goto w233 at_202 (pc' := 264) (by decide) ?_
          refine i_istore w233 at_264 (l' := #[.val (.int y0), .val (.int y1), .val (.int y2), .val (.int y3), .val (.int y4), .val (.int (2 : Int32)), .val (.int (Int32.ofNat ka)), .val (.int (Int32.ofNat kb)), .val (.int (Int32.ofNat kc)), .val (.int (Int32.ofNat kd)), .val (.ref a), .val (.int (-1 : Int32)), .val (.int (0 : Int32)), .val (.int (1 : Int32)), .unset, .unset, .unset, .unset]) rfl (pc' := 266) rfl ?_
          refine i_iload w233 at_266 rfl (pc' := 268) rfl ?_
          refine i_if_lt_Y w233 (by decide) at_268 (pc' := 293) (by decide) ?_
          refine i_iconst w233 at_293 (z := (0 : Int32)) (by decide) (pc' := 294) rfl ?_
          refine i_istore w233 at_294 (l' := #[.val (.int y0), .val (.int y1), .val (.int y2), .val (.int y3), .val (.int y4), .val (.int (2 : Int32)), .val (.int (Int32.ofNat ka)), .val (.int (Int32.ofNat kb)), .val (.int (Int32.ofNat kc)), .val (.int (Int32.ofNat kd)), .val (.ref a), .val (.int (-1 : Int32)), .val (.int (0 : Int32)), .val (.int (1 : Int32)), .val (.int (0 : Int32)), .unset, .unset, .unset]) rfl (pc' := 296) rfl ?_
          refine i_iload w233 at_296 rfl (pc' := 298) rfl ?_
          refine i_istore w233 at_298 (l' := #[.val (.int y0), .val (.int y1), .val (.int y2), .val (.int y3), .val (.int y4), .val (.int (2 : Int32)), .val (.int (Int32.ofNat ka)), .val (.int (Int32.ofNat kb)), .val (.int (Int32.ofNat kc)), .val (.int (Int32.ofNat kd)), .val (.ref a), .val (.int (-1 : Int32)), .val (.int (0 : Int32)), .val (.int (1 : Int32)), .val (.int (0 : Int32)), .val (.int (2 : Int32)), .unset, .unset]) rfl (pc' := 300) rfl ?_
          exact own_t2_0_2 l Z a0 hw ka kb kc kd hka hkb hkc hkd y0 y1 y2 y3 y4 a t ct (-1 : Int32) (0 : Int32) (1 : Int32) 0 G1 hG SG G3 hG3 SF h0 n0 (w233.mono (by decide) (by decide)) hS (Nat.le_trans (Nat.le_trans (Nat.le_trans (Nat.le_trans (Nat.le_trans (Nat.le_trans hkS K223.1) K227.1) K230.1) K231.1) K232.1) K233.1) S (by decide) (by simp [ixv, ixN, qo0, qo1, qc0, qc1]) (by decide) (by simp [ixv, ixN, qo0, qo1, qc0, qc1]) (Or.inl (by decide))
        ·
          rw [show (if 1 < 2 ∧ own_atN 1 ka kb kc kd = 125 then 1 else 0) = (0 : Int32) from (by simp [own_atN, qc1])]
          show Goes p e below _ T233 (mkF m 198 #[.val (.int y0), .val (.int y1), .val (.int y2), .val (.int y3), .val (.int y4), .val (.int (2 : Int32)), .val (.int (Int32.ofNat ka)), .val (.int (Int32.ofNat kb)), .val (.int (Int32.ofNat kc)), .val (.int (Int32.ofNat kd)), .val (.ref a), .val (.int (-1 : Int32)), .val (.int (0 : Int32)), .unset, .unset, .unset, .unset, .unset] [(.int (0 : Int32))])
          refine i_if_eq_Y w233 rfl at_198 (pc' := 205) (by decide) ?_
          refine i_iload w233 at_205 rfl (pc' := 207) rfl ?_
          refine i_iconst w233 at_207 (z := (2 : Int32)) (by decide) (pc' := 208) rfl ?_
          refine i_icmp_gt_N w233 (by decide) at_208 (pc' := 211) rfl ?_
          refine i_iconst w233 at_211 (z := (2 : Int32)) (by decide) (pc' := 212) rfl ?_
          refine i_iload w233 at_212 rfl (pc' := 214) rfl ?_
          refine i_bipush w233 at_214 (z := (125 : Int32)) (by decide) (pc' := 216) rfl ?_
          refine i_iload w233 at_216 rfl (pc' := 218) rfl ?_
          refine i_iload w233 at_218 rfl (pc' := 220) rfl ?_
          refine i_iload w233 at_220 rfl (pc' := 222) rfl ?_
          refine i_iload w233 at_222 rfl (pc' := 224) rfl ?_
          refine c_static w233 (y := (⟨"com/example/cluster_lock/clusterlock/redis/LockKeysHashTagPinLaw", "is", "(IICCCCC)Z"⟩ : MethodName)) (argsL := [(.int (2 : Int32)), (.int (2 : Int32)), (.int (125 : Int32)), (.int (Int32.ofNat ka)), (.int (Int32.ofNat kb)), (.int (Int32.ofNat kc)), (.int (Int32.ofNat kd))]) (st := []) at_224 (hw _ (List.mem_of_getElem? (i := 37) rfl)) (hw _ (List.mem_of_getElem? (i := 38) rfl)) (hw _ (List.mem_of_getElem? (i := 2) rfl)) (hw _ (List.mem_of_getElem? (i := 39) rfl)) (by decide) own_pd_pIICCCCCqZ rfl (own_is l Z a0 hw 2 2 125 ka kb kc kd h n0 w233.old (by decide) (by decide) (by decide) hka hkb hkc hkd) rfl (by decide) (W := 0) (Nat.le_of_eq rfl) (by decide) (by decide) (by decide) (fun _ q => nomatch q) (pc' := 227) rfl ?_
          intro v234 T234 h234 w234 K234 q234
          obtain ⟨rfl, rfl⟩ := q234
          show Goes p e below _ T234 (mkF m 227 #[.val (.int y0), .val (.int y1), .val (.int y2), .val (.int y3), .val (.int y4), .val (.int (2 : Int32)), .val (.int (Int32.ofNat ka)), .val (.int (Int32.ofNat kb)), .val (.int (Int32.ofNat kc)), .val (.int (Int32.ofNat kd)), .val (.ref a), .val (.int (-1 : Int32)), .val (.int (0 : Int32)), .unset, .unset, .unset, .unset, .unset] [(.int (if 2 < 2 ∧ own_atN 2 ka kb kc kd = 125 then 1 else 0))])
          rw [show (if 2 < 2 ∧ own_atN 2 ka kb kc kd = 125 then 1 else 0) = (0 : Int32) from (by simp)]
          show Goes p e below _ T234 (mkF m 227 #[.val (.int y0), .val (.int y1), .val (.int y2), .val (.int y3), .val (.int y4), .val (.int (2 : Int32)), .val (.int (Int32.ofNat ka)), .val (.int (Int32.ofNat kb)), .val (.int (Int32.ofNat kc)), .val (.int (Int32.ofNat kd)), .val (.ref a), .val (.int (-1 : Int32)), .val (.int (0 : Int32)), .unset, .unset, .unset, .unset, .unset] [(.int (0 : Int32))])
          refine i_if_eq_Y w234 rfl at_227 (pc' := 234) (by decide) ?_
          refine i_iload w234 at_234 rfl (pc' := 236) rfl ?_
          refine i_iconst w234 at_236 (z := (3 : Int32)) (by decide) (pc' := 237) rfl ?_
          refine i_icmp_gt_N w234 (by decide) at_237 (pc' := 240) rfl ?_
          refine i_iconst w234 at_240 (z := (3 : Int32)) (by decide) (pc' := 241) rfl ?_
          refine i_iload w234 at_241 rfl (pc' := 243) rfl ?_
          refine i_bipush w234 at_243 (z := (125 : Int32)) (by decide) (pc' := 245) rfl ?_
          refine i_iload w234 at_245 rfl (pc' := 247) rfl ?_
          refine i_iload w234 at_247 rfl (pc' := 249) rfl ?_
          refine i_iload w234 at_249 rfl (pc' := 251) rfl ?_
          refine i_iload w234 at_251 rfl (pc' := 253) rfl ?_
          refine c_static w234 (y := (⟨"com/example/cluster_lock/clusterlock/redis/LockKeysHashTagPinLaw", "is", "(IICCCCC)Z"⟩ : MethodName)) (argsL := [(.int (3 : Int32)), (.int (2 : Int32)), (.int (125 : Int32)), (.int (Int32.ofNat ka)), (.int (Int32.ofNat kb)), (.int (Int32.ofNat kc)), (.int (Int32.ofNat kd))]) (st := []) at_253 (hw _ (List.mem_of_getElem? (i := 37) rfl)) (hw _ (List.mem_of_getElem? (i := 38) rfl)) (hw _ (List.mem_of_getElem? (i := 2) rfl)) (hw _ (List.mem_of_getElem? (i := 39) rfl)) (by decide) own_pd_pIICCCCCqZ rfl (own_is l Z a0 hw 3 2 125 ka kb kc kd h n0 w234.old (by decide) (by decide) (by decide) hka hkb hkc hkd) rfl (by decide) (W := 0) (Nat.le_of_eq rfl) (by decide) (by decide) (by decide) (fun _ q => nomatch q) (pc' := 256) rfl ?_
          intro v235 T235 h235 w235 K235 q235
          obtain ⟨rfl, rfl⟩ := q235
          show Goes p e below _ T235 (mkF m 256 #[.val (.int y0), .val (.int y1), .val (.int y2), .val (.int y3), .val (.int y4), .val (.int (2 : Int32)), .val (.int (Int32.ofNat ka)), .val (.int (Int32.ofNat kb)), .val (.int (Int32.ofNat kc)), .val (.int (Int32.ofNat kd)), .val (.ref a), .val (.int (-1 : Int32)), .val (.int (0 : Int32)), .unset, .unset, .unset, .unset, .unset] [(.int (if 3 < 2 ∧ own_atN 3 ka kb kc kd = 125 then 1 else 0))])
          rw [show (if 3 < 2 ∧ own_atN 3 ka kb kc kd = 125 then 1 else 0) = (0 : Int32) from (by simp)]
          show Goes p e below _ T235 (mkF m 256 #[.val (.int y0), .val (.int y1), .val (.int y2), .val (.int y3), .val (.int y4), .val (.int (2 : Int32)), .val (.int (Int32.ofNat ka)), .val (.int (Int32.ofNat kb)), .val (.int (Int32.ofNat kc)), .val (.int (Int32.ofNat kd)), .val (.ref a), .val (.int (-1 : Int32)), .val (.int (0 : Int32)), .unset, .unset, .unset, .unset, .unset] [(.int (0 : Int32))])
          refine i_if_eq_Y w235 rfl at_256 (pc' := 263) (by decide) ?_
          refine i_iconst w235 at_263 (z := (-1 : Int32)) (by decide) (pc' := 264) rfl ?_
          refine i_istore w235 at_264 (l' := #[.val (.int y0), .val (.int y1), .val (.int y2), .val (.int y3), .val (.int y4), .val (.int (2 : Int32)), .val (.int (Int32.ofNat ka)), .val (.int (Int32.ofNat kb)), .val (.int (Int32.ofNat kc)), .val (.int (Int32.ofNat kd)), .val (.ref a), .val (.int (-1 : Int32)), .val (.int (0 : Int32)), .val (.int (-1 : Int32)), .unset, .unset, .unset, .unset]) rfl (pc' := 266) rfl ?_
          refine i_iload w235 at_266 rfl (pc' := 268) rfl ?_
          refine i_if_lt_Y w235 (by decide) at_268 (pc' := 293) (by decide) ?_
          refine i_iconst w235 at_293 (z := (0 : Int32)) (by decide) (pc' := 294) rfl ?_
          refine i_istore w235 at_294 (l' := #[.val (.int y0), .val (.int y1), .val (.int y2), .val (.int y3), .val (.int y4), .val (.int (2 : Int32)), .val (.int (Int32.ofNat ka)), .val (.int (Int32.ofNat kb)), .val (.int (Int32.ofNat kc)), .val (.int (Int32.ofNat kd)), .val (.ref a), .val (.int (-1 : Int32)), .val (.int (0 : Int32)), .val (.int (-1 : Int32)), .val (.int (0 : Int32)), .unset, .unset, .unset]) rfl (pc' := 296) rfl ?_
          refine i_iload w235 at_296 rfl (pc' := 298) rfl ?_
          refine i_istore w235 at_298 (l' := #[.val (.int y0), .val (.int y1), .val (.int y2), .val (.int y3), .val (.int y4), .val (.int (2 : Int32)), .val (.int (Int32.ofNat ka)), .val (.int (Int32.ofNat kb)), .val (.int (Int32.ofNat kc)), .val (.int (Int32.ofNat kd)), .val (.ref a), .val (.int (-1 : Int32)), .val (.int (0 : Int32)), .val (.int (-1 : Int32)), .val (.int (0 : Int32)), .val (.int (2 : Int32)), .unset, .unset]) rfl (pc' := 300) rfl ?_
          exact own_t2_0_2 l Z a0 hw ka kb kc kd hka hkb hkc hkd y0 y1 y2 y3 y4 a t ct (-1 : Int32) (0 : Int32) (-1 : Int32) 0 G1 hG SG G3 hG3 SF h0 n0 (w235.mono (by decide) (by decide)) hS (Nat.le_trans (Nat.le_trans (Nat.le_trans (Nat.le_trans (Nat.le_trans (Nat.le_trans (Nat.le_trans (Nat.le_trans hkS K223.1) K227.1) K230.1) K231.1) K232.1) K233.1) K234.1) K235.1) S (by decide) (by simp [ixv, ixN, qo0, qo1, qc0, qc1]) (by decide) (by simp [ixv, ixN, qo0, qo1, qc0, qc1]) (Or.inl (by decide))
set_option maxRecDepth 65536 in
set_option maxHeartbeats 40000000 in
theorem own_s3 (l : Launch) (Z : State) (a0 : Array Value) (hw : ∀ d ∈ tables_1, d.before a0 Z = true) (ka kb kc kd : Nat) (hka : ka < 256) (hkb : kb < 256) (hkc : kc < 256) (hkd : kd < 256) (y0 y1 y2 y3 y4 : Int32) (a t : Addr) (ct : ClassId) (G1 : Int32) (hG : ¬ G1 = 0) (SG : Sta Z Z.heap "java/lang/String" "COMPACT_STRINGS" "Z" (.int G1)) (G3 : Value) (hG3 : G3.isRef = true) (SF : Sta Z Z.heap "jdk/internal/util/Preconditions" "SIOOBE_FORMATTER" "Ljava/util/function/BiFunction;" G3) (h0 : Heap) (n0 : Nat) {p : Program} {e : Env} {s : State} {m : MethodId} {below : List Frame} {meth : Method} {c : Code} {vm : Vm} {kS : Nat} {T : State} {h : Heap} (w : Wk p l e room_1 (s.setVm vm) m #[(.int y0), (.int y1), (.int y2), (.int y3), (.int y4)] below meth c Z x.cls code maxLocals ret x.name n0 h0 [] T h 20 1000) (hS : s.Since vm kS) (hkS : kS ≤ h.size) (S : StrL Z h a t ct [ka, kb, kc]) :
    Goes p e below (PW s n0 h0 [] (fun v h => v = some (.int 1)) room_1.cells room_1.slots) T (mkF m 47 #[.val (.int y0), .val (.int y1), .val (.int y2), .val (.int y3), .val (.int y4), .val (.int (3 : Int32)), .val (.int (Int32.ofNat ka)), .val (.int (Int32.ofNat kb)), .val (.int (Int32.ofNat kc)), .val (.int (Int32.ofNat kd)), .val (.ref a), .unset, .unset, .unset, .unset, .unset, .unset, .unset] []) := by
  refine i_iconst w at_47 (z := (0 : Int32)) (by decide) (pc' := 48) rfl ?_
  refine i_iload w at_48 rfl (pc' := 50) rfl ?_
  refine i_bipush w at_50 (z := (123 : Int32)) (by decide) (pc' := 52) rfl ?_
  refine i_iload w at_52 rfl (pc' := 54) rfl ?_
  refine i_iload w at_54 rfl (pc' := 56) rfl ?_
  refine i_iload w at_56 rfl (pc' := 58) rfl ?_
  refine i_iload w at_58 rfl (pc' := 60) rfl ?_
  refine c_static w (y := (⟨"com/example/cluster_lock/clusterlock/redis/LockKeysHashTagPinLaw", "is", "(IICCCCC)Z"⟩ : MethodName)) (argsL := [(.int (0 : Int32)), (.int (3 : Int32)), (.int (123 : Int32)), (.int (Int32.ofNat ka)), (.int (Int32.ofNat kb)), (.int (Int32.ofNat kc)), (.int (Int32.ofNat kd))]) (st := []) at_60 (hw _ (List.mem_of_getElem? (i := 37) rfl)) (hw _ (List.mem_of_getElem? (i := 38) rfl)) (hw _ (List.mem_of_getElem? (i := 2) rfl)) (hw _ (List.mem_of_getElem? (i := 39) rfl)) (by decide) own_pd_pIICCCCCqZ rfl (own_is l Z a0 hw 0 3 123 ka kb kc kd h n0 w.old (by decide) (by decide) (by decide) hka hkb hkc hkd) rfl (by decide) (W := 0) (Nat.le_of_eq rfl) (by decide) (by decide) (by decide) (fun _ q => nomatch q) (pc' := 63) rfl ?_
  intro v236 T236 h236 w236 K236 q236
  obtain ⟨rfl, rfl⟩ := q236
  show Goes p e below _ T236 (mkF m 63 #[.val (.int y0), .val (.int y1), .val (.int y2), .val (.int y3), .val (.int y4), .val (.int (3 : Int32)), .val (.int (Int32.ofNat ka)), .val (.int (Int32.ofNat kb)), .val (.int (Int32.ofNat kc)), .val (.int (Int32.ofNat kd)), .val (.ref a), .unset, .unset, .unset, .unset, .unset, .unset, .unset] [(.int (if 0 < 3 ∧ own_atN 0 ka kb kc kd = 123 then 1 else 0))])
  by_cases qo0 : ka = 123
  ·
    rw [show (if 0 < 3 ∧ own_atN 0 ka kb kc kd = 123 then 1 else 0) = (1 : Int32) from (by simp [own_atN, qo0])]
    show Goes p e below _ T236 (mkF m 63 #[.val (.int y0), .val (.int y1), .val (.int y2), .val (.int y3), .val (.int y4), .val (.int (3 : Int32)), .val (.int (Int32.ofNat ka)), .val (.int (Int32.ofNat kb)), .val (.int (Int32.ofNat kc)), .val (.int (Int32.ofNat kd)), .val (.ref a), .unset, .unset, .unset, .unset, .unset, .unset, .unset] [(.int (1 : Int32))])
    refine i_if_eq_N w236 (by decide) at_63 (pc' := 66) rfl ?_
    refine i_iconst w236 at_66 (z := (0 : Int32)) (by decide) (pc' := 67) rfl ?_
    refine i_goto w236 at_67 (pc' := 140) (by decide) ?_
    refine i_istore w236 at_140 (l' := #[.val (.int y0), .val (.int y1), .val (.int y2), .val (.int y3), .val (.int y4), .val (.int (3 : Int32)), .val (.int (Int32.ofNat ka)), .val (.int (Int32.ofNat kb)), .val (.int (Int32.ofNat kc)), .val (.int (Int32.ofNat kd)), .val (.ref a), .val (.int (0 : Int32)), .unset, .unset, .unset, .unset, .unset, .unset]) rfl (pc' := 142) rfl ?_
    refine i_iload w236 at_142 rfl (pc' := 144) rfl ?_
    refine i_iconst w236 at_144 (z := (1 : Int32)) (by decide) (pc' := 145) rfl ?_
    refine i_iadd w236 at_145 (pc' := 146) rfl ?_
    rw [show ((0 : Int32) + (1 : Int32)) = (1 : Int32) from by decide]
    show Goes p e below _ T236 (mkF m 146 #[.val (.int y0), .val (.int y1), .val (.int y2), .val (.int y3), .val (.int y4), .val (.int (3 : Int32)), .val (.int (Int32.ofNat ka)), .val (.int (Int32.ofNat kb)), .val (.int (Int32.ofNat kc)), .val (.int (Int32.ofNat kd)), .val (.ref a), .val (.int (0 : Int32)), .unset, .unset, .unset, .unset, .unset, .unset] [(.int (1 : Int32))])
    refine i_istore w236 at_146 (l' := #[.val (.int y0), .val (.int y1), .val (.int y2), .val (.int y3), .val (.int y4), .val (.int (3 : Int32)), .val (.int (Int32.ofNat ka)), .val (.int (Int32.ofNat kb)), .val (.int (Int32.ofNat kc)), .val (.int (Int32.ofNat kd)), .val (.ref a), .val (.int (0 : Int32)), .val (.int (1 : Int32)), .unset, .unset, .unset, .unset, .unset]) rfl (pc' := 148) rfl ?_
    refine i_iload w236 at_148 rfl (pc' := 150) rfl ?_
    refine i_if_gt_Y w236 (by decide) at_150 (pc' := 176) (by decide) ?_
    refine i_iload w236 at_176 rfl (pc' := 178) rfl ?_
    refine i_iconst w236 at_178 (z := (1 : Int32)) (by decide) (pc' := 179) rfl ?_
    refine i_icmp_gt_N w236 (by decide) at_179 (pc' := 182) rfl ?_
    refine i_iconst w236 at_182 (z := (1 : Int32)) (by decide) (pc' := 183) rfl ?_
    refine i_iload w236 at_183 rfl (pc' := 185) rfl ?_
    refine i_bipush w236 at_185 (z := (125 : Int32)) (by decide) (pc' := 187) rfl ?_
    refine i_iload w236 at_187 rfl (pc' := 189) rfl ?_
    refine i_iload w236 at_189 rfl (pc' := 191) rfl ?_
    refine i_iload w236 at_191 rfl (pc' := 193) rfl ?_
    refine i_iload w236 at_193 rfl (pc' := 195) rfl ?_
    refine c_static w236 (y := (⟨"com/example/cluster_lock/clusterlock/redis/LockKeysHashTagPinLaw", "is", "(IICCCCC)Z"⟩ : MethodName)) (argsL := [(.int (1 : Int32)), (.int (3 : Int32)), (.int (125 : Int32)), (.int (Int32.ofNat ka)), (.int (Int32.ofNat kb)), (.int (Int32.ofNat kc)), (.int (Int32.ofNat kd))]) (st := []) at_195 (hw _ (List.mem_of_getElem? (i := 37) rfl)) (hw _ (List.mem_of_getElem? (i := 38) rfl)) (hw _ (List.mem_of_getElem? (i := 2) rfl)) (hw _ (List.mem_of_getElem? (i := 39) rfl)) (by decide) own_pd_pIICCCCCqZ rfl (own_is l Z a0 hw 1 3 125 ka kb kc kd h n0 w236.old (by decide) (by decide) (by decide) hka hkb hkc hkd) rfl (by decide) (W := 0) (Nat.le_of_eq rfl) (by decide) (by decide) (by decide) (fun _ q => nomatch q) (pc' := 198) rfl ?_
    intro v237 T237 h237 w237 K237 q237
    obtain ⟨rfl, rfl⟩ := q237
    show Goes p e below _ T237 (mkF m 198 #[.val (.int y0), .val (.int y1), .val (.int y2), .val (.int y3), .val (.int y4), .val (.int (3 : Int32)), .val (.int (Int32.ofNat ka)), .val (.int (Int32.ofNat kb)), .val (.int (Int32.ofNat kc)), .val (.int (Int32.ofNat kd)), .val (.ref a), .val (.int (0 : Int32)), .val (.int (1 : Int32)), .unset, .unset, .unset, .unset, .unset] [(.int (if 1 < 3 ∧ own_atN 1 ka kb kc kd = 125 then 1 else 0))])
    by_cases qc1 : kb = 125
    ·
      rw [show (if 1 < 3 ∧ own_atN 1 ka kb kc kd = 125 then 1 else 0) = (1 : Int32) from (by simp [own_atN, qc1])]
      show Goes p e below _ T237 (mkF m 198 #[.val (.int y0), .val (.int y1), .val (.int y2), .val (.int y3), .val (.int y4), .val (.int (3 : Int32)), .val (.int (Int32.ofNat ka)), .val (.int (Int32.ofNat kb)), .val (.int (Int32.ofNat kc)), .val (.int (Int32.ofNat kd)), .val (.ref a), .val (.int (0 : Int32)), .val (.int (1 : Int32)), .unset, .unset, .unset, .unset, .unset] [(.int (1 : Int32))])
      refine i_if_eq_N w237 (by decide) at_198 (pc' := 201) rfl ?_
      refine i_iconst w237 at_201 (z := (1 : Int32)) (by decide) (pc' := 202) rfl ?_
      refine i_goto w237 at_202 (pc' := 264) (by decide) ?_
      refine i_istore w237 at_264 (l' := #[.val (.int y0), .val (.int y1), .val (.int y2), .val (.int y3), .val (.int y4), .val (.int (3 : Int32)), .val (.int (Int32.ofNat ka)), .val (.int (Int32.ofNat kb)), .val (.int (Int32.ofNat kc)), .val (.int (Int32.ofNat kd)), .val (.ref a), .val (.int (0 : Int32)), .val (.int (1 : Int32)), .val (.int (1 : Int32)), .unset, .unset, .unset, .unset]) rfl (pc' := 266) rfl ?_
      refine i_iload w237 at_266 rfl (pc' := 268) rfl ?_
      refine i_if_lt_N w237 (by decide) at_268 (pc' := 271) rfl ?_
      refine i_iload w237 at_271 rfl (pc' := 273) rfl ?_
      refine i_iload w237 at_273 rfl (pc' := 275) rfl ?_
      refine i_iconst w237 at_275 (z := (1 : Int32)) (by decide) (pc' := 276) rfl ?_
      refine i_iadd w237 at_276 (pc' := 277) rfl ?_
      refine i_icmp_le_Y w237 (by decide) at_277 (pc' := 293) (by decide) ?_
      refine i_iconst w237 at_293 (z := (0 : Int32)) (by decide) (pc' := 294) rfl ?_
      refine i_istore w237 at_294 (l' := #[.val (.int y0), .val (.int y1), .val (.int y2), .val (.int y3), .val (.int y4), .val (.int (3 : Int32)), .val (.int (Int32.ofNat ka)), .val (.int (Int32.ofNat kb)), .val (.int (Int32.ofNat kc)), .val (.int (Int32.ofNat kd)), .val (.ref a), .val (.int (0 : Int32)), .val (.int (1 : Int32)), .val (.int (1 : Int32)), .val (.int (0 : Int32)), .unset, .unset, .unset]) rfl (pc' := 296) rfl ?_
      refine i_iload w237 at_296 rfl (pc' := 298) rfl ?_
      refine i_istore w237 at_298 (l' := #[.val (.int y0), .val (.int y1), .val (.int y2), .val (.int y3), .val (.int y4), .val (.int (3 : Int32)), .val (.int (Int32.ofNat ka)), .val (.int (Int32.ofNat kb)), .val (.int (Int32.ofNat kc)), .val (.int (Int32.ofNat kd)), .val (.ref a), .val (.int (0 : Int32)), .val (.int (1 : Int32)), .val (.int (1 : Int32)), .val (.int (0 : Int32)), .val (.int (3 : Int32)), .unset, .unset]) rfl (pc' := 300) rfl ?_
      exact own_t3_0_3 l Z a0 hw ka kb kc kd hka hkb hkc hkd y0 y1 y2 y3 y4 a t ct (0 : Int32) (1 : Int32) (1 : Int32) 1 G1 hG SG G3 hG3 SF h0 n0 (w237.mono (by decide) (by decide)) hS (Nat.le_trans (Nat.le_trans hkS K236.1) K237.1) S (by decide) (by simp [ixv, ixN, qo0, qc1]) (by decide) (by simp [ixv, ixN, qo0, qc1]) (Or.inr ⟨by decide, by decide⟩)
    ·
      rw [show (if 1 < 3 ∧ own_atN 1 ka kb kc kd = 125 then 1 else 0) = (0 : Int32) from (by simp [own_atN, qc1])]
      show Goes p e below _ T237 (mkF m 198 #[.val (.int y0), .val (.int y1), .val (.int y2), .val (.int y3), .val (.int y4), .val (.int (3 : Int32)), .val (.int (Int32.ofNat ka)), .val (.int (Int32.ofNat kb)), .val (.int (Int32.ofNat kc)), .val (.int (Int32.ofNat kd)), .val (.ref a), .val (.int (0 : Int32)), .val (.int (1 : Int32)), .unset, .unset, .unset, .unset, .unset] [(.int (0 : Int32))])
      refine i_if_eq_Y w237 rfl at_198 (pc' := 205) (by decide) ?_
      refine i_iload w237 at_205 rfl (pc' := 207) rfl ?_
      refine i_iconst w237 at_207 (z := (2 : Int32)) (by decide) (pc' := 208) rfl ?_
      refine i_icmp_gt_N w237 (by decide) at_208 (pc' := 211) rfl ?_
      refine i_iconst w237 at_211 (z := (2 : Int32)) (by decide) (pc' := 212) rfl ?_
      refine i_iload w237 at_212 rfl (pc' := 214) rfl ?_
      refine i_bipush w237 at_214 (z := (125 : Int32)) (by decide) (pc' := 216) rfl ?_
      refine i_iload w237 at_216 rfl (pc' := 218) rfl ?_
      refine i_iload w237 at_218 rfl (pc' := 220) rfl ?_
      refine i_iload w237 at_220 rfl (pc' := 222) rfl ?_
      refine i_iload w237 at_222 rfl (pc' := 224) rfl ?_
      refine c_static w237 (y := (⟨"com/example/cluster_lock/clusterlock/redis/LockKeysHashTagPinLaw", "is", "(IICCCCC)Z"⟩ : MethodName)) (argsL := [(.int (2 : Int32)), (.int (3 : Int32)), (.int (125 : Int32)), (.int (Int32.ofNat ka)), (.int (Int32.ofNat kb)), (.int (Int32.ofNat kc)), (.int (Int32.ofNat kd))]) (st := []) at_224 (hw _ (List.mem_of_getElem? (i := 37) rfl)) (hw _ (List.mem_of_getElem? (i := 38) rfl)) (hw _ (List.mem_of_getElem? (i := 2) rfl)) (hw _ (List.mem_of_getElem? (i := 39) rfl)) (by decide) own_pd_pIICCCCCqZ rfl (own_is l Z a0 hw 2 3 125 ka kb kc kd h n0 w237.old (by decide) (by decide) (by decide) hka hkb hkc hkd) rfl (by decide) (W := 0) (Nat.le_of_eq rfl) (by decide) (by decide) (by decide) (fun _ q => nomatch q) (pc' := 227) rfl ?_
      intro v238 T238 h238 w238 K238 q238
      obtain ⟨rfl, rfl⟩ := q238
      show Goes p e below _ T238 (mkF m 227 #[.val (.int y0), .val (.int y1), .val (.int y2), .val (.int y3), .val (.int y4), .val (.int (3 : Int32)), .val (.int (Int32.ofNat ka)), .val (.int (Int32.ofNat kb)), .val (.int (Int32.ofNat kc)), .val (.int (Int32.ofNat kd)), .val (.ref a), .val (.int (0 : Int32)), .val (.int (1 : Int32)), .unset, .unset, .unset, .unset, .unset] [(.int (if 2 < 3 ∧ own_atN 2 ka kb kc kd = 125 then 1 else 0))])
      by_cases qc2 : kc = 125
      ·
        rw [show (if 2 < 3 ∧ own_atN 2 ka kb kc kd = 125 then 1 else 0) = (1 : Int32) from (by simp [own_atN, qc2])]
        show Goes p e below _ T238 (mkF m 227 #[.val (.int y0), .val (.int y1), .val (.int y2), .val (.int y3), .val (.int y4), .val (.int (3 : Int32)), .val (.int (Int32.ofNat ka)), .val (.int (Int32.ofNat kb)), .val (.int (Int32.ofNat kc)), .val (.int (Int32.ofNat kd)), .val (.ref a), .val (.int (0 : Int32)), .val (.int (1 : Int32)), .unset, .unset, .unset, .unset, .unset] [(.int (1 : Int32))])
        refine i_if_eq_N w238 (by decide) at_227 (pc' := 230) rfl ?_
        refine i_iconst w238 at_230 (z := (2 : Int32)) (by decide) (pc' := 231) rfl ?_
        refine i_goto w238 at_231 (pc' := 264) (by decide) ?_
        refine i_istore w238 at_264 (l' := #[.val (.int y0), .val (.int y1), .val (.int y2), .val (.int y3), .val (.int y4), .val (.int (3 : Int32)), .val (.int (Int32.ofNat ka)), .val (.int (Int32.ofNat kb)), .val (.int (Int32.ofNat kc)), .val (.int (Int32.ofNat kd)), .val (.ref a), .val (.int (0 : Int32)), .val (.int (1 : Int32)), .val (.int (2 : Int32)), .unset, .unset, .unset, .unset]) rfl (pc' := 266) rfl ?_
        refine i_iload w238 at_266 rfl (pc' := 268) rfl ?_
        refine i_if_lt_N w238 (by decide) at_268 (pc' := 271) rfl ?_
        refine i_iload w238 at_271 rfl (pc' := 273) rfl ?_
        refine i_iload w238 at_273 rfl (pc' := 275) rfl ?_
        refine i_iconst w238 at_275 (z := (1 : Int32)) (by decide) (pc' := 276) rfl ?_
        refine i_iadd w238 at_276 (pc' := 277) rfl ?_
        refine i_icmp_le_N w238 (by decide) at_277 (pc' := 280) rfl ?_
        refine i_iload w238 at_280 rfl (pc' := 282) rfl ?_
        refine i_iconst w238 at_282 (z := (1 : Int32)) (by decide) (pc' := 283) rfl ?_
        refine i_iadd w238 at_283 (pc' := 284) rfl ?_
        rw [show ((0 : Int32) + (1 : Int32)) = (1 : Int32) from by decide]
        show Goes p e below _ T238 (mkF m 284 #[.val (.int y0), .val (.int y1), .val (.int y2), .val (.int y3), .val (.int y4), .val (.int (3 : Int32)), .val (.int (Int32.ofNat ka)), .val (.int (Int32.ofNat kb)), .val (.int (Int32.ofNat kc)), .val (.int (Int32.ofNat kd)), .val (.ref a), .val (.int (0 : Int32)), .val (.int (1 : Int32)), .val (.int (2 : Int32)), .unset, .unset, .unset, .unset] [(.int (1 : Int32))])
        refine i_istore w238 at_284 (l' := #[.val (.int y0), .val (.int y1), .val (.int y2), .val (.int y3), .val (.int y4), .val (.int (3 : Int32)), .val (.int (Int32.ofNat ka)), .val (.int (Int32.ofNat kb)), .val (.int (Int32.ofNat kc)), .val (.int (Int32.ofNat kd)), .val (.ref a), .val (.int (0 : Int32)), .val (.int (1 : Int32)), .val (.int (2 : Int32)), .val (.int (1 : Int32)), .unset, .unset, .unset]) rfl (pc' := 286) rfl ?_
        refine i_iload w238 at_286 rfl (pc' := 288) rfl ?_
        refine i_istore w238 at_288 (l' := #[.val (.int y0), .val (.int y1), .val (.int y2), .val (.int y3), .val (.int y4), .val (.int (3 : Int32)), .val (.int (Int32.ofNat ka)), .val (.int (Int32.ofNat kb)), .val (.int (Int32.ofNat kc)), .val (.int (Int32.ofNat kd)), .val (.ref a), .val (.int (0 : Int32)), .val (.int (1 : Int32)), .val (.int (2 : Int32)), .val (.int (1 : Int32)), .val (.int (2 : Int32)), .unset, .unset]) rfl (pc' := 290) rfl ?_
        refine i_goto w238 at_290 (pc' := 300) (by decide) ?_
        exact own_t3_1_2 l Z a0 hw ka kb kc kd hka hkb hkc hkd y0 y1 y2 y3 y4 a t ct (0 : Int32) (1 : Int32) (2 : Int32) 1 G1 hG SG G3 hG3 SF h0 n0 (w238.mono (by decide) (by decide)) hS (Nat.le_trans (Nat.le_trans (Nat.le_trans hkS K236.1) K237.1) K238.1) S (by decide) (by simp [ixv, ixN, qo0, qc1, qc2]) (by decide) (by simp [ixv, ixN, qo0, qc1, qc2]) rfl (by decide) (by decide) (by decide)
      ·
        rw [show (if 2 < 3 ∧ own_atN 2 ka kb kc kd = 125 then 1 else 0) = (0 : Int32) from (by simp [own_atN, qc2])]
        show Goes p e below _ T238 (mkF m 227 #[.val (.int y0), .val (.int y1), .val (.int y2), .val (.int y3), .val (.int y4), .val (.int (3 : Int32)), .val (.int (Int32.ofNat ka)), .val (.int (Int32.ofNat kb)), .val (.int (Int32.ofNat kc)), .val (.int (Int32.ofNat kd)), .val (.ref a), .val (.int (0 : Int32)), .val (.int (1 : Int32)), .unset, .unset, .unset, .unset, .unset] [(.int (0 : Int32))])
        refine i_if_eq_Y w238 rfl at_227 (pc' := 234) (by decide) ?_
        refine i_iload w238 at_234 rfl (pc' := 236) rfl ?_
        refine i_iconst w238 at_236 (z := (3 : Int32)) (by decide) (pc' := 237) rfl ?_
        refine i_icmp_gt_N w238 (by decide) at_237 (pc' := 240) rfl ?_
        refine i_iconst w238 at_240 (z := (3 : Int32)) (by decide) (pc' := 241) rfl ?_
        refine i_iload w238 at_241 rfl (pc' := 243) rfl ?_
        refine i_bipush w238 at_243 (z := (125 : Int32)) (by decide) (pc' := 245) rfl ?_
        refine i_iload w238 at_245 rfl (pc' := 247) rfl ?_
        refine i_iload w238 at_247 rfl (pc' := 249) rfl ?_
        refine i_iload w238 at_249 rfl (pc' := 251) rfl ?_
        refine i_iload w238 at_251 rfl (pc' := 253) rfl ?_
        refine c_static w238 (y := (⟨"com/example/cluster_lock/clusterlock/redis/LockKeysHashTagPinLaw", "is", "(IICCCCC)Z"⟩ : MethodName)) (argsL := [(.int (3 : Int32)), (.int (3 : Int32)), (.int (125 : Int32)), (.int (Int32.ofNat ka)), (.int (Int32.ofNat kb)), (.int (Int32.ofNat kc)), (.int (Int32.ofNat kd))]) (st := []) at_253 (hw _ (List.mem_of_getElem? (i := 37) rfl)) (hw _ (List.mem_of_getElem? (i := 38) rfl)) (hw _ (List.mem_of_getElem? (i := 2) rfl)) (hw _ (List.mem_of_getElem? (i := 39) rfl)) (by decide) own_pd_pIICCCCCqZ rfl (own_is l Z a0 hw 3 3 125 ka kb kc kd h n0 w238.old (by decide) (by decide) (by decide) hka hkb hkc hkd) rfl (by decide) (W := 0) (Nat.le_of_eq rfl) (by decide) (by decide) (by decide) (fun _ q => nomatch q) (pc' := 256) rfl ?_
        intro v239 T239 h239 w239 K239 q239
        obtain ⟨rfl, rfl⟩ := q239
        show Goes p e below _ T239 (mkF m 256 #[.val (.int y0), .val (.int y1), .val (.int y2), .val (.int y3), .val (.int y4), .val (.int (3 : Int32)), .val (.int (Int32.ofNat ka)), .val (.int (Int32.ofNat kb)), .val (.int (Int32.ofNat kc)), .val (.int (Int32.ofNat kd)), .val (.ref a), .val (.int (0 : Int32)), .val (.int (1 : Int32)), .unset, .unset, .unset, .unset, .unset] [(.int (if 3 < 3 ∧ own_atN 3 ka kb kc kd = 125 then 1 else 0))])
        rw [show (if 3 < 3 ∧ own_atN 3 ka kb kc kd = 125 then 1 else 0) = (0 : Int32) from (by simp)]
        show Goes p e below _ T239 (mkF m 256 #[.val (.int y0), .val (.int y1), .val (.int y2), .val (.int y3), .val (.int y4), .val (.int (3 : Int32)), .val (.int (Int32.ofNat ka)), .val (.int (Int32.ofNat kb)), .val (.int (Int32.ofNat kc)), .val (.int (Int32.ofNat kd)), .val (.ref a), .val (.int (0 : Int32)), .val (.int (1 : Int32)), .unset, .unset, .unset, .unset, .unset] [(.int (0 : Int32))])
        refine i_if_eq_Y w239 rfl at_256 (pc' := 263) (by decide) ?_
        refine i_iconst w239 at_263 (z := (-1 : Int32)) (by decide) (pc' := 264) rfl ?_
        refine i_istore w239 at_264 (l' := #[.val (.int y0), .val (.int y1), .val (.int y2), .val (.int y3), .val (.int y4), .val (.int (3 : Int32)), .val (.int (Int32.ofNat ka)), .val (.int (Int32.ofNat kb)), .val (.int (Int32.ofNat kc)), .val (.int (Int32.ofNat kd)), .val (.ref a), .val (.int (0 : Int32)), .val (.int (1 : Int32)), .val (.int (-1 : Int32)), .unset, .unset, .unset, .unset]) rfl (pc' := 266) rfl ?_
        refine i_iload w239 at_266 rfl (pc' := 268) rfl ?_
        refine i_if_lt_N w239 (by decide) at_268 (pc' := 271) rfl ?_
        refine i_iload w239 at_271 rfl (pc' := 273) rfl ?_
        refine i_iload w239 at_273 rfl (pc' := 275) rfl ?_
        refine i_iconst w239 at_275 (z := (1 : Int32)) (by decide) (pc' := 276) rfl ?_
        refine i_iadd w239 at_276 (pc' := 277) rfl ?_
        refine i_icmp_le_Y w239 (by decide) at_277 (pc' := 293) (by decide) ?_
        refine i_iconst w239 at_293 (z := (0 : Int32)) (by decide) (pc' := 294) rfl ?_
        refine i_istore w239 at_294 (l' := #[.val (.int y0), .val (.int y1), .val (.int y2), .val (.int y3), .val (.int y4), .val (.int (3 : Int32)), .val (.int (Int32.ofNat ka)), .val (.int (Int32.ofNat kb)), .val (.int (Int32.ofNat kc)), .val (.int (Int32.ofNat kd)), .val (.ref a), .val (.int (0 : Int32)), .val (.int (1 : Int32)), .val (.int (-1 : Int32)), .val (.int (0 : Int32)), .unset, .unset, .unset]) rfl (pc' := 296) rfl ?_
        refine i_iload w239 at_296 rfl (pc' := 298) rfl ?_
        refine i_istore w239 at_298 (l' := #[.val (.int y0), .val (.int y1), .val (.int y2), .val (.int y3), .val (.int y4), .val (.int (3 : Int32)), .val (.int (Int32.ofNat ka)), .val (.int (Int32.ofNat kb)), .val (.int (Int32.ofNat kc)), .val (.int (Int32.ofNat kd)), .val (.ref a), .val (.int (0 : Int32)), .val (.int (1 : Int32)), .val (.int (-1 : Int32)), .val (.int (0 : Int32)), .val (.int (3 : Int32)), .unset, .unset]) rfl (pc' := 300) rfl ?_
        exact own_t3_0_3 l Z a0 hw ka kb kc kd hka hkb hkc hkd y0 y1 y2 y3 y4 a t ct (0 : Int32) (1 : Int32) (-1 : Int32) 1 G1 hG SG G3 hG3 SF h0 n0 (w239.mono (by decide) (by decide)) hS (Nat.le_trans (Nat.le_trans (Nat.le_trans (Nat.le_trans hkS K236.1) K237.1) K238.1) K239.1) S (by decide) (by simp [ixv, ixN, qo0, qc1, qc2]) (by decide) (by simp [ixv, ixN, qo0, qc1, qc2]) (Or.inr ⟨by decide, by decide⟩)
  ·
    rw [show (if 0 < 3 ∧ own_atN 0 ka kb kc kd = 123 then 1 else 0) = (0 : Int32) from (by simp [own_atN, qo0])]
    show Goes p e below _ T236 (mkF m 63 #[.val (.int y0), .val (.int y1), .val (.int y2), .val (.int y3), .val (.int y4), .val (.int (3 : Int32)), .val (.int (Int32.ofNat ka)), .val (.int (Int32.ofNat kb)), .val (.int (Int32.ofNat kc)), .val (.int (Int32.ofNat kd)), .val (.ref a), .unset, .unset, .unset, .unset, .unset, .unset, .unset] [(.int (0 : Int32))])
    refine i_if_eq_Y w236 rfl at_63 (pc' := 70) (by decide) ?_
    refine i_iconst w236 at_70 (z := (1 : Int32)) (by decide) (pc' := 71) rfl ?_
    refine i_iload w236 at_71 rfl (pc' := 73) rfl ?_
    refine i_bipush w236 at_73 (z := (123 : Int32)) (by decide) (pc' := 75) rfl ?_
    refine i_iload w236 at_75 rfl (pc' := 77) rfl ?_
    refine i_iload w236 at_77 rfl (pc' := 79) rfl ?_
    refine i_iload w236 at_79 rfl (pc' := 81) rfl ?_
    refine i_iload w236 at_81 rfl (pc' := 83) rfl ?_
    refine c_static w236 (y := (⟨"com/example/cluster_lock/clusterlock/redis/LockKeysHashTagPinLaw", "is", "(IICCCCC)Z"⟩ : MethodName)) (argsL := [(.int (1 : Int32)), (.int (3 : Int32)), (.int (123 : Int32)), (.int (Int32.ofNat ka)), (.int (Int32.ofNat kb)), (.int (Int32.ofNat kc)), (.int (Int32.ofNat kd))]) (st := []) at_83 (hw _ (List.mem_of_getElem? (i := 37) rfl)) (hw _ (List.mem_of_getElem? (i := 38) rfl)) (hw _ (List.mem_of_getElem? (i := 2) rfl)) (hw _ (List.mem_of_getElem? (i := 39) rfl)) (by decide) own_pd_pIICCCCCqZ rfl (own_is l Z a0 hw 1 3 123 ka kb kc kd h n0 w236.old (by decide) (by decide) (by decide) hka hkb hkc hkd) rfl (by decide) (W := 0) (Nat.le_of_eq rfl) (by decide) (by decide) (by decide) (fun _ q => nomatch q) (pc' := 86) rfl ?_
    intro v240 T240 h240 w240 K240 q240
    obtain ⟨rfl, rfl⟩ := q240
    show Goes p e below _ T240 (mkF m 86 #[.val (.int y0), .val (.int y1), .val (.int y2), .val (.int y3), .val (.int y4), .val (.int (3 : Int32)), .val (.int (Int32.ofNat ka)), .val (.int (Int32.ofNat kb)), .val (.int (Int32.ofNat kc)), .val (.int (Int32.ofNat kd)), .val (.ref a), .unset, .unset, .unset, .unset, .unset, .unset, .unset] [(.int (if 1 < 3 ∧ own_atN 1 ka kb kc kd = 123 then 1 else 0))])
    by_cases qo1 : kb = 123
    ·
      rw [show (if 1 < 3 ∧ own_atN 1 ka kb kc kd = 123 then 1 else 0) = (1 : Int32) from (by simp [own_atN, qo1])]
      show Goes p e below _ T240 (mkF m 86 #[.val (.int y0), .val (.int y1), .val (.int y2), .val (.int y3), .val (.int y4), .val (.int (3 : Int32)), .val (.int (Int32.ofNat ka)), .val (.int (Int32.ofNat kb)), .val (.int (Int32.ofNat kc)), .val (.int (Int32.ofNat kd)), .val (.ref a), .unset, .unset, .unset, .unset, .unset, .unset, .unset] [(.int (1 : Int32))])
      refine i_if_eq_N w240 (by decide) at_86 (pc' := 89) rfl ?_
      refine i_iconst w240 at_89 (z := (1 : Int32)) (by decide) (pc' := 90) rfl ?_
      refine i_goto w240 at_90 (pc' := 140) (by decide) ?_
      refine i_istore w240 at_140 (l' := #[.val (.int y0), .val (.int y1), .val (.int y2), .val (.int y3), .val (.int y4), .val (.int (3 : Int32)), .val (.int (Int32.ofNat ka)), .val (.int (Int32.ofNat kb)), .val (.int (Int32.ofNat kc)), .val (.int (Int32.ofNat kd)), .val (.ref a), .val (.int (1 : Int32)), .unset, .unset, .unset, .unset, .unset, .unset]) rfl (pc' := 142) rfl ?_
      refine i_iload w240 at_142 rfl (pc' := 144) rfl ?_
      refine i_iconst w240 at_144 (z := (1 : Int32)) (by decide) (pc' := 145) rfl ?_
      refine i_iadd w240 at_145 (pc' := 146) rfl ?_
      rw [show ((1 : Int32) + (1 : Int32)) = (2 : Int32) from by decide]
      show Goes p e below _ T240 (mkF m 146 #[.val (.int y0), .val (.int y1), .val (.int y2), .val (.int y3), .val (.int y4), .val (.int (3 : Int32)), .val (.int (Int32.ofNat ka)), .val (.int (Int32.ofNat kb)), .val (.int (Int32.ofNat kc)), .val (.int (Int32.ofNat kd)), .val (.ref a), .val (.int (1 : Int32)), .unset, .unset, .unset, .unset, .unset, .unset] [(.int (2 : Int32))])
      refine i_istore w240 at_146 (l' := #[.val (.int y0), .val (.int y1), .val (.int y2), .val (.int y3), .val (.int y4), .val (.int (3 : Int32)), .val (.int (Int32.ofNat ka)), .val (.int (Int32.ofNat kb)), .val (.int (Int32.ofNat kc)), .val (.int (Int32.ofNat kd)), .val (.ref a), .val (.int (1 : Int32)), .val (.int (2 : Int32)), .unset, .unset, .unset, .unset, .unset]) rfl (pc' := 148) rfl ?_
      refine i_iload w240 at_148 rfl (pc' := 150) rfl ?_
      refine i_if_gt_Y w240 (by decide) at_150 (pc' := 176) (by decide) ?_
      refine i_iload w240 at_176 rfl (pc' := 178) rfl ?_
      refine i_iconst w240 at_178 (z := (1 : Int32)) (by decide) (pc' := 179) rfl ?_
      refine i_icmp_gt_Y w240 (by decide) at_179 (pc' := 205) (by decide) ?_
      refine i_iload w240 at_205 rfl (pc' := 207) rfl ?_
      refine i_iconst w240 at_207 (z := (2 : Int32)) (by decide) (pc' := 208) rfl ?_
      refine i_icmp_gt_N w240 (by decide) at_208 (pc' := 211) rfl ?_
      refine i_iconst w240 at_211 (z := (2 : Int32)) (by decide) (pc' := 212) rfl ?_
      refine i_iload w240 at_212 rfl (pc' := 214) rfl ?_
      refine i_bipush w240 at_214 (z := (125 : Int32)) (by decide) (pc' := 216) rfl ?_
      refine i_iload w240 at_216 rfl (pc' := 218) rfl ?_
      refine i_iload w240 at_218 rfl (pc' := 220) rfl ?_
      refine i_iload w240 at_220 rfl (pc' := 222) rfl ?_
      refine i_iload w240 at_222 rfl (pc' := 224) rfl ?_
      refine c_static w240 (y := (⟨"com/example/cluster_lock/clusterlock/redis/LockKeysHashTagPinLaw", "is", "(IICCCCC)Z"⟩ : MethodName)) (argsL := [(.int (2 : Int32)), (.int (3 : Int32)), (.int (125 : Int32)), (.int (Int32.ofNat ka)), (.int (Int32.ofNat kb)), (.int (Int32.ofNat kc)), (.int (Int32.ofNat kd))]) (st := []) at_224 (hw _ (List.mem_of_getElem? (i := 37) rfl)) (hw _ (List.mem_of_getElem? (i := 38) rfl)) (hw _ (List.mem_of_getElem? (i := 2) rfl)) (hw _ (List.mem_of_getElem? (i := 39) rfl)) (by decide) own_pd_pIICCCCCqZ rfl (own_is l Z a0 hw 2 3 125 ka kb kc kd h n0 w240.old (by decide) (by decide) (by decide) hka hkb hkc hkd) rfl (by decide) (W := 0) (Nat.le_of_eq rfl) (by decide) (by decide) (by decide) (fun _ q => nomatch q) (pc' := 227) rfl ?_
      intro v241 T241 h241 w241 K241 q241
      obtain ⟨rfl, rfl⟩ := q241
      show Goes p e below _ T241 (mkF m 227 #[.val (.int y0), .val (.int y1), .val (.int y2), .val (.int y3), .val (.int y4), .val (.int (3 : Int32)), .val (.int (Int32.ofNat ka)), .val (.int (Int32.ofNat kb)), .val (.int (Int32.ofNat kc)), .val (.int (Int32.ofNat kd)), .val (.ref a), .val (.int (1 : Int32)), .val (.int (2 : Int32)), .unset, .unset, .unset, .unset, .unset] [(.int (if 2 < 3 ∧ own_atN 2 ka kb kc kd = 125 then 1 else 0))])
      by_cases qc2 : kc = 125
      ·
        rw [show (if 2 < 3 ∧ own_atN 2 ka kb kc kd = 125 then 1 else 0) = (1 : Int32) from (by simp [own_atN, qc2])]
        show Goes p e below _ T241 (mkF m 227 #[.val (.int y0), .val (.int y1), .val (.int y2), .val (.int y3), .val (.int y4), .val (.int (3 : Int32)), .val (.int (Int32.ofNat ka)), .val (.int (Int32.ofNat kb)), .val (.int (Int32.ofNat kc)), .val (.int (Int32.ofNat kd)), .val (.ref a), .val (.int (1 : Int32)), .val (.int (2 : Int32)), .unset, .unset, .unset, .unset, .unset] [(.int (1 : Int32))])
        refine i_if_eq_N w241 (by decide) at_227 (pc' := 230) rfl ?_
        refine i_iconst w241 at_230 (z := (2 : Int32)) (by decide) (pc' := 231) rfl ?_
        refine i_goto w241 at_231 (pc' := 264) (by decide) ?_
        refine i_istore w241 at_264 (l' := #[.val (.int y0), .val (.int y1), .val (.int y2), .val (.int y3), .val (.int y4), .val (.int (3 : Int32)), .val (.int (Int32.ofNat ka)), .val (.int (Int32.ofNat kb)), .val (.int (Int32.ofNat kc)), .val (.int (Int32.ofNat kd)), .val (.ref a), .val (.int (1 : Int32)), .val (.int (2 : Int32)), .val (.int (2 : Int32)), .unset, .unset, .unset, .unset]) rfl (pc' := 266) rfl ?_
        refine i_iload w241 at_266 rfl (pc' := 268) rfl ?_
        refine i_if_lt_N w241 (by decide) at_268 (pc' := 271) rfl ?_
        refine i_iload w241 at_271 rfl (pc' := 273) rfl ?_
        refine i_iload w241 at_273 rfl (pc' := 275) rfl ?_
        refine i_iconst w241 at_275 (z := (1 : Int32)) (by decide) (pc' := 276) rfl ?_
        refine i_iadd w241 at_276 (pc' := 277) rfl ?_
        refine i_icmp_le_Y w241 (by decide) at_277 (pc' := 293) (by decide) ?_
        refine i_iconst w241 at_293 (z := (0 : Int32)) (by decide) (pc' := 294) rfl ?_
        refine i_istore w241 at_294 (l' := #[.val (.int y0), .val (.int y1), .val (.int y2), .val (.int y3), .val (.int y4), .val (.int (3 : Int32)), .val (.int (Int32.ofNat ka)), .val (.int (Int32.ofNat kb)), .val (.int (Int32.ofNat kc)), .val (.int (Int32.ofNat kd)), .val (.ref a), .val (.int (1 : Int32)), .val (.int (2 : Int32)), .val (.int (2 : Int32)), .val (.int (0 : Int32)), .unset, .unset, .unset]) rfl (pc' := 296) rfl ?_
        refine i_iload w241 at_296 rfl (pc' := 298) rfl ?_
        refine i_istore w241 at_298 (l' := #[.val (.int y0), .val (.int y1), .val (.int y2), .val (.int y3), .val (.int y4), .val (.int (3 : Int32)), .val (.int (Int32.ofNat ka)), .val (.int (Int32.ofNat kb)), .val (.int (Int32.ofNat kc)), .val (.int (Int32.ofNat kd)), .val (.ref a), .val (.int (1 : Int32)), .val (.int (2 : Int32)), .val (.int (2 : Int32)), .val (.int (0 : Int32)), .val (.int (3 : Int32)), .unset, .unset]) rfl (pc' := 300) rfl ?_
        exact own_t3_0_3 l Z a0 hw ka kb kc kd hka hkb hkc hkd y0 y1 y2 y3 y4 a t ct (1 : Int32) (2 : Int32) (2 : Int32) 2 G1 hG SG G3 hG3 SF h0 n0 (w241.mono (by decide) (by decide)) hS (Nat.le_trans (Nat.le_trans (Nat.le_trans hkS K236.1) K240.1) K241.1) S (by decide) (by simp [ixv, ixN, qo0, qo1, qc2]) (by decide) (by simp [ixv, ixN, qo0, qo1, qc2]) (Or.inr ⟨by decide, by decide⟩)
      ·
        rw [show (if 2 < 3 ∧ own_atN 2 ka kb kc kd = 125 then 1 else 0) = (0 : Int32) from (by simp [own_atN, qc2])]
        show Goes p e below _ T241 (mkF m 227 #[.val (.int y0), .val (.int y1), .val (.int y2), .val (.int y3), .val (.int y4), .val (.int (3 : Int32)), .val (.int (Int32.ofNat ka)), .val (.int (Int32.ofNat kb)), .val (.int (Int32.ofNat kc)), .val (.int (Int32.ofNat kd)), .val (.ref a), .val (.int (1 : Int32)), .val (.int (2 : Int32)), .unset, .unset, .unset, .unset, .unset] [(.int (0 : Int32))])
        refine i_if_eq_Y w241 rfl at_227 (pc' := 234) (by decide) ?_
        refine i_iload w241 at_234 rfl (pc' := 236) rfl ?_
        refine i_iconst w241 at_236 (z := (3 : Int32)) (by decide) (pc' := 237) rfl ?_
        refine i_icmp_gt_N w241 (by decide) at_237 (pc' := 240) rfl ?_
        refine i_iconst w241 at_240 (z := (3 : Int32)) (by decide) (pc' := 241) rfl ?_
        refine i_iload w241 at_241 rfl (pc' := 243) rfl ?_
        refine i_bipush w241 at_243 (z := (125 : Int32)) (by decide) (pc' := 245) rfl ?_
        refine i_iload w241 at_245 rfl (pc' := 247) rfl ?_
        refine i_iload w241 at_247 rfl (pc' := 249) rfl ?_
        refine i_iload w241 at_249 rfl (pc' := 251) rfl ?_
        refine i_iload w241 at_251 rfl (pc' := 253) rfl ?_
        refine c_static w241 (y := (⟨"com/example/cluster_lock/clusterlock/redis/LockKeysHashTagPinLaw", "is", "(IICCCCC)Z"⟩ : MethodName)) (argsL := [(.int (3 : Int32)), (.int (3 : Int32)), (.int (125 : Int32)), (.int (Int32.ofNat ka)), (.int (Int32.ofNat kb)), (.int (Int32.ofNat kc)), (.int (Int32.ofNat kd))]) (st := []) at_253 (hw _ (List.mem_of_getElem? (i := 37) rfl)) (hw _ (List.mem_of_getElem? (i := 38) rfl)) (hw _ (List.mem_of_getElem? (i := 2) rfl)) (hw _ (List.mem_of_getElem? (i := 39) rfl)) (by decide) own_pd_pIICCCCCqZ rfl (own_is l Z a0 hw 3 3 125 ka kb kc kd h n0 w241.old (by decide) (by decide) (by decide) hka hkb hkc hkd) rfl (by decide) (W := 0) (Nat.le_of_eq rfl) (by decide) (by decide) (by decide) (fun _ q => nomatch q) (pc' := 256) rfl ?_
        intro v242 T242 h242 w242 K242 q242
        obtain ⟨rfl, rfl⟩ := q242
        show Goes p e below _ T242 (mkF m 256 #[.val (.int y0), .val (.int y1), .val (.int y2), .val (.int y3), .val (.int y4), .val (.int (3 : Int32)), .val (.int (Int32.ofNat ka)), .val (.int (Int32.ofNat kb)), .val (.int (Int32.ofNat kc)), .val (.int (Int32.ofNat kd)), .val (.ref a), .val (.int (1 : Int32)), .val (.int (2 : Int32)), .unset, .unset, .unset, .unset, .unset] [(.int (if 3 < 3 ∧ own_atN 3 ka kb kc kd = 125 then 1 else 0))])
        rw [show (if 3 < 3 ∧ own_atN 3 ka kb kc kd = 125 then 1 else 0) = (0 : Int32) from (by simp)]
        show Goes p e below _ T242 (mkF m 256 #[.val (.int y0), .val (.int y1), .val (.int y2), .val (.int y3), .val (.int y4), .val (.int (3 : Int32)), .val (.int (Int32.ofNat ka)), .val (.int (Int32.ofNat kb)), .val (.int (Int32.ofNat kc)), .val (.int (Int32.ofNat kd)), .val (.ref a), .val (.int (1 : Int32)), .val (.int (2 : Int32)), .unset, .unset, .unset, .unset, .unset] [(.int (0 : Int32))])
        refine i_if_eq_Y w242 rfl at_256 (pc' := 263) (by decide) ?_
        refine i_iconst w242 at_263 (z := (-1 : Int32)) (by decide) (pc' := 264) rfl ?_
        refine i_istore w242 at_264 (l' := #[.val (.int y0), .val (.int y1), .val (.int y2), .val (.int y3), .val (.int y4), .val (.int (3 : Int32)), .val (.int (Int32.ofNat ka)), .val (.int (Int32.ofNat kb)), .val (.int (Int32.ofNat kc)), .val (.int (Int32.ofNat kd)), .val (.ref a), .val (.int (1 : Int32)), .val (.int (2 : Int32)), .val (.int (-1 : Int32)), .unset, .unset, .unset, .unset]) rfl (pc' := 266) rfl ?_
        refine i_iload w242 at_266 rfl (pc' := 268) rfl ?_
        refine i_if_lt_N w242 (by decide) at_268 (pc' := 271) rfl ?_
        refine i_iload w242 at_271 rfl (pc' := 273) rfl ?_
        refine i_iload w242 at_273 rfl (pc' := 275) rfl ?_
        refine i_iconst w242 at_275 (z := (1 : Int32)) (by decide) (pc' := 276) rfl ?_
        refine i_iadd w242 at_276 (pc' := 277) rfl ?_
        refine i_icmp_le_Y w242 (by decide) at_277 (pc' := 293) (by decide) ?_
        refine i_iconst w242 at_293 (z := (0 : Int32)) (by decide) (pc' := 294) rfl ?_
        refine i_istore w242 at_294 (l' := #[.val (.int y0), .val (.int y1), .val (.int y2), .val (.int y3), .val (.int y4), .val (.int (3 : Int32)), .val (.int (Int32.ofNat ka)), .val (.int (Int32.ofNat kb)), .val (.int (Int32.ofNat kc)), .val (.int (Int32.ofNat kd)), .val (.ref a), .val (.int (1 : Int32)), .val (.int (2 : Int32)), .val (.int (-1 : Int32)), .val (.int (0 : Int32)), .unset, .unset, .unset]) rfl (pc' := 296) rfl ?_
        refine i_iload w242 at_296 rfl (pc' := 298) rfl ?_
        refine i_istore w242 at_298 (l' := #[.val (.int y0), .val (.int y1), .val (.int y2), .val (.int y3), .val (.int y4), .val (.int (3 : Int32)), .val (.int (Int32.ofNat ka)), .val (.int (Int32.ofNat kb)), .val (.int (Int32.ofNat kc)), .val (.int (Int32.ofNat kd)), .val (.ref a), .val (.int (1 : Int32)), .val (.int (2 : Int32)), .val (.int (-1 : Int32)), .val (.int (0 : Int32)), .val (.int (3 : Int32)), .unset, .unset]) rfl (pc' := 300) rfl ?_
        exact own_t3_0_3 l Z a0 hw ka kb kc kd hka hkb hkc hkd y0 y1 y2 y3 y4 a t ct (1 : Int32) (2 : Int32) (-1 : Int32) 2 G1 hG SG G3 hG3 SF h0 n0 (w242.mono (by decide) (by decide)) hS (Nat.le_trans (Nat.le_trans (Nat.le_trans (Nat.le_trans hkS K236.1) K240.1) K241.1) K242.1) S (by decide) (by simp [ixv, ixN, qo0, qo1, qc2]) (by decide) (by simp [ixv, ixN, qo0, qo1, qc2]) (Or.inr ⟨by decide, by decide⟩)
    ·
      rw [show (if 1 < 3 ∧ own_atN 1 ka kb kc kd = 123 then 1 else 0) = (0 : Int32) from (by simp [own_atN, qo1])]
      show Goes p e below _ T240 (mkF m 86 #[.val (.int y0), .val (.int y1), .val (.int y2), .val (.int y3), .val (.int y4), .val (.int (3 : Int32)), .val (.int (Int32.ofNat ka)), .val (.int (Int32.ofNat kb)), .val (.int (Int32.ofNat kc)), .val (.int (Int32.ofNat kd)), .val (.ref a), .unset, .unset, .unset, .unset, .unset, .unset, .unset] [(.int (0 : Int32))])
      refine i_if_eq_Y w240 rfl at_86 (pc' := 93) (by decide) ?_
      refine i_iconst w240 at_93 (z := (2 : Int32)) (by decide) (pc' := 94) rfl ?_
      refine i_iload w240 at_94 rfl (pc' := 96) rfl ?_
      refine i_bipush w240 at_96 (z := (123 : Int32)) (by decide) (pc' := 98) rfl ?_
      refine i_iload w240 at_98 rfl (pc' := 100) rfl ?_
      refine i_iload w240 at_100 rfl (pc' := 102) rfl ?_
      refine i_iload w240 at_102 rfl (pc' := 104) rfl ?_
      refine i_iload w240 at_104 rfl (pc' := 106) rfl ?_
      refine c_static w240 (y := (⟨"com/example/cluster_lock/clusterlock/redis/LockKeysHashTagPinLaw", "is", "(IICCCCC)Z"⟩ : MethodName)) (argsL := [(.int (2 : Int32)), (.int (3 : Int32)), (.int (123 : Int32)), (.int (Int32.ofNat ka)), (.int (Int32.ofNat kb)), (.int (Int32.ofNat kc)), (.int (Int32.ofNat kd))]) (st := []) at_106 (hw _ (List.mem_of_getElem? (i := 37) rfl)) (hw _ (List.mem_of_getElem? (i := 38) rfl)) (hw _ (List.mem_of_getElem? (i := 2) rfl)) (hw _ (List.mem_of_getElem? (i := 39) rfl)) (by decide) own_pd_pIICCCCCqZ rfl (own_is l Z a0 hw 2 3 123 ka kb kc kd h n0 w240.old (by decide) (by decide) (by decide) hka hkb hkc hkd) rfl (by decide) (W := 0) (Nat.le_of_eq rfl) (by decide) (by decide) (by decide) (fun _ q => nomatch q) (pc' := 109) rfl ?_
      intro v243 T243 h243 w243 K243 q243
      obtain ⟨rfl, rfl⟩ := q243
      show Goes p e below _ T243 (mkF m 109 #[.val (.int y0), .val (.int y1), .val (.int y2), .val (.int y3), .val (.int y4), .val (.int (3 : Int32)), .val (.int (Int32.ofNat ka)), .val (.int (Int32.ofNat kb)), .val (.int (Int32.ofNat kc)), .val (.int (Int32.ofNat kd)), .val (.ref a), .unset, .unset, .unset, .unset, .unset, .unset, .unset] [(.int (if 2 < 3 ∧ own_atN 2 ka kb kc kd = 123 then 1 else 0))])
      by_cases qo2 : kc = 123
      ·
        rw [show (if 2 < 3 ∧ own_atN 2 ka kb kc kd = 123 then 1 else 0) = (1 : Int32) from (by simp [own_atN, qo2])]
        show Goes p e below _ T243 (mkF m 109 #[.val (.int y0), .val (.int y1), .val (.int y2), .val (.int y3), .val (.int y4), .val (.int (3 : Int32)), .val (.int (Int32.ofNat ka)), .val (.int (Int32.ofNat kb)), .val (.int (Int32.ofNat kc)), .val (.int (Int32.ofNat kd)), .val (.ref a), .unset, .unset, .unset, .unset, .unset, .unset, .unset] [(.int (1 : Int32))])
        refine i_if_eq_N w243 (by decide) at_109 (pc' := 112) rfl ?_
        refine i_iconst w243 at_112 (z := (2 : Int32)) (by decide) (pc' := 113) rfl ?_
        refine i_goto w243 at_113 (pc' := 140) (by decide) ?_
        refine i_istore w243 at_140 (l' := #[.val (.int y0), .val (.int y1), .val (.int y2), .val (.int y3), .val (.int y4), .val (.int (3 : Int32)), .val (.int (Int32.ofNat ka)), .val (.int (Int32.ofNat kb)), .val (.int (Int32.ofNat kc)), .val (.int (Int32.ofNat kd)), .val (.ref a), .val (.int (2 : Int32)), .unset, .unset, .unset, .unset, .unset, .unset]) rfl (pc' := 142) rfl ?_
        refine i_iload w243 at_142 rfl (pc' := 144) rfl ?_
        refine i_iconst w243 at_144 (z := (1 : Int32)) (by decide) (pc' := 145) rfl ?_
        refine i_iadd w243 at_145 (pc' := 146) rfl ?_
        rw [show ((2 : Int32) + (1 : Int32)) = (3 : Int32) from by decide]
        show Goes p e below _ T243 (mkF m 146 #[.val (.int y0), .val (.int y1), .val (.int y2), .val (.int y3), .val (.int y4), .val (.int (3 : Int32)), .val (.int (Int32.ofNat ka)), .val (.int (Int32.ofNat kb)), .val (.int (Int32.ofNat kc)), .val (.int (Int32.ofNat kd)), .val (.ref a), .val (.int (2 : Int32)), .unset, .unset, .unset, .unset, .unset, .unset] [(.int (3 : Int32))])
        refine i_istore w243 at_146 (l' := #[.val (.int y0), .val (.int y1), .val (.int y2), .val (.int y3), .val (.int y4), .val (.int (3 : Int32)), .val (.int (Int32.ofNat ka)), .val (.int (Int32.ofNat kb)), .val (.int (Int32.ofNat kc)), .val (.int (Int32.ofNat kd)), .val (.ref a), .val (.int (2 : Int32)), .val (.int (3 : Int32)), .unset, .unset, .unset, .unset, .unset]) rfl (pc' := 148) rfl ?_
        refine i_iload w243 at_148 rfl (pc' := 150) rfl ?_
        refine i_if_gt_Y w243 (by decide) at_150 (pc' := 176) (by decide) ?_
        refine i_iload w243 at_176 rfl (pc' := 178) rfl ?_
        refine i_iconst w243 at_178 (z := (1 : Int32)) (by decide) (pc' := 179) rfl ?_
        refine i_icmp_gt_Y w243 (by decide) at_179 (pc' := 205) (by decide) ?_
        refine i_iload w243 at_205 rfl (pc' := 207) rfl ?_
        refine i_iconst w243 at_207 (z := (2 : Int32)) (by decide) (pc' := 208) rfl ?_
        refine i_icmp_gt_Y w243 (by decide) at_208 (pc' := 234) (by decide) ?_
        refine i_iload w243 at_234 rfl (pc' := 236) rfl ?_
        refine i_iconst w243 at_236 (z := (3 : Int32)) (by decide) (pc' := 237) rfl ?_
        refine i_icmp_gt_N w243 (by decide) at_237 (pc' := 240) rfl ?_
        refine i_iconst w243 at_240 (z := (3 : Int32)) (by decide) (pc' := 241) rfl ?_
        refine i_iload w243 at_241 rfl (pc' := 243) rfl ?_
        refine i_bipush w243 at_243 (z := (125 : Int32)) (by decide) (pc' := 245) rfl ?_
        refine i_iload w243 at_245 rfl (pc' := 247) rfl ?_
        refine i_iload w243 at_247 rfl (pc' := 249) rfl ?_
        refine i_iload w243 at_249 rfl (pc' := 251) rfl ?_
        refine i_iload w243 at_251 rfl (pc' := 253) rfl ?_
        refine c_static w243 (y := (⟨"com/example/cluster_lock/clusterlock/redis/LockKeysHashTagPinLaw", "is", "(IICCCCC)Z"⟩ : MethodName)) (argsL := [(.int (3 : Int32)), (.int (3 : Int32)), (.int (125 : Int32)), (.int (Int32.ofNat ka)), (.int (Int32.ofNat kb)), (.int (Int32.ofNat kc)), (.int (Int32.ofNat kd))]) (st := []) at_253 (hw _ (List.mem_of_getElem? (i := 37) rfl)) (hw _ (List.mem_of_getElem? (i := 38) rfl)) (hw _ (List.mem_of_getElem? (i := 2) rfl)) (hw _ (List.mem_of_getElem? (i := 39) rfl)) (by decide) own_pd_pIICCCCCqZ rfl (own_is l Z a0 hw 3 3 125 ka kb kc kd h n0 w243.old (by decide) (by decide) (by decide) hka hkb hkc hkd) rfl (by decide) (W := 0) (Nat.le_of_eq rfl) (by decide) (by decide) (by decide) (fun _ q => nomatch q) (pc' := 256) rfl ?_
        intro v244 T244 h244 w244 K244 q244
        obtain ⟨rfl, rfl⟩ := q244
        show Goes p e below _ T244 (mkF m 256 #[.val (.int y0), .val (.int y1), .val (.int y2), .val (.int y3), .val (.int y4), .val (.int (3 : Int32)), .val (.int (Int32.ofNat ka)), .val (.int (Int32.ofNat kb)), .val (.int (Int32.ofNat kc)), .val (.int (Int32.ofNat kd)), .val (.ref a), .val (.int (2 : Int32)), .val (.int (3 : Int32)), .unset, .unset, .unset, .unset, .unset] [(.int (if 3 < 3 ∧ own_atN 3 ka kb kc kd = 125 then 1 else 0))])
        rw [show (if 3 < 3 ∧ own_atN 3 ka kb kc kd = 125 then 1 else 0) = (0 : Int32) from (by simp)]
        show Goes p e below _ T244 (mkF m 256 #[.val (.int y0), .val (.int y1), .val (.int y2), .val (.int y3), .val (.int y4), .val (.int (3 : Int32)), .val (.int (Int32.ofNat ka)), .val (.int (Int32.ofNat kb)), .val (.int (Int32.ofNat kc)), .val (.int (Int32.ofNat kd)), .val (.ref a), .val (.int (2 : Int32)), .val (.int (3 : Int32)), .unset, .unset, .unset, .unset, .unset] [(.int (0 : Int32))])
        refine i_if_eq_Y w244 rfl at_256 (pc' := 263) (by decide) ?_
        refine i_iconst w244 at_263 (z := (-1 : Int32)) (by decide) (pc' := 264) rfl ?_
        refine i_istore w244 at_264 (l' := #[.val (.int y0), .val (.int y1), .val (.int y2), .val (.int y3), .val (.int y4), .val (.int (3 : Int32)), .val (.int (Int32.ofNat ka)), .val (.int (Int32.ofNat kb)), .val (.int (Int32.ofNat kc)), .val (.int (Int32.ofNat kd)), .val (.ref a), .val (.int (2 : Int32)), .val (.int (3 : Int32)), .val (.int (-1 : Int32)), .unset, .unset, .unset, .unset]) rfl (pc' := 266) rfl ?_
        refine i_iload w244 at_266 rfl (pc' := 268) rfl ?_
        refine i_if_lt_N w244 (by decide) at_268 (pc' := 271) rfl ?_
        refine i_iload w244 at_271 rfl (pc' := 273) rfl ?_
        refine i_iload w244 at_273 rfl (pc' := 275) rfl ?_
        refine i_iconst w244 at_275 (z := (1 : Int32)) (by decide) (pc' := 276) rfl ?_
        refine i_iadd w244 at_276 (pc' := 277) rfl ?_
        refine i_icmp_le_Y w244 (by decide) at_277 (pc' := 293) (by decide) ?_
        refine i_iconst w244 at_293 (z := (0 : Int32)) (by decide) (pc' := 294) rfl ?_
        refine i_istore w244 at_294 (l' := #[.val (.int y0), .val (.int y1), .val (.int y2), .val (.int y3), .val (.int y4), .val (.int (3 : Int32)), .val (.int (Int32.ofNat ka)), .val (.int (Int32.ofNat kb)), .val (.int (Int32.ofNat kc)), .val (.int (Int32.ofNat kd)), .val (.ref a), .val (.int (2 : Int32)), .val (.int (3 : Int32)), .val (.int (-1 : Int32)), .val (.int (0 : Int32)), .unset, .unset, .unset]) rfl (pc' := 296) rfl ?_
        refine i_iload w244 at_296 rfl (pc' := 298) rfl ?_
        refine i_istore w244 at_298 (l' := #[.val (.int y0), .val (.int y1), .val (.int y2), .val (.int y3), .val (.int y4), .val (.int (3 : Int32)), .val (.int (Int32.ofNat ka)), .val (.int (Int32.ofNat kb)), .val (.int (Int32.ofNat kc)), .val (.int (Int32.ofNat kd)), .val (.ref a), .val (.int (2 : Int32)), .val (.int (3 : Int32)), .val (.int (-1 : Int32)), .val (.int (0 : Int32)), .val (.int (3 : Int32)), .unset, .unset]) rfl (pc' := 300) rfl ?_
        exact own_t3_0_3 l Z a0 hw ka kb kc kd hka hkb hkc hkd y0 y1 y2 y3 y4 a t ct (2 : Int32) (3 : Int32) (-1 : Int32) 3 G1 hG SG G3 hG3 SF h0 n0 (w244.mono (by decide) (by decide)) hS (Nat.le_trans (Nat.le_trans (Nat.le_trans (Nat.le_trans hkS K236.1) K240.1) K243.1) K244.1) S (by decide) (by simp [ixv, ixN, qo0, qo1, qo2]) (by decide) (by simp [ixv, ixN, qo0, qo1, qo2]) (Or.inr ⟨by decide, by decide⟩)
      ·
        rw [show (if 2 < 3 ∧ own_atN 2 ka kb kc kd = 123 then 1 else 0) = (0 : Int32) from (by simp [own_atN, qo2])]
        show Goes p e below _ T243 (mkF m 109 #[.val (.int y0), .val (.int y1), .val (.int y2), .val (.int y3), .val (.int y4), .val (.int (3 : Int32)), .val (.int (Int32.ofNat ka)), .val (.int (Int32.ofNat kb)), .val (.int (Int32.ofNat kc)), .val (.int (Int32.ofNat kd)), .val (.ref a), .unset, .unset, .unset, .unset, .unset, .unset, .unset] [(.int (0 : Int32))])
        refine i_if_eq_Y w243 rfl at_109 (pc' := 116) (by decide) ?_
        refine i_iconst w243 at_116 (z := (3 : Int32)) (by decide) (pc' := 117) rfl ?_
        refine i_iload w243 at_117 rfl (pc' := 119) rfl ?_
        refine i_bipush w243 at_119 (z := (123 : Int32)) (by decide) (pc' := 121) rfl ?_
        refine i_iload w243 at_121 rfl (pc' := 123) rfl ?_
        refine i_iload w243 at_123 rfl (pc' := 125) rfl ?_
        refine i_iload w243 at_125 rfl (pc' := 127) rfl ?_
        refine i_iload w243 at_127 rfl (pc' := 129) rfl ?_
        refine c_static w243 (y := (⟨"com/example/cluster_lock/clusterlock/redis/LockKeysHashTagPinLaw", "is", "(IICCCCC)Z"⟩ : MethodName)) (argsL := [(.int (3 : Int32)), (.int (3 : Int32)), (.int (123 : Int32)), (.int (Int32.ofNat ka)), (.int (Int32.ofNat kb)), (.int (Int32.ofNat kc)), (.int (Int32.ofNat kd))]) (st := []) at_129 (hw _ (List.mem_of_getElem? (i := 37) rfl)) (hw _ (List.mem_of_getElem? (i := 38) rfl)) (hw _ (List.mem_of_getElem? (i := 2) rfl)) (hw _ (List.mem_of_getElem? (i := 39) rfl)) (by decide) own_pd_pIICCCCCqZ rfl (own_is l Z a0 hw 3 3 123 ka kb kc kd h n0 w243.old (by decide) (by decide) (by decide) hka hkb hkc hkd) rfl (by decide) (W := 0) (Nat.le_of_eq rfl) (by decide) (by decide) (by decide) (fun _ q => nomatch q) (pc' := 132) rfl ?_
        intro v245 T245 h245 w245 K245 q245
        obtain ⟨rfl, rfl⟩ := q245
        show Goes p e below _ T245 (mkF m 132 #[.val (.int y0), .val (.int y1), .val (.int y2), .val (.int y3), .val (.int y4), .val (.int (3 : Int32)), .val (.int (Int32.ofNat ka)), .val (.int (Int32.ofNat kb)), .val (.int (Int32.ofNat kc)), .val (.int (Int32.ofNat kd)), .val (.ref a), .unset, .unset, .unset, .unset, .unset, .unset, .unset] [(.int (if 3 < 3 ∧ own_atN 3 ka kb kc kd = 123 then 1 else 0))])
        rw [show (if 3 < 3 ∧ own_atN 3 ka kb kc kd = 123 then 1 else 0) = (0 : Int32) from (by simp)]
        show Goes p e below _ T245 (mkF m 132 #[.val (.int y0), .val (.int y1), .val (.int y2), .val (.int y3), .val (.int y4), .val (.int (3 : Int32)), .val (.int (Int32.ofNat ka)), .val (.int (Int32.ofNat kb)), .val (.int (Int32.ofNat kc)), .val (.int (Int32.ofNat kd)), .val (.ref a), .unset, .unset, .unset, .unset, .unset, .unset, .unset] [(.int (0 : Int32))])
        refine i_if_eq_Y w245 rfl at_132 (pc' := 139) (by decide) ?_
        refine i_iconst w245 at_139 (z := (-1 : Int32)) (by decide) (pc' := 140) rfl ?_
        refine i_istore w245 at_140 (l' := #[.val (.int y0), .val (.int y1), .val (.int y2), .val (.int y3), .val (.int y4), .val (.int (3 : Int32)), .val (.int (Int32.ofNat ka)), .val (.int (Int32.ofNat kb)), .val (.int (Int32.ofNat kc)), .val (.int (Int32.ofNat kd)), .val (.ref a), .val (.int (-1 : Int32)), .unset, .unset, .unset, .unset, .unset, .unset]) rfl (pc' := 142) rfl ?_
        refine i_iload w245 at_142 rfl (pc' := 144) rfl ?_
        refine i_iconst w245 at_144 (z := (1 : Int32)) (by decide) (pc' := 145) rfl ?_
        refine i_iadd w245 at_145 (pc' := 146) rfl ?_
        rw [show ((-1 : Int32) + (1 : Int32)) = (0 : Int32) from by decide]
        show Goes p e below _ T245 (mkF m 146 #[.val (.int y0), .val (.int y1), .val (.int y2), .val (.int y3), .val (.int y4), .val (.int (3 : Int32)), .val (.int (Int32.ofNat ka)), .val (.int (Int32.ofNat kb)), .val (.int (Int32.ofNat kc)), .val (.int (Int32.ofNat kd)), .val (.ref a), .val (.int (-1 : Int32)), .unset, .unset, .unset, .unset, .unset, .unset] [(.int (0 : Int32))])
        refine i_istore w245 at_146 (l' := #[.val (.int y0), .val (.int y1), .val (.int y2), .val (.int y3), .val (.int y4), .val (.int (3 : Int32)), .val (.int (Int32.ofNat ka)), .val (.int (Int32.ofNat kb)), .val (.int (Int32.ofNat kc)), .val (.int (Int32.ofNat kd)), .val (.ref a), .val (.int (-1 : Int32)), .val (.int (0 : Int32)), .unset, .unset, .unset, .unset, .unset]) rfl (pc' := 148) rfl ?_
        refine i_iload w245 at_148 rfl (pc' := 150) rfl ?_
        refine i_if_gt_N w245 (by decide) at_150 (pc' := 153) rfl ?_
        refine i_iconst w245 at_153 (z := (0 : Int32)) (by decide) (pc' := 154) rfl ?_
        refine i_iload w245 at_154 rfl (pc' := 156) rfl ?_
        refine i_bipush w245 at_156 (z := (125 : Int32)) (by decide) (pc' := 158) rfl ?_
        refine i_iload w245 at_158 rfl (pc' := 160) rfl ?_
        refine i_iload w245 at_160 rfl (pc' := 162) rfl ?_
        refine i_iload w245 at_162 rfl (pc' := 164) rfl ?_
        refine i_iload w245 at_164 rfl (pc' := 166) rfl ?_
        refine c_static w245 (y := (⟨"com/example/cluster_lock/clusterlock/redis/LockKeysHashTagPinLaw", "is", "(IICCCCC)Z"⟩ : MethodName)) (argsL := [(.int (0 : Int32)), (.int (3 : Int32)), (.int (125 : Int32)), (.int (Int32.ofNat ka)), (.int (Int32.ofNat kb)), (.int (Int32.ofNat kc)), (.int (Int32.ofNat kd))]) (st := []) at_166 (hw _ (List.mem_of_getElem? (i := 37) rfl)) (hw _ (List.mem_of_getElem? (i := 38) rfl)) (hw _ (List.mem_of_getElem? (i := 2) rfl)) (hw _ (List.mem_of_getElem? (i := 39) rfl)) (by decide) own_pd_pIICCCCCqZ rfl (own_is l Z a0 hw 0 3 125 ka kb kc kd h n0 w245.old (by decide) (by decide) (by decide) hka hkb hkc hkd) rfl (by decide) (W := 0) (Nat.le_of_eq rfl) (by decide) (by decide) (by decide) (fun _ q => nomatch q) (pc' := 169) rfl ?_
        intro v246 T246 h246 w246 K246 q246
        obtain ⟨rfl, rfl⟩ := q246
        show Goes p e below _ T246 (mkF m 169 #[.val (.int y0), .val (.int y1), .val (.int y2), .val (.int y3), .val (.int y4), .val (.int (3 : Int32)), .val (.int (Int32.ofNat ka)), .val (.int (Int32.ofNat kb)), .val (.int (Int32.ofNat kc)), .val (.int (Int32.ofNat kd)), .val (.ref a), .val (.int (-1 : Int32)), .val (.int (0 : Int32)), .unset, .unset, .unset, .unset, .unset] [(.int (if 0 < 3 ∧ own_atN 0 ka kb kc kd = 125 then 1 else 0))])
        by_cases qc0 : ka = 125
        ·
          rw [show (if 0 < 3 ∧ own_atN 0 ka kb kc kd = 125 then 1 else 0) = (1 : Int32) from (by simp [own_atN, qc0])]
          show Goes p e below _ T246 (mkF m 169 #[.val (.int y0), .val (.int y1), .val (.int y2), .val (.int y3), .val (.int y4), .val (.int (3 : Int32)), .val (.int (Int32.ofNat ka)), .val (.int (Int32.ofNat kb)), .val (.int (Int32.ofNat kc)), .val (.int (Int32.ofNat kd)), .val (.ref a), .val (.int (-1 : Int32)), .val (.int (0 : Int32)), .unset, .unset, .unset, .unset, .unset] [(.int (1 : Int32))])
          refine i_if_eq_N w246 (by decide) at_169 (pc' := 172) rfl ?_
          refine i_iconst w246 at_172 (z := (0 : Int32)) (by decide) (pc' := 173) rfl ?_
          refine i_goto w246 at_173 (pc' := 264) (by decide) ?_
          refine i_istore w246 at_264 (l' := #[.val (.int y0), .val (.int y1), .val (.int y2), .val (.int y3), .val (.int y4), .val (.int (3 : Int32)), .val (.int (Int32.ofNat ka)), .val (.int (Int32.ofNat kb)), .val (.int (Int32.ofNat kc)), .val (.int (Int32.ofNat kd)), .val (.ref a), .val (.int (-1 : Int32)), .val (.int (0 : Int32)), .val (.int (0 : Int32)), .unset, .unset, .unset, .unset]) rfl (pc' := 266) rfl ?_
          refine i_iload w246 at_266 rfl (pc' := 268) rfl ?_
          refine i_if_lt_Y w246 (by decide) at_268 (pc' := 293) (by decide) ?_
          refine i_iconst w246 at_293 (z := (0 : Int32)) (by decide) (pc' := 294) rfl ?_
          refine i_istore w246 at_294 (l' := #[.val (.int y0), .val (.int y1), .val (.int y2), .val (.int y3), .val (.int y4), .val (.int (3 : Int32)), .val (.int (Int32.ofNat ka)), .val (.int (Int32.ofNat kb)), .val (.int (Int32.ofNat kc)), .val (.int (Int32.ofNat kd)), .val (.ref a), .val (.int (-1 : Int32)), .val (.int (0 : Int32)), .val (.int (0 : Int32)), .val (.int (0 : Int32)), .unset, .unset, .unset]) rfl (pc' := 296) rfl ?_
          refine i_iload w246 at_296 rfl (pc' := 298) rfl ?_
          refine i_istore w246 at_298 (l' := #[.val (.int y0), .val (.int y1), .val (.int y2), .val (.int y3), .val (.int y4), .val (.int (3 : Int32)), .val (.int (Int32.ofNat ka)), .val (.int (Int32.ofNat kb)), .val (.int (Int32.ofNat kc)), .val (.int (Int32.ofNat kd)), .val (.ref a), .val (.int (-1 : Int32)), .val (.int (0 : Int32)), .val (.int (0 : Int32)), .val (.int (0 : Int32)), .val (.int (3 : Int32)), .unset, .unset]) rfl (pc' := 300) rfl ?_
          exact own_t3_0_3 l Z a0 hw ka kb kc kd hka hkb hkc hkd y0 y1 y2 y3 y4 a t ct (-1 : Int32) (0 : Int32) (0 : Int32) 0 G1 hG SG G3 hG3 SF h0 n0 (w246.mono (by decide) (by decide)) hS (Nat.le_trans (Nat.le_trans (Nat.le_trans (Nat.le_trans (Nat.le_trans hkS K236.1) K240.1) K243.1) K245.1) K246.1) S (by decide) (by simp [ixv, ixN, qo0, qo1, qo2, qc0]) (by decide) (by simp [ixv, ixN, qo0, qo1, qo2, qc0]) (Or.inl (by decide))
        ·
          rw [show (if 0 < 3 ∧ own_atN 0 ka kb kc kd = 125 then 1 else 0) = (0 : Int32) from (by simp [own_atN, qc0])]
          show Goes p e below _ T246 (mkF m 169 #[.val (.int y0), .val (.int y1), .val (.int y2), .val (.int y3), .val (.int y4), .val (.int (3 : Int32)), .val (.int (Int32.ofNat ka)), .val (.int (Int32.ofNat kb)), .val (.int (Int32.ofNat kc)), .val (.int (Int32.ofNat kd)), .val (.ref a), .val (.int (-1 : Int32)), .val (.int (0 : Int32)), .unset, .unset, .unset, .unset, .unset] [(.int (0 : Int32))])
          refine i_if_eq_Y w246 rfl at_169 (pc' := 176) (by decide) ?_
          refine i_iload w246 at_176 rfl (pc' := 178) rfl ?_
          refine i_iconst w246 at_178 (z := (1 : Int32)) (by decide) (pc' := 179) rfl ?_
          refine i_icmp_gt_N w246 (by decide) at_179 (pc' := 182) rfl ?_
          refine i_iconst w246 at_182 (z := (1 : Int32)) (by decide) (pc' := 183) rfl ?_
          refine i_iload w246 at_183 rfl (pc' := 185) rfl ?_
          refine i_bipush w246 at_185 (z := (125 : Int32)) (by decide) (pc' := 187) rfl ?_
          refine i_iload w246 at_187 rfl (pc' := 189) rfl ?_
          refine i_iload w246 at_189 rfl (pc' := 191) rfl ?_
          refine i_iload w246 at_191 rfl (pc' := 193) rfl ?_
          refine i_iload w246 at_193 rfl (pc' := 195) rfl ?_
          refine c_static w246 (y := (⟨"com/example/cluster_lock/clusterlock/redis/LockKeysHashTagPinLaw", "is", "(IICCCCC)Z"⟩ : MethodName)) (argsL := [(.int (1 : Int32)), (.int (3 : Int32)), (.int (125 : Int32)), (.int (Int32.ofNat ka)), (.int (Int32.ofNat kb)), (.int (Int32.ofNat kc)), (.int (Int32.ofNat kd))]) (st := []) at_195 (hw _ (List.mem_of_getElem? (i := 37) rfl)) (hw _ (List.mem_of_getElem? (i := 38) rfl)) (hw _ (List.mem_of_getElem? (i := 2) rfl)) (hw _ (List.mem_of_getElem? (i := 39) rfl)) (by decide) own_pd_pIICCCCCqZ rfl (own_is l Z a0 hw 1 3 125 ka kb kc kd h n0 w246.old (by decide) (by decide) (by decide) hka hkb hkc hkd) rfl (by decide) (W := 0) (Nat.le_of_eq rfl) (by decide) (by decide) (by decide) (fun _ q => nomatch q) (pc' := 198) rfl ?_
          intro v247 T247 h247 w247 K247 q247
          obtain ⟨rfl, rfl⟩ := q247
          show Goes p e below _ T247 (mkF m 198 #[.val (.int y0), .val (.int y1), .val (.int y2), .val (.int y3), .val (.int y4), .val (.int (3 : Int32)), .val (.int (Int32.ofNat ka)), .val (.int (Int32.ofNat kb)), .val (.int (Int32.ofNat kc)), .val (.int (Int32.ofNat kd)), .val (.ref a), .val (.int (-1 : Int32)), .val (.int (0 : Int32)), .unset, .unset, .unset, .unset, .unset] [(.int (if 1 < 3 ∧ own_atN 1 ka kb kc kd = 125 then 1 else 0))])
          by_cases qc1 : kb = 125
          ·
            rw [show (if 1 < 3 ∧ own_atN 1 ka kb kc kd = 125 then 1 else 0) = (1 : Int32) from (by simp [own_atN, qc1])]
            show Goes p e below _ T247 (mkF m 198 #[.val (.int y0), .val (.int y1), .val (.int y2), .val (.int y3), .val (.int y4), .val (.int (3 : Int32)), .val (.int (Int32.ofNat ka)), .val (.int (Int32.ofNat kb)), .val (.int (Int32.ofNat kc)), .val (.int (Int32.ofNat kd)), .val (.ref a), .val (.int (-1 : Int32)), .val (.int (0 : Int32)), .unset, .unset, .unset, .unset, .unset] [(.int (1 : Int32))])
            refine i_if_eq_N w247 (by decide) at_198 (pc' := 201) rfl ?_
            refine i_iconst w247 at_201 (z := (1 : Int32)) (by decide) (pc' := 202) rfl ?_
            refine i_goto w247 at_202 (pc' := 264) (by decide) ?_
            refine i_istore w247 at_264 (l' := #[.val (.int y0), .val (.int y1), .val (.int y2), .val (.int y3), .val (.int y4), .val (.int (3 : Int32)), .val (.int (Int32.ofNat ka)), .val (.int (Int32.ofNat kb)), .val (.int (Int32.ofNat kc)), .val (.int (Int32.ofNat kd)), .val (.ref a), .val (.int (-1 : Int32)), .val (.int (0 : Int32)), .val (.int (1 : Int32)), .unset, .unset, .unset, .unset]) rfl (pc' := 266) rfl ?_
            refine i_iload w247 at_266 rfl (pc' := 268) rfl ?_
            refine i_if_lt_Y w247 (by decide) at_268 (pc' := 293) (by decide) ?_
            refine i_iconst w247 at_293 (z := (0 : Int32)) (by decide) (pc' := 294) rfl ?_
            refine i_istore w247 at_294 (l' := #[.val (.int y0), .val (.int y1), .val (.int y2), .val (.int y3), .val (.int y4), .val (.int (3 : Int32)), .val (.int (Int32.ofNat ka)), .val (.int (Int32.ofNat kb)), .val (.int (Int32.ofNat kc)), .val (.int (Int32.ofNat kd)), .val (.ref a), .val (.int (-1 : Int32)), .val (.int (0 : Int32)), .val (.int (1 : Int32)), .val (.int (0 : Int32)), .unset, .unset, .unset]) rfl (pc' := 296) rfl ?_
            refine i_iload w247 at_296 rfl (pc' := 298) rfl ?_
            refine i_istore w247 at_298 (l' := #[.val (.int y0), .val (.int y1), .val (.int y2), .val (.int y3), .val (.int y4), .val (.int (3 : Int32)), .val (.int (Int32.ofNat ka)), .val (.int (Int32.ofNat kb)), .val (.int (Int32.ofNat kc)), .val (.int (Int32.ofNat kd)), .val (.ref a), .val (.int (-1 : Int32)), .val (.int (0 : Int32)), .val (.int (1 : Int32)), .val (.int (0 : Int32)), .val (.int (3 : Int32)), .unset, .unset]) rfl (pc' := 300) rfl ?_
            exact own_t3_0_3 l Z a0 hw ka kb kc kd hka hkb hkc hkd y0 y1 y2 y3 y4 a t ct (-1 : Int32) (0 : Int32) (1 : Int32) 0 G1 hG SG G3 hG3 SF h0 n0 (w247.mono (by decide) (by decide)) hS (Nat.le_trans (Nat.le_trans (Nat.le_trans (Nat.le_trans (Nat.le_trans (Nat.le_trans hkS K236.1) K240.1) K243.1) K245.1) K246.1) K247.1) S (by decide) (by simp [ixv, ixN, qo0, qo1, qo2, qc0, qc1]) (by decide) (by simp [ixv, ixN, qo0, qo1, qo2, qc0, qc1]) (Or.inl (by decide))
          ·
            rw [show (if 1 < 3 ∧ own_atN 1 ka kb kc kd = 125 then 1 else 0) = (0 : Int32) from (by simp [own_atN, qc1])]
            show Goes p e below _ T247 (mkF m 198 #[.val (.int y0), .val (.int y1), .val (.int y2), .val (.int y3), .val (.int y4), .val (.int (3 : Int32)), .val (.int (Int32.ofNat ka)), .val (.int (Int32.ofNat kb)), .val (.int (Int32.ofNat kc)), .val (.int (Int32.ofNat kd)), .val (.ref a), .val (.int (-1 : Int32)), .val (.int (0 : Int32)), .unset, .unset, .unset, .unset, .unset] [(.int (0 : Int32))])
            refine i_if_eq_Y w247 rfl at_198 (pc' := 205) (by decide) ?_
            refine i_iload w247 at_205 rfl (pc' := 207) rfl ?_
            refine i_iconst w247 at_207 (z := (2 : Int32)) (by decide) (pc' := 208) rfl ?_
            refine i_icmp_gt_N w247 (by decide) at_208 (pc' := 211) rfl ?_
            refine i_iconst w247 at_211 (z := (2 : Int32)) (by decide) (pc' := 212) rfl ?_
            refine i_iload w247 at_212 rfl (pc' := 214) rfl ?_
            refine i_bipush w247 at_214 (z := (125 : Int32)) (by decide) (pc' := 216) rfl ?_
            refine i_iload w247 at_216 rfl (pc' := 218) rfl ?_
            refine i_iload w247 at_218 rfl (pc' := 220) rfl ?_
            refine i_iload w247 at_220 rfl (pc' := 222) rfl ?_
            refine i_iload w247 at_222 rfl (pc' := 224) rfl ?_
            refine c_static w247 (y := (⟨"com/example/cluster_lock/clusterlock/redis/LockKeysHashTagPinLaw", "is", "(IICCCCC)Z"⟩ : MethodName)) (argsL := [(.int (2 : Int32)), (.int (3 : Int32)), (.int (125 : Int32)), (.int (Int32.ofNat ka)), (.int (Int32.ofNat kb)), (.int (Int32.ofNat kc)), (.int (Int32.ofNat kd))]) (st := []) at_224 (hw _ (List.mem_of_getElem? (i := 37) rfl)) (hw _ (List.mem_of_getElem? (i := 38) rfl)) (hw _ (List.mem_of_getElem? (i := 2) rfl)) (hw _ (List.mem_of_getElem? (i := 39) rfl)) (by decide) own_pd_pIICCCCCqZ rfl (own_is l Z a0 hw 2 3 125 ka kb kc kd h n0 w247.old (by decide) (by decide) (by decide) hka hkb hkc hkd) rfl (by decide) (W := 0) (Nat.le_of_eq rfl) (by decide) (by decide) (by decide) (fun _ q => nomatch q) (pc' := 227) rfl ?_
            intro v248 T248 h248 w248 K248 q248
            obtain ⟨rfl, rfl⟩ := q248
            show Goes p e below _ T248 (mkF m 227 #[.val (.int y0), .val (.int y1), .val (.int y2), .val (.int y3), .val (.int y4), .val (.int (3 : Int32)), .val (.int (Int32.ofNat ka)), .val (.int (Int32.ofNat kb)), .val (.int (Int32.ofNat kc)), .val (.int (Int32.ofNat kd)), .val (.ref a), .val (.int (-1 : Int32)), .val (.int (0 : Int32)), .unset, .unset, .unset, .unset, .unset] [(.int (if 2 < 3 ∧ own_atN 2 ka kb kc kd = 125 then 1 else 0))])
            by_cases qc2 : kc = 125
            ·
              rw [show (if 2 < 3 ∧ own_atN 2 ka kb kc kd = 125 then 1 else 0) = (1 : Int32) from (by simp [own_atN, qc2])]
              show Goes p e below _ T248 (mkF m 227 #[.val (.int y0), .val (.int y1), .val (.int y2), .val (.int y3), .val (.int y4), .val (.int (3 : Int32)), .val (.int (Int32.ofNat ka)), .val (.int (Int32.ofNat kb)), .val (.int (Int32.ofNat kc)), .val (.int (Int32.ofNat kd)), .val (.ref a), .val (.int (-1 : Int32)), .val (.int (0 : Int32)), .unset, .unset, .unset, .unset, .unset] [(.int (1 : Int32))])
              refine i_if_eq_N w248 (by decide) at_227 (pc' := 230) rfl ?_
              refine i_iconst w248 at_230 (z := (2 : Int32)) (by decide) (pc' := 231) rfl ?_
              refine i_goto w248 at_231 (pc' := 264) (by decide) ?_
              refine i_istore w248 at_264 (l' := #[.val (.int y0), .val (.int y1), .val (.int y2), .val (.int y3), .val (.int y4), .val (.int (3 : Int32)), .val (.int (Int32.ofNat ka)), .val (.int (Int32.ofNat kb)), .val (.int (Int32.ofNat kc)), .val (.int (Int32.ofNat kd)), .val (.ref a), .val (.int (-1 : Int32)), .val (.int (0 : Int32)), .val (.int (2 : Int32)), .unset, .unset, .unset, .unset]) rfl (pc' := 266) rfl ?_
              refine i_iload w248 at_266 rfl (pc' := 268) rfl ?_
              refine i_if_lt_Y w248 (by decide) at_268 (pc' := 293) (by decide) ?_
              refine i_iconst w248 at_293 (z := (0 : Int32)) (by decide) (pc' := 294) rfl ?_
              refine i_istore w248 at_294 (l' := #[.val (.int y0), .val (.int y1), .val (.int y2), .val (.int y3), .val (.int y4), .val (.int (3 : Int32)), .val (.int (Int32.ofNat ka)), .val (.int (Int32.ofNat kb)), .val (.int (Int32.ofNat kc)), .val (.int (Int32.ofNat kd)), .val (.ref a), .val (.int (-1 : Int32)), .val (.int (0 : Int32)), .val (.int (2 : Int32)), .val (.int (0 : Int32)), .unset, .unset, .unset]) rfl (pc' := 296) rfl ?_
              refine i_iload w248 at_296 rfl (pc' := 298) rfl ?_
              refine i_istore w248 at_298 (l' := #[.val (.int y0), .val (.int y1), .val (.int y2), .val (.int y3), .val (.int y4), .val (.int (3 : Int32)), .val (.int (Int32.ofNat ka)), .val (.int (Int32.ofNat kb)), .val (.int (Int32.ofNat kc)), .val (.int (Int32.ofNat kd)), .val (.ref a), .val (.int (-1 : Int32)), .val (.int (0 : Int32)), .val (.int (2 : Int32)), .val (.int (0 : Int32)), .val (.int (3 : Int32)), .unset, .unset]) rfl (pc' := 300) rfl ?_
              exact own_t3_0_3 l Z a0 hw ka kb kc kd hka hkb hkc hkd y0 y1 y2 y3 y4 a t ct (-1 : Int32) (0 : Int32) (2 : Int32) 0 G1 hG SG G3 hG3 SF h0 n0 (w248.mono (by decide) (by decide)) hS (Nat.le_trans (Nat.le_trans (Nat.le_trans (Nat.le_trans (Nat.le_trans (Nat.le_trans (Nat.le_trans hkS K236.1) K240.1) K243.1) K245.1) K246.1) K247.1) K248.1) S (by decide) (by simp [ixv, ixN, qo0, qo1, qo2, qc0, qc1, qc2]) (by decide) (by simp [ixv, ixN, qo0, qo1, qo2, qc0, qc1, qc2]) (Or.inl (by decide))
            ·
              rw [show (if 2 < 3 ∧ own_atN 2 ka kb kc kd = 125 then 1 else 0) = (0 : Int32) from (by simp [own_atN, qc2])]
              show Goes p e below _ T248 (mkF m 227 #[.val (.int y0), .val (.int y1), .val (.int y2), .val (.int y3), .val (.int y4), .val (.int (3 : Int32)), .val (.int (Int32.ofNat ka)), .val (.int (Int32.ofNat kb)), .val (.int (Int32.ofNat kc)), .val (.int (Int32.ofNat kd)), .val (.ref a), .val (.int (-1 : Int32)), .val (.int (0 : Int32)), .unset, .unset, .unset, .unset, .unset] [(.int (0 : Int32))])
              refine i_if_eq_Y w248 rfl at_227 (pc' := 234) (by decide) ?_
              refine i_iload w248 at_234 rfl (pc' := 236) rfl ?_
              refine i_iconst w248 at_236 (z := (3 : Int32)) (by decide) (pc' := 237) rfl ?_
              refine i_icmp_gt_N w248 (by decide) at_237 (pc' := 240) rfl ?_
              refine i_iconst w248 at_240 (z := (3 : Int32)) (by decide) (pc' := 241) rfl ?_
              refine i_iload w248 at_241 rfl (pc' := 243) rfl ?_
              refine i_bipush w248 at_243 (z := (125 : Int32)) (by decide) (pc' := 245) rfl ?_
              refine i_iload w248 at_245 rfl (pc' := 247) rfl ?_
              refine i_iload w248 at_247 rfl (pc' := 249) rfl ?_
              refine i_iload w248 at_249 rfl (pc' := 251) rfl ?_
              refine i_iload w248 at_251 rfl (pc' := 253) rfl ?_
              refine c_static w248 (y := (⟨"com/example/cluster_lock/clusterlock/redis/LockKeysHashTagPinLaw", "is", "(IICCCCC)Z"⟩ : MethodName)) (argsL := [(.int (3 : Int32)), (.int (3 : Int32)), (.int (125 : Int32)), (.int (Int32.ofNat ka)), (.int (Int32.ofNat kb)), (.int (Int32.ofNat kc)), (.int (Int32.ofNat kd))]) (st := []) at_253 (hw _ (List.mem_of_getElem? (i := 37) rfl)) (hw _ (List.mem_of_getElem? (i := 38) rfl)) (hw _ (List.mem_of_getElem? (i := 2) rfl)) (hw _ (List.mem_of_getElem? (i := 39) rfl)) (by decide) own_pd_pIICCCCCqZ rfl (own_is l Z a0 hw 3 3 125 ka kb kc kd h n0 w248.old (by decide) (by decide) (by decide) hka hkb hkc hkd) rfl (by decide) (W := 0) (Nat.le_of_eq rfl) (by decide) (by decide) (by decide) (fun _ q => nomatch q) (pc' := 256) rfl ?_
              intro v249 T249 h249 w249 K249 q249
              obtain ⟨rfl, rfl⟩ := q249
              show Goes p e below _ T249 (mkF m 256 #[.val (.int y0), .val (.int y1), .val (.int y2), .val (.int y3), .val (.int y4), .val (.int (3 : Int32)), .val (.int (Int32.ofNat ka)), .val (.int (Int32.ofNat kb)), .val (.int (Int32.ofNat kc)), .val (.int (Int32.ofNat kd)), .val (.ref a), .val (.int (-1 : Int32)), .val (.int (0 : Int32)), .unset, .unset, .unset, .unset, .unset] [(.int (if 3 < 3 ∧ own_atN 3 ka kb kc kd = 125 then 1 else 0))])
              rw [show (if 3 < 3 ∧ own_atN 3 ka kb kc kd = 125 then 1 else 0) = (0 : Int32) from (by simp)]
              show Goes p e below _ T249 (mkF m 256 #[.val (.int y0), .val (.int y1), .val (.int y2), .val (.int y3), .val (.int y4), .val (.int (3 : Int32)), .val (.int (Int32.ofNat ka)), .val (.int (Int32.ofNat kb)), .val (.int (Int32.ofNat kc)), .val (.int (Int32.ofNat kd)), .val (.ref a), .val (.int (-1 : Int32)), .val (.int (0 : Int32)), .unset, .unset, .unset, .unset, .unset] [(.int (0 : Int32))])
              refine i_if_eq_Y w249 rfl at_256 (pc' := 263) (by decide) ?_
              refine i_iconst w249 at_263 (z := (-1 : Int32)) (by decide) (pc' := 264) rfl ?_
              refine i_istore w249 at_264 (l' := #[.val (.int y0), .val (.int y1), .val (.int y2), .val (.int y3), .val (.int y4), .val (.int (3 : Int32)), .val (.int (Int32.ofNat ka)), .val (.int (Int32.ofNat kb)), .val (.int (Int32.ofNat kc)), .val (.int (Int32.ofNat kd)), .val (.ref a), .val (.int (-1 : Int32)), .val (.int (0 : Int32)), .val (.int (-1 : Int32)), .unset, .unset, .unset, .unset]) rfl (pc' := 266) rfl ?_
              refine i_iload w249 at_266 rfl (pc' := 268) rfl ?_
              refine i_if_lt_Y w249 (by decide) at_268 (pc' := 293) (by decide) ?_
              refine i_iconst w249 at_293 (z := (0 : Int32)) (by decide) (pc' := 294) rfl ?_
              refine i_istore w249 at_294 (l' := #[.val (.int y0), .val (.int y1), .val (.int y2), .val (.int y3), .val (.int y4), .val (.int (3 : Int32)), .val (.int (Int32.ofNat ka)), .val (.int (Int32.ofNat kb)), .val (.int (Int32.ofNat kc)), .val (.int (Int32.ofNat kd)), .val (.ref a), .val (.int (-1 : Int32)), .val (.int (0 : Int32)), .val (.int (-1 : Int32)), .val (.int (0 : Int32)), .unset, .unset, .unset]) rfl (pc' := 296) rfl ?_
              refine i_iload w249 at_296 rfl (pc' := 298) rfl ?_
              refine i_istore w249 at_298 (l' := #[.val (.int y0), .val (.int y1), .val (.int y2), .val (.int y3), .val (.int y4), .val (.int (3 : Int32)), .val (.int (Int32.ofNat ka)), .val (.int (Int32.ofNat kb)), .val (.int (Int32.ofNat kc)), .val (.int (Int32.ofNat kd)), .val (.ref a), .val (.int (-1 : Int32)), .val (.int (0 : Int32)), .val (.int (-1 : Int32)), .val (.int (0 : Int32)), .val (.int (3 : Int32)), .unset, .unset]) rfl (pc' := 300) rfl ?_
              exact own_t3_0_3 l Z a0 hw ka kb kc kd hka hkb hkc hkd y0 y1 y2 y3 y4 a t ct (-1 : Int32) (0 : Int32) (-1 : Int32) 0 G1 hG SG G3 hG3 SF h0 n0 (w249.mono (by decide) (by decide)) hS (Nat.le_trans (Nat.le_trans (Nat.le_trans (Nat.le_trans (Nat.le_trans (Nat.le_trans (Nat.le_trans (Nat.le_trans hkS K236.1) K240.1) K243.1) K245.1) K246.1) K247.1) K248.1) K249.1) S (by decide) (by simp [ixv, ixN, qo0, qo1, qo2, qc0, qc1, qc2]) (by decide) (by simp [ixv, ixN, qo0, qo1, qo2, qc0, qc1, qc2]) (Or.inl (by decide))
set_option maxRecDepth 65536 in
set_option maxHeartbeats 40000000 in
theorem own_s4 (l : Launch) (Z : State) (a0 : Array Value) (hw : ∀ d ∈ tables_1, d.before a0 Z = true) (ka kb kc kd : Nat) (hka : ka < 256) (hkb : kb < 256) (hkc : kc < 256) (hkd : kd < 256) (y0 y1 y2 y3 y4 : Int32) (a t : Addr) (ct : ClassId) (G1 : Int32) (hG : ¬ G1 = 0) (SG : Sta Z Z.heap "java/lang/String" "COMPACT_STRINGS" "Z" (.int G1)) (G3 : Value) (hG3 : G3.isRef = true) (SF : Sta Z Z.heap "jdk/internal/util/Preconditions" "SIOOBE_FORMATTER" "Ljava/util/function/BiFunction;" G3) (h0 : Heap) (n0 : Nat) {p : Program} {e : Env} {s : State} {m : MethodId} {below : List Frame} {meth : Method} {c : Code} {vm : Vm} {kS : Nat} {T : State} {h : Heap} (w : Wk p l e room_1 (s.setVm vm) m #[(.int y0), (.int y1), (.int y2), (.int y3), (.int y4)] below meth c Z x.cls code maxLocals ret x.name n0 h0 [] T h 20 1000) (hS : s.Since vm kS) (hkS : kS ≤ h.size) (S : StrL Z h a t ct [ka, kb, kc, kd]) :
    Goes p e below (PW s n0 h0 [] (fun v h => v = some (.int 1)) room_1.cells room_1.slots) T (mkF m 47 #[.val (.int y0), .val (.int y1), .val (.int y2), .val (.int y3), .val (.int y4), .val (.int (4 : Int32)), .val (.int (Int32.ofNat ka)), .val (.int (Int32.ofNat kb)), .val (.int (Int32.ofNat kc)), .val (.int (Int32.ofNat kd)), .val (.ref a), .unset, .unset, .unset, .unset, .unset, .unset, .unset] []) := by
  refine i_iconst w at_47 (z := (0 : Int32)) (by decide) (pc' := 48) rfl ?_
  refine i_iload w at_48 rfl (pc' := 50) rfl ?_
  refine i_bipush w at_50 (z := (123 : Int32)) (by decide) (pc' := 52) rfl ?_
  refine i_iload w at_52 rfl (pc' := 54) rfl ?_
  refine i_iload w at_54 rfl (pc' := 56) rfl ?_
  refine i_iload w at_56 rfl (pc' := 58) rfl ?_
  refine i_iload w at_58 rfl (pc' := 60) rfl ?_
  refine c_static w (y := (⟨"com/example/cluster_lock/clusterlock/redis/LockKeysHashTagPinLaw", "is", "(IICCCCC)Z"⟩ : MethodName)) (argsL := [(.int (0 : Int32)), (.int (4 : Int32)), (.int (123 : Int32)), (.int (Int32.ofNat ka)), (.int (Int32.ofNat kb)), (.int (Int32.ofNat kc)), (.int (Int32.ofNat kd))]) (st := []) at_60 (hw _ (List.mem_of_getElem? (i := 37) rfl)) (hw _ (List.mem_of_getElem? (i := 38) rfl)) (hw _ (List.mem_of_getElem? (i := 2) rfl)) (hw _ (List.mem_of_getElem? (i := 39) rfl)) (by decide) own_pd_pIICCCCCqZ rfl (own_is l Z a0 hw 0 4 123 ka kb kc kd h n0 w.old (by decide) (by decide) (by decide) hka hkb hkc hkd) rfl (by decide) (W := 0) (Nat.le_of_eq rfl) (by decide) (by decide) (by decide) (fun _ q => nomatch q) (pc' := 63) rfl ?_
  intro v250 T250 h250 w250 K250 q250
  obtain ⟨rfl, rfl⟩ := q250
  show Goes p e below _ T250 (mkF m 63 #[.val (.int y0), .val (.int y1), .val (.int y2), .val (.int y3), .val (.int y4), .val (.int (4 : Int32)), .val (.int (Int32.ofNat ka)), .val (.int (Int32.ofNat kb)), .val (.int (Int32.ofNat kc)), .val (.int (Int32.ofNat kd)), .val (.ref a), .unset, .unset, .unset, .unset, .unset, .unset, .unset] [(.int (if 0 < 4 ∧ own_atN 0 ka kb kc kd = 123 then 1 else 0))])
  by_cases qo0 : ka = 123
  ·
    rw [show (if 0 < 4 ∧ own_atN 0 ka kb kc kd = 123 then 1 else 0) = (1 : Int32) from (by simp [own_atN, qo0])]
    show Goes p e below _ T250 (mkF m 63 #[.val (.int y0), .val (.int y1), .val (.int y2), .val (.int y3), .val (.int y4), .val (.int (4 : Int32)), .val (.int (Int32.ofNat ka)), .val (.int (Int32.ofNat kb)), .val (.int (Int32.ofNat kc)), .val (.int (Int32.ofNat kd)), .val (.ref a), .unset, .unset, .unset, .unset, .unset, .unset, .unset] [(.int (1 : Int32))])
    refine i_if_eq_N w250 (by decide) at_63 (pc' := 66) rfl ?_
    refine i_iconst w250 at_66 (z := (0 : Int32)) (by decide) (pc' := 67) rfl ?_
    refine i_goto w250 at_67 (pc' := 140) (by decide) ?_
    refine i_istore w250 at_140 (l' := #[.val (.int y0), .val (.int y1), .val (.int y2), .val (.int y3), .val (.int y4), .val (.int (4 : Int32)), .val (.int (Int32.ofNat ka)), .val (.int (Int32.ofNat kb)), .val (.int (Int32.ofNat kc)), .val (.int (Int32.ofNat kd)), .val (.ref a), .val (.int (0 : Int32)), .unset, .unset, .unset, .unset, .unset, .unset]) rfl (pc' := 142) rfl ?_
    refine i_iload w250 at_142 rfl (pc' := 144) rfl ?_
    refine i_iconst w250 at_144 (z := (1 : Int32)) (by decide) (pc' := 145) rfl ?_
    refine i_iadd w250 at_145 (pc' := 146) rfl ?_
    rw [show ((0 : Int32) + (1 : Int32)) = (1 : Int32) from by decide]
    show Goes p e below _ T250 (mkF m 146 #[.val (.int y0), .val (.int y1), .val (.int y2), .val (.int y3), .val (.int y4), .val (.int (4 : Int32)), .val (.int (Int32.ofNat ka)), .val (.int (Int32.ofNat kb)), .val (.int (Int32.ofNat kc)), .val (.int (Int32.ofNat kd)), .val (.ref a), .val (.int (0 : Int32)), .unset, .unset, .unset, .unset, .unset, .unset] [(.int (1 : Int32))])
    refine i_istore w250 at_146 (l' := #[.val (.int y0), .val (.int y1), .val (.int y2), .val (.int y3), .val (.int y4), .val (.int (4 : Int32)), .val (.int (Int32.ofNat ka)), .val (.int (Int32.ofNat kb)), .val (.int (Int32.ofNat kc)), .val (.int (Int32.ofNat kd)), .val (.ref a), .val (.int (0 : Int32)), .val (.int (1 : Int32)), .unset, .unset, .unset, .unset, .unset]) rfl (pc' := 148) rfl ?_
    refine i_iload w250 at_148 rfl (pc' := 150) rfl ?_
    refine i_if_gt_Y w250 (by decide) at_150 (pc' := 176) (by decide) ?_
    refine i_iload w250 at_176 rfl (pc' := 178) rfl ?_
    refine i_iconst w250 at_178 (z := (1 : Int32)) (by decide) (pc' := 179) rfl ?_
    refine i_icmp_gt_N w250 (by decide) at_179 (pc' := 182) rfl ?_
    refine i_iconst w250 at_182 (z := (1 : Int32)) (by decide) (pc' := 183) rfl ?_
    refine i_iload w250 at_183 rfl (pc' := 185) rfl ?_
    refine i_bipush w250 at_185 (z := (125 : Int32)) (by decide) (pc' := 187) rfl ?_
    refine i_iload w250 at_187 rfl (pc' := 189) rfl ?_
    refine i_iload w250 at_189 rfl (pc' := 191) rfl ?_
    refine i_iload w250 at_191 rfl (pc' := 193) rfl ?_
    refine i_iload w250 at_193 rfl (pc' := 195) rfl ?_
    refine c_static w250 (y := (⟨"com/example/cluster_lock/clusterlock/redis/LockKeysHashTagPinLaw", "is", "(IICCCCC)Z"⟩ : MethodName)) (argsL := [(.int (1 : Int32)), (.int (4 : Int32)), (.int (125 : Int32)), (.int (Int32.ofNat ka)), (.int (Int32.ofNat kb)), (.int (Int32.ofNat kc)), (.int (Int32.ofNat kd))]) (st := []) at_195 (hw _ (List.mem_of_getElem? (i := 37) rfl)) (hw _ (List.mem_of_getElem? (i := 38) rfl)) (hw _ (List.mem_of_getElem? (i := 2) rfl)) (hw _ (List.mem_of_getElem? (i := 39) rfl)) (by decide) own_pd_pIICCCCCqZ rfl (own_is l Z a0 hw 1 4 125 ka kb kc kd h n0 w250.old (by decide) (by decide) (by decide) hka hkb hkc hkd) rfl (by decide) (W := 0) (Nat.le_of_eq rfl) (by decide) (by decide) (by decide) (fun _ q => nomatch q) (pc' := 198) rfl ?_
    intro v251 T251 h251 w251 K251 q251
    obtain ⟨rfl, rfl⟩ := q251
    show Goes p e below _ T251 (mkF m 198 #[.val (.int y0), .val (.int y1), .val (.int y2), .val (.int y3), .val (.int y4), .val (.int (4 : Int32)), .val (.int (Int32.ofNat ka)), .val (.int (Int32.ofNat kb)), .val (.int (Int32.ofNat kc)), .val (.int (Int32.ofNat kd)), .val (.ref a), .val (.int (0 : Int32)), .val (.int (1 : Int32)), .unset, .unset, .unset, .unset, .unset] [(.int (if 1 < 4 ∧ own_atN 1 ka kb kc kd = 125 then 1 else 0))])
    by_cases qc1 : kb = 125
    ·
      rw [show (if 1 < 4 ∧ own_atN 1 ka kb kc kd = 125 then 1 else 0) = (1 : Int32) from (by simp [own_atN, qc1])]
      show Goes p e below _ T251 (mkF m 198 #[.val (.int y0), .val (.int y1), .val (.int y2), .val (.int y3), .val (.int y4), .val (.int (4 : Int32)), .val (.int (Int32.ofNat ka)), .val (.int (Int32.ofNat kb)), .val (.int (Int32.ofNat kc)), .val (.int (Int32.ofNat kd)), .val (.ref a), .val (.int (0 : Int32)), .val (.int (1 : Int32)), .unset, .unset, .unset, .unset, .unset] [(.int (1 : Int32))])
      refine i_if_eq_N w251 (by decide) at_198 (pc' := 201) rfl ?_
      refine i_iconst w251 at_201 (z := (1 : Int32)) (by decide) (pc' := 202) rfl ?_
      refine i_goto w251 at_202 (pc' := 264) (by decide) ?_
      refine i_istore w251 at_264 (l' := #[.val (.int y0), .val (.int y1), .val (.int y2), .val (.int y3), .val (.int y4), .val (.int (4 : Int32)), .val (.int (Int32.ofNat ka)), .val (.int (Int32.ofNat kb)), .val (.int (Int32.ofNat kc)), .val (.int (Int32.ofNat kd)), .val (.ref a), .val (.int (0 : Int32)), .val (.int (1 : Int32)), .val (.int (1 : Int32)), .unset, .unset, .unset, .unset]) rfl (pc' := 266) rfl ?_
      refine i_iload w251 at_266 rfl (pc' := 268) rfl ?_
      refine i_if_lt_N w251 (by decide) at_268 (pc' := 271) rfl ?_
      refine i_iload w251 at_271 rfl (pc' := 273) rfl ?_
      refine i_iload w251 at_273 rfl (pc' := 275) rfl ?_
      refine i_iconst w251 at_275 (z := (1 : Int32)) (by decide) (pc' := 276) rfl ?_
      refine i_iadd w251 at_276 (pc' := 277) rfl ?_
      refine i_icmp_le_Y w251 (by decide) at_277 (pc' := 293) (by decide) ?_
      refine i_iconst w251 at_293 (z := (0 : Int32)) (by decide) (pc' := 294) rfl ?_
      refine i_istore w251 at_294 (l' := #[.val (.int y0), .val (.int y1), .val (.int y2), .val (.int y3), .val (.int y4), .val (.int (4 : Int32)), .val (.int (Int32.ofNat ka)), .val (.int (Int32.ofNat kb)), .val (.int (Int32.ofNat kc)), .val (.int (Int32.ofNat kd)), .val (.ref a), .val (.int (0 : Int32)), .val (.int (1 : Int32)), .val (.int (1 : Int32)), .val (.int (0 : Int32)), .unset, .unset, .unset]) rfl (pc' := 296) rfl ?_
      refine i_iload w251 at_296 rfl (pc' := 298) rfl ?_
      refine i_istore w251 at_298 (l' := #[.val (.int y0), .val (.int y1), .val (.int y2), .val (.int y3), .val (.int y4), .val (.int (4 : Int32)), .val (.int (Int32.ofNat ka)), .val (.int (Int32.ofNat kb)), .val (.int (Int32.ofNat kc)), .val (.int (Int32.ofNat kd)), .val (.ref a), .val (.int (0 : Int32)), .val (.int (1 : Int32)), .val (.int (1 : Int32)), .val (.int (0 : Int32)), .val (.int (4 : Int32)), .unset, .unset]) rfl (pc' := 300) rfl ?_
      exact own_t4_0_4 l Z a0 hw ka kb kc kd hka hkb hkc hkd y0 y1 y2 y3 y4 a t ct (0 : Int32) (1 : Int32) (1 : Int32) 1 G1 hG SG G3 hG3 SF h0 n0 (w251.mono (by decide) (by decide)) hS (Nat.le_trans (Nat.le_trans hkS K250.1) K251.1) S (by decide) (by simp [ixv, ixN, qo0, qc1]) (by decide) (by simp [ixv, ixN, qo0, qc1]) (Or.inr ⟨by decide, by decide⟩)
    ·
      rw [show (if 1 < 4 ∧ own_atN 1 ka kb kc kd = 125 then 1 else 0) = (0 : Int32) from (by simp [own_atN, qc1])]
      show Goes p e below _ T251 (mkF m 198 #[.val (.int y0), .val (.int y1), .val (.int y2), .val (.int y3), .val (.int y4), .val (.int (4 : Int32)), .val (.int (Int32.ofNat ka)), .val (.int (Int32.ofNat kb)), .val (.int (Int32.ofNat kc)), .val (.int (Int32.ofNat kd)), .val (.ref a), .val (.int (0 : Int32)), .val (.int (1 : Int32)), .unset, .unset, .unset, .unset, .unset] [(.int (0 : Int32))])
      refine i_if_eq_Y w251 rfl at_198 (pc' := 205) (by decide) ?_
      refine i_iload w251 at_205 rfl (pc' := 207) rfl ?_
      refine i_iconst w251 at_207 (z := (2 : Int32)) (by decide) (pc' := 208) rfl ?_
      refine i_icmp_gt_N w251 (by decide) at_208 (pc' := 211) rfl ?_
      refine i_iconst w251 at_211 (z := (2 : Int32)) (by decide) (pc' := 212) rfl ?_
      refine i_iload w251 at_212 rfl (pc' := 214) rfl ?_
      refine i_bipush w251 at_214 (z := (125 : Int32)) (by decide) (pc' := 216) rfl ?_
      refine i_iload w251 at_216 rfl (pc' := 218) rfl ?_
      refine i_iload w251 at_218 rfl (pc' := 220) rfl ?_
      refine i_iload w251 at_220 rfl (pc' := 222) rfl ?_
      refine i_iload w251 at_222 rfl (pc' := 224) rfl ?_
      refine c_static w251 (y := (⟨"com/example/cluster_lock/clusterlock/redis/LockKeysHashTagPinLaw", "is", "(IICCCCC)Z"⟩ : MethodName)) (argsL := [(.int (2 : Int32)), (.int (4 : Int32)), (.int (125 : Int32)), (.int (Int32.ofNat ka)), (.int (Int32.ofNat kb)), (.int (Int32.ofNat kc)), (.int (Int32.ofNat kd))]) (st := []) at_224 (hw _ (List.mem_of_getElem? (i := 37) rfl)) (hw _ (List.mem_of_getElem? (i := 38) rfl)) (hw _ (List.mem_of_getElem? (i := 2) rfl)) (hw _ (List.mem_of_getElem? (i := 39) rfl)) (by decide) own_pd_pIICCCCCqZ rfl (own_is l Z a0 hw 2 4 125 ka kb kc kd h n0 w251.old (by decide) (by decide) (by decide) hka hkb hkc hkd) rfl (by decide) (W := 0) (Nat.le_of_eq rfl) (by decide) (by decide) (by decide) (fun _ q => nomatch q) (pc' := 227) rfl ?_
      intro v252 T252 h252 w252 K252 q252
      obtain ⟨rfl, rfl⟩ := q252
      show Goes p e below _ T252 (mkF m 227 #[.val (.int y0), .val (.int y1), .val (.int y2), .val (.int y3), .val (.int y4), .val (.int (4 : Int32)), .val (.int (Int32.ofNat ka)), .val (.int (Int32.ofNat kb)), .val (.int (Int32.ofNat kc)), .val (.int (Int32.ofNat kd)), .val (.ref a), .val (.int (0 : Int32)), .val (.int (1 : Int32)), .unset, .unset, .unset, .unset, .unset] [(.int (if 2 < 4 ∧ own_atN 2 ka kb kc kd = 125 then 1 else 0))])
      by_cases qc2 : kc = 125
      ·
        rw [show (if 2 < 4 ∧ own_atN 2 ka kb kc kd = 125 then 1 else 0) = (1 : Int32) from (by simp [own_atN, qc2])]
        show Goes p e below _ T252 (mkF m 227 #[.val (.int y0), .val (.int y1), .val (.int y2), .val (.int y3), .val (.int y4), .val (.int (4 : Int32)), .val (.int (Int32.ofNat ka)), .val (.int (Int32.ofNat kb)), .val (.int (Int32.ofNat kc)), .val (.int (Int32.ofNat kd)), .val (.ref a), .val (.int (0 : Int32)), .val (.int (1 : Int32)), .unset, .unset, .unset, .unset, .unset] [(.int (1 : Int32))])
        refine i_if_eq_N w252 (by decide) at_227 (pc' := 230) rfl ?_
        refine i_iconst w252 at_230 (z := (2 : Int32)) (by decide) (pc' := 231) rfl ?_
        refine i_goto w252 at_231 (pc' := 264) (by decide) ?_
        refine i_istore w252 at_264 (l' := #[.val (.int y0), .val (.int y1), .val (.int y2), .val (.int y3), .val (.int y4), .val (.int (4 : Int32)), .val (.int (Int32.ofNat ka)), .val (.int (Int32.ofNat kb)), .val (.int (Int32.ofNat kc)), .val (.int (Int32.ofNat kd)), .val (.ref a), .val (.int (0 : Int32)), .val (.int (1 : Int32)), .val (.int (2 : Int32)), .unset, .unset, .unset, .unset]) rfl (pc' := 266) rfl ?_
        refine i_iload w252 at_266 rfl (pc' := 268) rfl ?_
        refine i_if_lt_N w252 (by decide) at_268 (pc' := 271) rfl ?_
        refine i_iload w252 at_271 rfl (pc' := 273) rfl ?_
        refine i_iload w252 at_273 rfl (pc' := 275) rfl ?_
        refine i_iconst w252 at_275 (z := (1 : Int32)) (by decide) (pc' := 276) rfl ?_
        refine i_iadd w252 at_276 (pc' := 277) rfl ?_
        refine i_icmp_le_N w252 (by decide) at_277 (pc' := 280) rfl ?_
        refine i_iload w252 at_280 rfl (pc' := 282) rfl ?_
        refine i_iconst w252 at_282 (z := (1 : Int32)) (by decide) (pc' := 283) rfl ?_
        refine i_iadd w252 at_283 (pc' := 284) rfl ?_
        rw [show ((0 : Int32) + (1 : Int32)) = (1 : Int32) from by decide]
        show Goes p e below _ T252 (mkF m 284 #[.val (.int y0), .val (.int y1), .val (.int y2), .val (.int y3), .val (.int y4), .val (.int (4 : Int32)), .val (.int (Int32.ofNat ka)), .val (.int (Int32.ofNat kb)), .val (.int (Int32.ofNat kc)), .val (.int (Int32.ofNat kd)), .val (.ref a), .val (.int (0 : Int32)), .val (.int (1 : Int32)), .val (.int (2 : Int32)), .unset, .unset, .unset, .unset] [(.int (1 : Int32))])
        refine i_istore w252 at_284 (l' := #[.val (.int y0), .val (.int y1), .val (.int y2), .val (.int y3), .val (.int y4), .val (.int (4 : Int32)), .val (.int (Int32.ofNat ka)), .val (.int (Int32.ofNat kb)), .val (.int (Int32.ofNat kc)), .val (.int (Int32.ofNat kd)), .val (.ref a), .val (.int (0 : Int32)), .val (.int (1 : Int32)), .val (.int (2 : Int32)), .val (.int (1 : Int32)), .unset, .unset, .unset]) rfl (pc' := 286) rfl ?_
        refine i_iload w252 at_286 rfl (pc' := 288) rfl ?_
        refine i_istore w252 at_288 (l' := #[.val (.int y0), .val (.int y1), .val (.int y2), .val (.int y3), .val (.int y4), .val (.int (4 : Int32)), .val (.int (Int32.ofNat ka)), .val (.int (Int32.ofNat kb)), .val (.int (Int32.ofNat kc)), .val (.int (Int32.ofNat kd)), .val (.ref a), .val (.int (0 : Int32)), .val (.int (1 : Int32)), .val (.int (2 : Int32)), .val (.int (1 : Int32)), .val (.int (2 : Int32)), .unset, .unset]) rfl (pc' := 290) rfl ?_
        refine i_goto w252 at_290 (pc' := 300) (by decide) ?_
        exact own_t4_1_2 l Z a0 hw ka kb kc kd hka hkb hkc hkd y0 y1 y2 y3 y4 a t ct (0 : Int32) (1 : Int32) (2 : Int32) 1 G1 hG SG G3 hG3 SF h0 n0 (w252.mono (by decide) (by decide)) hS (Nat.le_trans (Nat.le_trans (Nat.le_trans hkS K250.1) K251.1) K252.1) S (by decide) (by simp [ixv, ixN, qo0, qc1, qc2]) (by decide) (by simp [ixv, ixN, qo0, qc1, qc2]) rfl (by decide) (by decide) (by decide)
      ·
        rw [show (if 2 < 4 ∧ own_atN 2 ka kb kc kd = 125 then 1 else 0) = (0 : Int32) from (by simp [own_atN, qc2])]
        show Goes p e below _ T252 (mkF m 227 #[.val (.int y0), .val (.int y1), .val (.int y2), .val (.int y3), .val (.int y4), .val (.int (4 : Int32)), .val (.int (Int32.ofNat ka)), .val (.int (Int32.ofNat kb)), .val (.int (Int32.ofNat kc)), .val (.int (Int32.ofNat kd)), .val (.ref a), .val (.int (0 : Int32)), .val (.int (1 : Int32)), .unset, .unset, .unset, .unset, .unset] [(.int (0 : Int32))])
        refine i_if_eq_Y w252 rfl at_227 (pc' := 234) (by decide) ?_
        refine i_iload w252 at_234 rfl (pc' := 236) rfl ?_
        refine i_iconst w252 at_236 (z := (3 : Int32)) (by decide) (pc' := 237) rfl ?_
        refine i_icmp_gt_N w252 (by decide) at_237 (pc' := 240) rfl ?_
        refine i_iconst w252 at_240 (z := (3 : Int32)) (by decide) (pc' := 241) rfl ?_
        refine i_iload w252 at_241 rfl (pc' := 243) rfl ?_
        refine i_bipush w252 at_243 (z := (125 : Int32)) (by decide) (pc' := 245) rfl ?_
        refine i_iload w252 at_245 rfl (pc' := 247) rfl ?_
        refine i_iload w252 at_247 rfl (pc' := 249) rfl ?_
        refine i_iload w252 at_249 rfl (pc' := 251) rfl ?_
        refine i_iload w252 at_251 rfl (pc' := 253) rfl ?_
        refine c_static w252 (y := (⟨"com/example/cluster_lock/clusterlock/redis/LockKeysHashTagPinLaw", "is", "(IICCCCC)Z"⟩ : MethodName)) (argsL := [(.int (3 : Int32)), (.int (4 : Int32)), (.int (125 : Int32)), (.int (Int32.ofNat ka)), (.int (Int32.ofNat kb)), (.int (Int32.ofNat kc)), (.int (Int32.ofNat kd))]) (st := []) at_253 (hw _ (List.mem_of_getElem? (i := 37) rfl)) (hw _ (List.mem_of_getElem? (i := 38) rfl)) (hw _ (List.mem_of_getElem? (i := 2) rfl)) (hw _ (List.mem_of_getElem? (i := 39) rfl)) (by decide) own_pd_pIICCCCCqZ rfl (own_is l Z a0 hw 3 4 125 ka kb kc kd h n0 w252.old (by decide) (by decide) (by decide) hka hkb hkc hkd) rfl (by decide) (W := 0) (Nat.le_of_eq rfl) (by decide) (by decide) (by decide) (fun _ q => nomatch q) (pc' := 256) rfl ?_
        intro v253 T253 h253 w253 K253 q253
        obtain ⟨rfl, rfl⟩ := q253
        show Goes p e below _ T253 (mkF m 256 #[.val (.int y0), .val (.int y1), .val (.int y2), .val (.int y3), .val (.int y4), .val (.int (4 : Int32)), .val (.int (Int32.ofNat ka)), .val (.int (Int32.ofNat kb)), .val (.int (Int32.ofNat kc)), .val (.int (Int32.ofNat kd)), .val (.ref a), .val (.int (0 : Int32)), .val (.int (1 : Int32)), .unset, .unset, .unset, .unset, .unset] [(.int (if 3 < 4 ∧ own_atN 3 ka kb kc kd = 125 then 1 else 0))])
        by_cases qc3 : kd = 125
        ·
          rw [show (if 3 < 4 ∧ own_atN 3 ka kb kc kd = 125 then 1 else 0) = (1 : Int32) from (by simp [own_atN, qc3])]
          show Goes p e below _ T253 (mkF m 256 #[.val (.int y0), .val (.int y1), .val (.int y2), .val (.int y3), .val (.int y4), .val (.int (4 : Int32)), .val (.int (Int32.ofNat ka)), .val (.int (Int32.ofNat kb)), .val (.int (Int32.ofNat kc)), .val (.int (Int32.ofNat kd)), .val (.ref a), .val (.int (0 : Int32)), .val (.int (1 : Int32)), .unset, .unset, .unset, .unset, .unset] [(.int (1 : Int32))])
          refine i_if_eq_N w253 (by decide) at_256 (pc' := 259) rfl ?_
          refine i_iconst w253 at_259 (z := (3 : Int32)) (by decide) (pc' := 260) rfl ?_
          refine i_goto w253 at_260 (pc' := 264) (by decide) ?_
          refine i_istore w253 at_264 (l' := #[.val (.int y0), .val (.int y1), .val (.int y2), .val (.int y3), .val (.int y4), .val (.int (4 : Int32)), .val (.int (Int32.ofNat ka)), .val (.int (Int32.ofNat kb)), .val (.int (Int32.ofNat kc)), .val (.int (Int32.ofNat kd)), .val (.ref a), .val (.int (0 : Int32)), .val (.int (1 : Int32)), .val (.int (3 : Int32)), .unset, .unset, .unset, .unset]) rfl (pc' := 266) rfl ?_
          refine i_iload w253 at_266 rfl (pc' := 268) rfl ?_
          refine i_if_lt_N w253 (by decide) at_268 (pc' := 271) rfl ?_
          refine i_iload w253 at_271 rfl (pc' := 273) rfl ?_
          refine i_iload w253 at_273 rfl (pc' := 275) rfl ?_
          refine i_iconst w253 at_275 (z := (1 : Int32)) (by decide) (pc' := 276) rfl ?_
          refine i_iadd w253 at_276 (pc' := 277) rfl ?_
          refine i_icmp_le_N w253 (by decide) at_277 (pc' := 280) rfl ?_
          refine i_iload w253 at_280 rfl (pc' := 282) rfl ?_
          refine i_iconst w253 at_282 (z := (1 : Int32)) (by decide) (pc' := 283) rfl ?_
          refine i_iadd w253 at_283 (pc' := 284) rfl ?_
          rw [show ((0 : Int32) + (1 : Int32)) = (1 : Int32) from by decide]
          show Goes p e below _ T253 (mkF m 284 #[.val (.int y0), .val (.int y1), .val (.int y2), .val (.int y3), .val (.int y4), .val (.int (4 : Int32)), .val (.int (Int32.ofNat ka)), .val (.int (Int32.ofNat kb)), .val (.int (Int32.ofNat kc)), .val (.int (Int32.ofNat kd)), .val (.ref a), .val (.int (0 : Int32)), .val (.int (1 : Int32)), .val (.int (3 : Int32)), .unset, .unset, .unset, .unset] [(.int (1 : Int32))])
          refine i_istore w253 at_284 (l' := #[.val (.int y0), .val (.int y1), .val (.int y2), .val (.int y3), .val (.int y4), .val (.int (4 : Int32)), .val (.int (Int32.ofNat ka)), .val (.int (Int32.ofNat kb)), .val (.int (Int32.ofNat kc)), .val (.int (Int32.ofNat kd)), .val (.ref a), .val (.int (0 : Int32)), .val (.int (1 : Int32)), .val (.int (3 : Int32)), .val (.int (1 : Int32)), .unset, .unset, .unset]) rfl (pc' := 286) rfl ?_
          refine i_iload w253 at_286 rfl (pc' := 288) rfl ?_
          refine i_istore w253 at_288 (l' := #[.val (.int y0), .val (.int y1), .val (.int y2), .val (.int y3), .val (.int y4), .val (.int (4 : Int32)), .val (.int (Int32.ofNat ka)), .val (.int (Int32.ofNat kb)), .val (.int (Int32.ofNat kc)), .val (.int (Int32.ofNat kd)), .val (.ref a), .val (.int (0 : Int32)), .val (.int (1 : Int32)), .val (.int (3 : Int32)), .val (.int (1 : Int32)), .val (.int (3 : Int32)), .unset, .unset]) rfl (pc' := 290) rfl ?_
          refine i_goto w253 at_290 (pc' := 300) (by decide) ?_
          exact own_t4_1_3 l Z a0 hw ka kb kc kd hka hkb hkc hkd y0 y1 y2 y3 y4 a t ct (0 : Int32) (1 : Int32) (3 : Int32) 1 G1 hG SG G3 hG3 SF h0 n0 (w253.mono (by decide) (by decide)) hS (Nat.le_trans (Nat.le_trans (Nat.le_trans (Nat.le_trans hkS K250.1) K251.1) K252.1) K253.1) S (by decide) (by simp [ixv, ixN, qo0, qc1, qc2, qc3]) (by decide) (by simp [ixv, ixN, qo0, qc1, qc2, qc3]) rfl (by decide) (by decide) (by decide)
        ·
          rw [show (if 3 < 4 ∧ own_atN 3 ka kb kc kd = 125 then 1 else 0) = (0 : Int32) from (by simp [own_atN, qc3])]
          show Goes p e below _ T253 (mkF m 256 #[.val (.int y0), .val (.int y1), .val (.int y2), .val (.int y3), .val (.int y4), .val (.int (4 : Int32)), .val (.int (Int32.ofNat ka)), .val (.int (Int32.ofNat kb)), .val (.int (Int32.ofNat kc)), .val (.int (Int32.ofNat kd)), .val (.ref a), .val (.int (0 : Int32)), .val (.int (1 : Int32)), .unset, .unset, .unset, .unset, .unset] [(.int (0 : Int32))])
          refine i_if_eq_Y w253 rfl at_256 (pc' := 263) (by decide) ?_
          refine i_iconst w253 at_263 (z := (-1 : Int32)) (by decide) (pc' := 264) rfl ?_
          refine i_istore w253 at_264 (l' := #[.val (.int y0), .val (.int y1), .val (.int y2), .val (.int y3), .val (.int y4), .val (.int (4 : Int32)), .val (.int (Int32.ofNat ka)), .val (.int (Int32.ofNat kb)), .val (.int (Int32.ofNat kc)), .val (.int (Int32.ofNat kd)), .val (.ref a), .val (.int (0 : Int32)), .val (.int (1 : Int32)), .val (.int (-1 : Int32)), .unset, .unset, .unset, .unset]) rfl (pc' := 266) rfl ?_
          refine i_iload w253 at_266 rfl (pc' := 268) rfl ?_
          refine i_if_lt_N w253 (by decide) at_268 (pc' := 271) rfl ?_
          refine i_iload w253 at_271 rfl (pc' := 273) rfl ?_
          refine i_iload w253 at_273 rfl (pc' := 275) rfl ?_
          refine i_iconst w253 at_275 (z := (1 : Int32)) (by decide) (pc' := 276) rfl ?_
          refine i_iadd w253 at_276 (pc' := 277) rfl ?_
          refine i_icmp_le_Y w253 (by decide) at_277 (pc' := 293) (by decide) ?_
          refine i_iconst w253 at_293 (z := (0 : Int32)) (by decide) (pc' := 294) rfl ?_
          refine i_istore w253 at_294 (l' := #[.val (.int y0), .val (.int y1), .val (.int y2), .val (.int y3), .val (.int y4), .val (.int (4 : Int32)), .val (.int (Int32.ofNat ka)), .val (.int (Int32.ofNat kb)), .val (.int (Int32.ofNat kc)), .val (.int (Int32.ofNat kd)), .val (.ref a), .val (.int (0 : Int32)), .val (.int (1 : Int32)), .val (.int (-1 : Int32)), .val (.int (0 : Int32)), .unset, .unset, .unset]) rfl (pc' := 296) rfl ?_
          refine i_iload w253 at_296 rfl (pc' := 298) rfl ?_
          refine i_istore w253 at_298 (l' := #[.val (.int y0), .val (.int y1), .val (.int y2), .val (.int y3), .val (.int y4), .val (.int (4 : Int32)), .val (.int (Int32.ofNat ka)), .val (.int (Int32.ofNat kb)), .val (.int (Int32.ofNat kc)), .val (.int (Int32.ofNat kd)), .val (.ref a), .val (.int (0 : Int32)), .val (.int (1 : Int32)), .val (.int (-1 : Int32)), .val (.int (0 : Int32)), .val (.int (4 : Int32)), .unset, .unset]) rfl (pc' := 300) rfl ?_
          exact own_t4_0_4 l Z a0 hw ka kb kc kd hka hkb hkc hkd y0 y1 y2 y3 y4 a t ct (0 : Int32) (1 : Int32) (-1 : Int32) 1 G1 hG SG G3 hG3 SF h0 n0 (w253.mono (by decide) (by decide)) hS (Nat.le_trans (Nat.le_trans (Nat.le_trans (Nat.le_trans hkS K250.1) K251.1) K252.1) K253.1) S (by decide) (by simp [ixv, ixN, qo0, qc1, qc2, qc3]) (by decide) (by simp [ixv, ixN, qo0, qc1, qc2, qc3]) (Or.inr ⟨by decide, by decide⟩)
  ·
    rw [show (if 0 < 4 ∧ own_atN 0 ka kb kc kd = 123 then 1 else 0) = (0 : Int32) from (by simp [own_atN, qo0])]
    show Goes p e below _ T250 (mkF m 63 #[.val (.int y0), .val (.int y1), .val (.int y2), .val (.int y3), .val (.int y4), .val (.int (4 : Int32)), .val (.int (Int32.ofNat ka)), .val (.int (Int32.ofNat kb)), .val (.int (Int32.ofNat kc)), .val (.int (Int32.ofNat kd)), .val (.ref a), .unset, .unset, .unset, .unset, .unset, .unset, .unset] [(.int (0 : Int32))])
    refine i_if_eq_Y w250 rfl at_63 (pc' := 70) (by decide) ?_
    refine i_iconst w250 at_70 (z := (1 : Int32)) (by decide) (pc' := 71) rfl ?_
    refine i_iload w250 at_71 rfl (pc' := 73) rfl ?_
    refine i_bipush w250 at_73 (z := (123 : Int32)) (by decide) (pc' := 75) rfl ?_
    refine i_iload w250 at_75 rfl (pc' := 77) rfl ?_
    refine i_iload w250 at_77 rfl (pc' := 79) rfl ?_
    refine i_iload w250 at_79 rfl (pc' := 81) rfl ?_
    refine i_iload w250 at_81 rfl (pc' := 83) rfl ?_
    refine c_static w250 (y := (⟨"com/example/cluster_lock/clusterlock/redis/LockKeysHashTagPinLaw", "is", "(IICCCCC)Z"⟩ : MethodName)) (argsL := [(.int (1 : Int32)), (.int (4 : Int32)), (.int (123 : Int32)), (.int (Int32.ofNat ka)), (.int (Int32.ofNat kb)), (.int (Int32.ofNat kc)), (.int (Int32.ofNat kd))]) (st := []) at_83 (hw _ (List.mem_of_getElem? (i := 37) rfl)) (hw _ (List.mem_of_getElem? (i := 38) rfl)) (hw _ (List.mem_of_getElem? (i := 2) rfl)) (hw _ (List.mem_of_getElem? (i := 39) rfl)) (by decide) own_pd_pIICCCCCqZ rfl (own_is l Z a0 hw 1 4 123 ka kb kc kd h n0 w250.old (by decide) (by decide) (by decide) hka hkb hkc hkd) rfl (by decide) (W := 0) (Nat.le_of_eq rfl) (by decide) (by decide) (by decide) (fun _ q => nomatch q) (pc' := 86) rfl ?_
    intro v254 T254 h254 w254 K254 q254
    obtain ⟨rfl, rfl⟩ := q254
    show Goes p e below _ T254 (mkF m 86 #[.val (.int y0), .val (.int y1), .val (.int y2), .val (.int y3), .val (.int y4), .val (.int (4 : Int32)), .val (.int (Int32.ofNat ka)), .val (.int (Int32.ofNat kb)), .val (.int (Int32.ofNat kc)), .val (.int (Int32.ofNat kd)), .val (.ref a), .unset, .unset, .unset, .unset, .unset, .unset, .unset] [(.int (if 1 < 4 ∧ own_atN 1 ka kb kc kd = 123 then 1 else 0))])
    by_cases qo1 : kb = 123
    ·
      rw [show (if 1 < 4 ∧ own_atN 1 ka kb kc kd = 123 then 1 else 0) = (1 : Int32) from (by simp [own_atN, qo1])]
      show Goes p e below _ T254 (mkF m 86 #[.val (.int y0), .val (.int y1), .val (.int y2), .val (.int y3), .val (.int y4), .val (.int (4 : Int32)), .val (.int (Int32.ofNat ka)), .val (.int (Int32.ofNat kb)), .val (.int (Int32.ofNat kc)), .val (.int (Int32.ofNat kd)), .val (.ref a), .unset, .unset, .unset, .unset, .unset, .unset, .unset] [(.int (1 : Int32))])
      refine i_if_eq_N w254 (by decide) at_86 (pc' := 89) rfl ?_
      refine i_iconst w254 at_89 (z := (1 : Int32)) (by decide) (pc' := 90) rfl ?_
      refine i_goto w254 at_90 (pc' := 140) (by decide) ?_
      refine i_istore w254 at_140 (l' := #[.val (.int y0), .val (.int y1), .val (.int y2), .val (.int y3), .val (.int y4), .val (.int (4 : Int32)), .val (.int (Int32.ofNat ka)), .val (.int (Int32.ofNat kb)), .val (.int (Int32.ofNat kc)), .val (.int (Int32.ofNat kd)), .val (.ref a), .val (.int (1 : Int32)), .unset, .unset, .unset, .unset, .unset, .unset]) rfl (pc' := 142) rfl ?_
      refine i_iload w254 at_142 rfl (pc' := 144) rfl ?_
      refine i_iconst w254 at_144 (z := (1 : Int32)) (by decide) (pc' := 145) rfl ?_
      refine i_iadd w254 at_145 (pc' := 146) rfl ?_
      rw [show ((1 : Int32) + (1 : Int32)) = (2 : Int32) from by decide]
      show Goes p e below _ T254 (mkF m 146 #[.val (.int y0), .val (.int y1), .val (.int y2), .val (.int y3), .val (.int y4), .val (.int (4 : Int32)), .val (.int (Int32.ofNat ka)), .val (.int (Int32.ofNat kb)), .val (.int (Int32.ofNat kc)), .val (.int (Int32.ofNat kd)), .val (.ref a), .val (.int (1 : Int32)), .unset, .unset, .unset, .unset, .unset, .unset] [(.int (2 : Int32))])
      refine i_istore w254 at_146 (l' := #[.val (.int y0), .val (.int y1), .val (.int y2), .val (.int y3), .val (.int y4), .val (.int (4 : Int32)), .val (.int (Int32.ofNat ka)), .val (.int (Int32.ofNat kb)), .val (.int (Int32.ofNat kc)), .val (.int (Int32.ofNat kd)), .val (.ref a), .val (.int (1 : Int32)), .val (.int (2 : Int32)), .unset, .unset, .unset, .unset, .unset]) rfl (pc' := 148) rfl ?_
      refine i_iload w254 at_148 rfl (pc' := 150) rfl ?_
      refine i_if_gt_Y w254 (by decide) at_150 (pc' := 176) (by decide) ?_
      refine i_iload w254 at_176 rfl (pc' := 178) rfl ?_
      refine i_iconst w254 at_178 (z := (1 : Int32)) (by decide) (pc' := 179) rfl ?_
      refine i_icmp_gt_Y w254 (by decide) at_179 (pc' := 205) (by decide) ?_
      refine i_iload w254 at_205 rfl (pc' := 207) rfl ?_
      refine i_iconst w254 at_207 (z := (2 : Int32)) (by decide) (pc' := 208) rfl ?_
      refine i_icmp_gt_N w254 (by decide) at_208 (pc' := 211) rfl ?_
      refine i_iconst w254 at_211 (z := (2 : Int32)) (by decide) (pc' := 212) rfl ?_
      refine i_iload w254 at_212 rfl (pc' := 214) rfl ?_
      refine i_bipush w254 at_214 (z := (125 : Int32)) (by decide) (pc' := 216) rfl ?_
      refine i_iload w254 at_216 rfl (pc' := 218) rfl ?_
      refine i_iload w254 at_218 rfl (pc' := 220) rfl ?_
      refine i_iload w254 at_220 rfl (pc' := 222) rfl ?_
      refine i_iload w254 at_222 rfl (pc' := 224) rfl ?_
      refine c_static w254 (y := (⟨"com/example/cluster_lock/clusterlock/redis/LockKeysHashTagPinLaw", "is", "(IICCCCC)Z"⟩ : MethodName)) (argsL := [(.int (2 : Int32)), (.int (4 : Int32)), (.int (125 : Int32)), (.int (Int32.ofNat ka)), (.int (Int32.ofNat kb)), (.int (Int32.ofNat kc)), (.int (Int32.ofNat kd))]) (st := []) at_224 (hw _ (List.mem_of_getElem? (i := 37) rfl)) (hw _ (List.mem_of_getElem? (i := 38) rfl)) (hw _ (List.mem_of_getElem? (i := 2) rfl)) (hw _ (List.mem_of_getElem? (i := 39) rfl)) (by decide) own_pd_pIICCCCCqZ rfl (own_is l Z a0 hw 2 4 125 ka kb kc kd h n0 w254.old (by decide) (by decide) (by decide) hka hkb hkc hkd) rfl (by decide) (W := 0) (Nat.le_of_eq rfl) (by decide) (by decide) (by decide) (fun _ q => nomatch q) (pc' := 227) rfl ?_
      intro v255 T255 h255 w255 K255 q255
      obtain ⟨rfl, rfl⟩ := q255
      show Goes p e below _ T255 (mkF m 227 #[.val (.int y0), .val (.int y1), .val (.int y2), .val (.int y3), .val (.int y4), .val (.int (4 : Int32)), .val (.int (Int32.ofNat ka)), .val (.int (Int32.ofNat kb)), .val (.int (Int32.ofNat kc)), .val (.int (Int32.ofNat kd)), .val (.ref a), .val (.int (1 : Int32)), .val (.int (2 : Int32)), .unset, .unset, .unset, .unset, .unset] [(.int (if 2 < 4 ∧ own_atN 2 ka kb kc kd = 125 then 1 else 0))])
      by_cases qc2 : kc = 125
      ·
        rw [show (if 2 < 4 ∧ own_atN 2 ka kb kc kd = 125 then 1 else 0) = (1 : Int32) from (by simp [own_atN, qc2])]
        show Goes p e below _ T255 (mkF m 227 #[.val (.int y0), .val (.int y1), .val (.int y2), .val (.int y3), .val (.int y4), .val (.int (4 : Int32)), .val (.int (Int32.ofNat ka)), .val (.int (Int32.ofNat kb)), .val (.int (Int32.ofNat kc)), .val (.int (Int32.ofNat kd)), .val (.ref a), .val (.int (1 : Int32)), .val (.int (2 : Int32)), .unset, .unset, .unset, .unset, .unset] [(.int (1 : Int32))])
        refine i_if_eq_N w255 (by decide) at_227 (pc' := 230) rfl ?_
        refine i_iconst w255 at_230 (z := (2 : Int32)) (by decide) (pc' := 231) rfl ?_
        refine i_goto w255 at_231 (pc' := 264) (by decide) ?_
        refine i_istore w255 at_264 (l' := #[.val (.int y0), .val (.int y1), .val (.int y2), .val (.int y3), .val (.int y4), .val (.int (4 : Int32)), .val (.int (Int32.ofNat ka)), .val (.int (Int32.ofNat kb)), .val (.int (Int32.ofNat kc)), .val (.int (Int32.ofNat kd)), .val (.ref a), .val (.int (1 : Int32)), .val (.int (2 : Int32)), .val (.int (2 : Int32)), .unset, .unset, .unset, .unset]) rfl (pc' := 266) rfl ?_
        refine i_iload w255 at_266 rfl (pc' := 268) rfl ?_
        refine i_if_lt_N w255 (by decide) at_268 (pc' := 271) rfl ?_
        refine i_iload w255 at_271 rfl (pc' := 273) rfl ?_
        refine i_iload w255 at_273 rfl (pc' := 275) rfl ?_
        refine i_iconst w255 at_275 (z := (1 : Int32)) (by decide) (pc' := 276) rfl ?_
        refine i_iadd w255 at_276 (pc' := 277) rfl ?_
        refine i_icmp_le_Y w255 (by decide) at_277 (pc' := 293) (by decide) ?_
        refine i_iconst w255 at_293 (z := (0 : Int32)) (by decide) (pc' := 294) rfl ?_
        refine i_istore w255 at_294 (l' := #[.val (.int y0), .val (.int y1), .val (.int y2), .val (.int y3), .val (.int y4), .val (.int (4 : Int32)), .val (.int (Int32.ofNat ka)), .val (.int (Int32.ofNat kb)), .val (.int (Int32.ofNat kc)), .val (.int (Int32.ofNat kd)), .val (.ref a), .val (.int (1 : Int32)), .val (.int (2 : Int32)), .val (.int (2 : Int32)), .val (.int (0 : Int32)), .unset, .unset, .unset]) rfl (pc' := 296) rfl ?_
        refine i_iload w255 at_296 rfl (pc' := 298) rfl ?_
        refine i_istore w255 at_298 (l' := #[.val (.int y0), .val (.int y1), .val (.int y2), .val (.int y3), .val (.int y4), .val (.int (4 : Int32)), .val (.int (Int32.ofNat ka)), .val (.int (Int32.ofNat kb)), .val (.int (Int32.ofNat kc)), .val (.int (Int32.ofNat kd)), .val (.ref a), .val (.int (1 : Int32)), .val (.int (2 : Int32)), .val (.int (2 : Int32)), .val (.int (0 : Int32)), .val (.int (4 : Int32)), .unset, .unset]) rfl (pc' := 300) rfl ?_
        exact own_t4_0_4 l Z a0 hw ka kb kc kd hka hkb hkc hkd y0 y1 y2 y3 y4 a t ct (1 : Int32) (2 : Int32) (2 : Int32) 2 G1 hG SG G3 hG3 SF h0 n0 (w255.mono (by decide) (by decide)) hS (Nat.le_trans (Nat.le_trans (Nat.le_trans hkS K250.1) K254.1) K255.1) S (by decide) (by simp [ixv, ixN, qo0, qo1, qc2]) (by decide) (by simp [ixv, ixN, qo0, qo1, qc2]) (Or.inr ⟨by decide, by decide⟩)
      ·
        rw [show (if 2 < 4 ∧ own_atN 2 ka kb kc kd = 125 then 1 else 0) = (0 : Int32) from (by simp [own_atN, qc2])]
        show Goes p e below _ T255 (mkF m 227 #[.val (.int y0), .val (.int y1), .val (.int y2), .val (.int y3), .val (.int y4), .val (.int (4 : Int32)), .val (.int (Int32.ofNat ka)), .val (.int (Int32.ofNat kb)), .val (.int (Int32.ofNat kc)), .val (.int (Int32.ofNat kd)), .val (.ref a), .val (.int (1 : Int32)), .val (.int (2 : Int32)), .unset, .unset, .unset, .unset, .unset] [(.int (0 : Int32))])
        refine i_if_eq_Y w255 rfl at_227 (pc' := 234) (by decide) ?_
        refine i_iload w255 at_234 rfl (pc' := 236) rfl ?_
        refine i_iconst w255 at_236 (z := (3 : Int32)) (by decide) (pc' := 237) rfl ?_
        refine i_icmp_gt_N w255 (by decide) at_237 (pc' := 240) rfl ?_
        refine i_iconst w255 at_240 (z := (3 : Int32)) (by decide) (pc' := 241) rfl ?_
        refine i_iload w255 at_241 rfl (pc' := 243) rfl ?_
        refine i_bipush w255 at_243 (z := (125 : Int32)) (by decide) (pc' := 245) rfl ?_
        refine i_iload w255 at_245 rfl (pc' := 247) rfl ?_
        refine i_iload w255 at_247 rfl (pc' := 249) rfl ?_
        refine i_iload w255 at_249 rfl (pc' := 251) rfl ?_
        refine i_iload w255 at_251 rfl (pc' := 253) rfl ?_
        refine c_static w255 (y := (⟨"com/example/cluster_lock/clusterlock/redis/LockKeysHashTagPinLaw", "is", "(IICCCCC)Z"⟩ : MethodName)) (argsL := [(.int (3 : Int32)), (.int (4 : Int32)), (.int (125 : Int32)), (.int (Int32.ofNat ka)), (.int (Int32.ofNat kb)), (.int (Int32.ofNat kc)), (.int (Int32.ofNat kd))]) (st := []) at_253 (hw _ (List.mem_of_getElem? (i := 37) rfl)) (hw _ (List.mem_of_getElem? (i := 38) rfl)) (hw _ (List.mem_of_getElem? (i := 2) rfl)) (hw _ (List.mem_of_getElem? (i := 39) rfl)) (by decide) own_pd_pIICCCCCqZ rfl (own_is l Z a0 hw 3 4 125 ka kb kc kd h n0 w255.old (by decide) (by decide) (by decide) hka hkb hkc hkd) rfl (by decide) (W := 0) (Nat.le_of_eq rfl) (by decide) (by decide) (by decide) (fun _ q => nomatch q) (pc' := 256) rfl ?_
        intro v256 T256 h256 w256 K256 q256
        obtain ⟨rfl, rfl⟩ := q256
        show Goes p e below _ T256 (mkF m 256 #[.val (.int y0), .val (.int y1), .val (.int y2), .val (.int y3), .val (.int y4), .val (.int (4 : Int32)), .val (.int (Int32.ofNat ka)), .val (.int (Int32.ofNat kb)), .val (.int (Int32.ofNat kc)), .val (.int (Int32.ofNat kd)), .val (.ref a), .val (.int (1 : Int32)), .val (.int (2 : Int32)), .unset, .unset, .unset, .unset, .unset] [(.int (if 3 < 4 ∧ own_atN 3 ka kb kc kd = 125 then 1 else 0))])
        by_cases qc3 : kd = 125
        ·
          rw [show (if 3 < 4 ∧ own_atN 3 ka kb kc kd = 125 then 1 else 0) = (1 : Int32) from (by simp [own_atN, qc3])]
          show Goes p e below _ T256 (mkF m 256 #[.val (.int y0), .val (.int y1), .val (.int y2), .val (.int y3), .val (.int y4), .val (.int (4 : Int32)), .val (.int (Int32.ofNat ka)), .val (.int (Int32.ofNat kb)), .val (.int (Int32.ofNat kc)), .val (.int (Int32.ofNat kd)), .val (.ref a), .val (.int (1 : Int32)), .val (.int (2 : Int32)), .unset, .unset, .unset, .unset, .unset] [(.int (1 : Int32))])
          refine i_if_eq_N w256 (by decide) at_256 (pc' := 259) rfl ?_
          refine i_iconst w256 at_259 (z := (3 : Int32)) (by decide) (pc' := 260) rfl ?_
          refine i_goto w256 at_260 (pc' := 264) (by decide) ?_
          refine i_istore w256 at_264 (l' := #[.val (.int y0), .val (.int y1), .val (.int y2), .val (.int y3), .val (.int y4), .val (.int (4 : Int32)), .val (.int (Int32.ofNat ka)), .val (.int (Int32.ofNat kb)), .val (.int (Int32.ofNat kc)), .val (.int (Int32.ofNat kd)), .val (.ref a), .val (.int (1 : Int32)), .val (.int (2 : Int32)), .val (.int (3 : Int32)), .unset, .unset, .unset, .unset]) rfl (pc' := 266) rfl ?_
          refine i_iload w256 at_266 rfl (pc' := 268) rfl ?_
          refine i_if_lt_N w256 (by decide) at_268 (pc' := 271) rfl ?_
          refine i_iload w256 at_271 rfl (pc' := 273) rfl ?_
          refine i_iload w256 at_273 rfl (pc' := 275) rfl ?_
          refine i_iconst w256 at_275 (z := (1 : Int32)) (by decide) (pc' := 276) rfl ?_
          refine i_iadd w256 at_276 (pc' := 277) rfl ?_
          refine i_icmp_le_N w256 (by decide) at_277 (pc' := 280) rfl ?_
          refine i_iload w256 at_280 rfl (pc' := 282) rfl ?_
          refine i_iconst w256 at_282 (z := (1 : Int32)) (by decide) (pc' := 283) rfl ?_
          refine i_iadd w256 at_283 (pc' := 284) rfl ?_
          rw [show ((1 : Int32) + (1 : Int32)) = (2 : Int32) from by decide]
          show Goes p e below _ T256 (mkF m 284 #[.val (.int y0), .val (.int y1), .val (.int y2), .val (.int y3), .val (.int y4), .val (.int (4 : Int32)), .val (.int (Int32.ofNat ka)), .val (.int (Int32.ofNat kb)), .val (.int (Int32.ofNat kc)), .val (.int (Int32.ofNat kd)), .val (.ref a), .val (.int (1 : Int32)), .val (.int (2 : Int32)), .val (.int (3 : Int32)), .unset, .unset, .unset, .unset] [(.int (2 : Int32))])
          refine i_istore w256 at_284 (l' := #[.val (.int y0), .val (.int y1), .val (.int y2), .val (.int y3), .val (.int y4), .val (.int (4 : Int32)), .val (.int (Int32.ofNat ka)), .val (.int (Int32.ofNat kb)), .val (.int (Int32.ofNat kc)), .val (.int (Int32.ofNat kd)), .val (.ref a), .val (.int (1 : Int32)), .val (.int (2 : Int32)), .val (.int (3 : Int32)), .val (.int (2 : Int32)), .unset, .unset, .unset]) rfl (pc' := 286) rfl ?_
          refine i_iload w256 at_286 rfl (pc' := 288) rfl ?_
          refine i_istore w256 at_288 (l' := #[.val (.int y0), .val (.int y1), .val (.int y2), .val (.int y3), .val (.int y4), .val (.int (4 : Int32)), .val (.int (Int32.ofNat ka)), .val (.int (Int32.ofNat kb)), .val (.int (Int32.ofNat kc)), .val (.int (Int32.ofNat kd)), .val (.ref a), .val (.int (1 : Int32)), .val (.int (2 : Int32)), .val (.int (3 : Int32)), .val (.int (2 : Int32)), .val (.int (3 : Int32)), .unset, .unset]) rfl (pc' := 290) rfl ?_
          refine i_goto w256 at_290 (pc' := 300) (by decide) ?_
          exact own_t4_2_3 l Z a0 hw ka kb kc kd hka hkb hkc hkd y0 y1 y2 y3 y4 a t ct (1 : Int32) (2 : Int32) (3 : Int32) 2 G1 hG SG G3 hG3 SF h0 n0 (w256.mono (by decide) (by decide)) hS (Nat.le_trans (Nat.le_trans (Nat.le_trans (Nat.le_trans hkS K250.1) K254.1) K255.1) K256.1) S (by decide) (by simp [ixv, ixN, qo0, qo1, qc2, qc3]) (by decide) (by simp [ixv, ixN, qo0, qo1, qc2, qc3]) rfl (by decide) (by decide) (by decide)
        ·
          rw [show (if 3 < 4 ∧ own_atN 3 ka kb kc kd = 125 then 1 else 0) = (0 : Int32) from (by simp [own_atN, qc3])]
          show Goes p e below _ T256 (mkF m 256 #[.val (.int y0), .val (.int y1), .val (.int y2), .val (.int y3), .val (.int y4), .val (.int (4 : Int32)), .val (.int (Int32.ofNat ka)), .val (.int (Int32.ofNat kb)), .val (.int (Int32.ofNat kc)), .val (.int (Int32.ofNat kd)), .val (.ref a), .val (.int (1 : Int32)), .val (.int (2 : Int32)), .unset, .unset, .unset, .unset, .unset] [(.int (0 : Int32))])
          refine i_if_eq_Y w256 rfl at_256 (pc' := 263) (by decide) ?_
          refine i_iconst w256 at_263 (z := (-1 : Int32)) (by decide) (pc' := 264) rfl ?_
          refine i_istore w256 at_264 (l' := #[.val (.int y0), .val (.int y1), .val (.int y2), .val (.int y3), .val (.int y4), .val (.int (4 : Int32)), .val (.int (Int32.ofNat ka)), .val (.int (Int32.ofNat kb)), .val (.int (Int32.ofNat kc)), .val (.int (Int32.ofNat kd)), .val (.ref a), .val (.int (1 : Int32)), .val (.int (2 : Int32)), .val (.int (-1 : Int32)), .unset, .unset, .unset, .unset]) rfl (pc' := 266) rfl ?_
          refine i_iload w256 at_266 rfl (pc' := 268) rfl ?_
          refine i_if_lt_N w256 (by decide) at_268 (pc' := 271) rfl ?_
          refine i_iload w256 at_271 rfl (pc' := 273) rfl ?_
          refine i_iload w256 at_273 rfl (pc' := 275) rfl ?_
          refine i_iconst w256 at_275 (z := (1 : Int32)) (by decide) (pc' := 276) rfl ?_
          refine i_iadd w256 at_276 (pc' := 277) rfl ?_
          refine i_icmp_le_Y w256 (by decide) at_277 (pc' := 293) (by decide) ?_
          refine i_iconst w256 at_293 (z := (0 : Int32)) (by decide) (pc' := 294) rfl ?_
          refine i_istore w256 at_294 (l' := #[.val (.int y0), .val (.int y1), .val (.int y2), .val (.int y3), .val (.int y4), .val (.int (4 : Int32)), .val (.int (Int32.ofNat ka)), .val (.int (Int32.ofNat kb)), .val (.int (Int32.ofNat kc)), .val (.int (Int32.ofNat kd)), .val (.ref a), .val (.int (1 : Int32)), .val (.int (2 : Int32)), .val (.int (-1 : Int32)), .val (.int (0 : Int32)), .unset, .unset, .unset]) rfl (pc' := 296) rfl ?_
          refine i_iload w256 at_296 rfl (pc' := 298) rfl ?_
          refine i_istore w256 at_298 (l' := #[.val (.int y0), .val (.int y1), .val (.int y2), .val (.int y3), .val (.int y4), .val (.int (4 : Int32)), .val (.int (Int32.ofNat ka)), .val (.int (Int32.ofNat kb)), .val (.int (Int32.ofNat kc)), .val (.int (Int32.ofNat kd)), .val (.ref a), .val (.int (1 : Int32)), .val (.int (2 : Int32)), .val (.int (-1 : Int32)), .val (.int (0 : Int32)), .val (.int (4 : Int32)), .unset, .unset]) rfl (pc' := 300) rfl ?_
          exact own_t4_0_4 l Z a0 hw ka kb kc kd hka hkb hkc hkd y0 y1 y2 y3 y4 a t ct (1 : Int32) (2 : Int32) (-1 : Int32) 2 G1 hG SG G3 hG3 SF h0 n0 (w256.mono (by decide) (by decide)) hS (Nat.le_trans (Nat.le_trans (Nat.le_trans (Nat.le_trans hkS K250.1) K254.1) K255.1) K256.1) S (by decide) (by simp [ixv, ixN, qo0, qo1, qc2, qc3]) (by decide) (by simp [ixv, ixN, qo0, qo1, qc2, qc3]) (Or.inr ⟨by decide, by decide⟩)
    ·
      rw [show (if 1 < 4 ∧ own_atN 1 ka kb kc kd = 123 then 1 else 0) = (0 : Int32) from (by simp [own_atN, qo1])]
      show Goes p e below _ T254 (mkF m 86 #[.val (.int y0), .val (.int y1), .val (.int y2), .val (.int y3), .val (.int y4), .val (.int (4 : Int32)), .val (.int (Int32.ofNat ka)), .val (.int (Int32.ofNat kb)), .val (.int (Int32.ofNat kc)), .val (.int (Int32.ofNat kd)), .val (.ref a), .unset, .unset, .unset, .unset, .unset, .unset, .unset] [(.int (0 : Int32))])
      refine i_if_eq_Y w254 rfl at_86 (pc' := 93) (by decide) ?_
      refine i_iconst w254 at_93 (z := (2 : Int32)) (by decide) (pc' := 94) rfl ?_
      refine i_iload w254 at_94 rfl (pc' := 96) rfl ?_
      refine i_bipush w254 at_96 (z := (123 : Int32)) (by decide) (pc' := 98) rfl ?_
      refine i_iload w254 at_98 rfl (pc' := 100) rfl ?_
      refine i_iload w254 at_100 rfl (pc' := 102) rfl ?_
      refine i_iload w254 at_102 rfl (pc' := 104) rfl ?_
      refine i_iload w254 at_104 rfl (pc' := 106) rfl ?_
      refine c_static w254 (y := (⟨"com/example/cluster_lock/clusterlock/redis/LockKeysHashTagPinLaw", "is", "(IICCCCC)Z"⟩ : MethodName)) (argsL := [(.int (2 : Int32)), (.int (4 : Int32)), (.int (123 : Int32)), (.int (Int32.ofNat ka)), (.int (Int32.ofNat kb)), (.int (Int32.ofNat kc)), (.int (Int32.ofNat kd))]) (st := []) at_106 (hw _ (List.mem_of_getElem? (i := 37) rfl)) (hw _ (List.mem_of_getElem? (i := 38) rfl)) (hw _ (List.mem_of_getElem? (i := 2) rfl)) (hw _ (List.mem_of_getElem? (i := 39) rfl)) (by decide) own_pd_pIICCCCCqZ rfl (own_is l Z a0 hw 2 4 123 ka kb kc kd h n0 w254.old (by decide) (by decide) (by decide) hka hkb hkc hkd) rfl (by decide) (W := 0) (Nat.le_of_eq rfl) (by decide) (by decide) (by decide) (fun _ q => nomatch q) (pc' := 109) rfl ?_
      intro v257 T257 h257 w257 K257 q257
      obtain ⟨rfl, rfl⟩ := q257
      show Goes p e below _ T257 (mkF m 109 #[.val (.int y0), .val (.int y1), .val (.int y2), .val (.int y3), .val (.int y4), .val (.int (4 : Int32)), .val (.int (Int32.ofNat ka)), .val (.int (Int32.ofNat kb)), .val (.int (Int32.ofNat kc)), .val (.int (Int32.ofNat kd)), .val (.ref a), .unset, .unset, .unset, .unset, .unset, .unset, .unset] [(.int (if 2 < 4 ∧ own_atN 2 ka kb kc kd = 123 then 1 else 0))])
      by_cases qo2 : kc = 123
      ·
        rw [show (if 2 < 4 ∧ own_atN 2 ka kb kc kd = 123 then 1 else 0) = (1 : Int32) from (by simp [own_atN, qo2])]
        show Goes p e below _ T257 (mkF m 109 #[.val (.int y0), .val (.int y1), .val (.int y2), .val (.int y3), .val (.int y4), .val (.int (4 : Int32)), .val (.int (Int32.ofNat ka)), .val (.int (Int32.ofNat kb)), .val (.int (Int32.ofNat kc)), .val (.int (Int32.ofNat kd)), .val (.ref a), .unset, .unset, .unset, .unset, .unset, .unset, .unset] [(.int (1 : Int32))])
        refine i_if_eq_N w257 (by decide) at_109 (pc' := 112) rfl ?_
        refine i_iconst w257 at_112 (z := (2 : Int32)) (by decide) (pc' := 113) rfl ?_
        refine i_goto w257 at_113 (pc' := 140) (by decide) ?_
        refine i_istore w257 at_140 (l' := #[.val (.int y0), .val (.int y1), .val (.int y2), .val (.int y3), .val (.int y4), .val (.int (4 : Int32)), .val (.int (Int32.ofNat ka)), .val (.int (Int32.ofNat kb)), .val (.int (Int32.ofNat kc)), .val (.int (Int32.ofNat kd)), .val (.ref a), .val (.int (2 : Int32)), .unset, .unset, .unset, .unset, .unset, .unset]) rfl (pc' := 142) rfl ?_
        refine i_iload w257 at_142 rfl (pc' := 144) rfl ?_
        refine i_iconst w257 at_144 (z := (1 : Int32)) (by decide) (pc' := 145) rfl ?_
        refine i_iadd w257 at_145 (pc' := 146) rfl ?_
        rw [show ((2 : Int32) + (1 : Int32)) = (3 : Int32) from by decide]
        show Goes p e below _ T257 (mkF m 146 #[.val (.int y0), .val (.int y1), .val (.int y2), .val (.int y3), .val (.int y4), .val (.int (4 : Int32)), .val (.int (Int32.ofNat ka)), .val (.int (Int32.ofNat kb)), .val (.int (Int32.ofNat kc)), .val (.int (Int32.ofNat kd)), .val (.ref a), .val (.int (2 : Int32)), .unset, .unset, .unset, .unset, .unset, .unset] [(.int (3 : Int32))])
        refine i_istore w257 at_146 (l' := #[.val (.int y0), .val (.int y1), .val (.int y2), .val (.int y3), .val (.int y4), .val (.int (4 : Int32)), .val (.int (Int32.ofNat ka)), .val (.int (Int32.ofNat kb)), .val (.int (Int32.ofNat kc)), .val (.int (Int32.ofNat kd)), .val (.ref a), .val (.int (2 : Int32)), .val (.int (3 : Int32)), .unset, .unset, .unset, .unset, .unset]) rfl (pc' := 148) rfl ?_
        refine i_iload w257 at_148 rfl (pc' := 150) rfl ?_
        refine i_if_gt_Y w257 (by decide) at_150 (pc' := 176) (by decide) ?_
        refine i_iload w257 at_176 rfl (pc' := 178) rfl ?_
        refine i_iconst w257 at_178 (z := (1 : Int32)) (by decide) (pc' := 179) rfl ?_
        refine i_icmp_gt_Y w257 (by decide) at_179 (pc' := 205) (by decide) ?_
        refine i_iload w257 at_205 rfl (pc' := 207) rfl ?_
        refine i_iconst w257 at_207 (z := (2 : Int32)) (by decide) (pc' := 208) rfl ?_
        refine i_icmp_gt_Y w257 (by decide) at_208 (pc' := 234) (by decide) ?_
        refine i_iload w257 at_234 rfl (pc' := 236) rfl ?_
        refine i_iconst w257 at_236 (z := (3 : Int32)) (by decide) (pc' := 237) rfl ?_
        refine i_icmp_gt_N w257 (by decide) at_237 (pc' := 240) rfl ?_
        refine i_iconst w257 at_240 (z := (3 : Int32)) (by decide) (pc' := 241) rfl ?_
        refine i_iload w257 at_241 rfl (pc' := 243) rfl ?_
        refine i_bipush w257 at_243 (z := (125 : Int32)) (by decide) (pc' := 245) rfl ?_
        refine i_iload w257 at_245 rfl (pc' := 247) rfl ?_
        refine i_iload w257 at_247 rfl (pc' := 249) rfl ?_
        refine i_iload w257 at_249 rfl (pc' := 251) rfl ?_
        refine i_iload w257 at_251 rfl (pc' := 253) rfl ?_
        refine c_static w257 (y := (⟨"com/example/cluster_lock/clusterlock/redis/LockKeysHashTagPinLaw", "is", "(IICCCCC)Z"⟩ : MethodName)) (argsL := [(.int (3 : Int32)), (.int (4 : Int32)), (.int (125 : Int32)), (.int (Int32.ofNat ka)), (.int (Int32.ofNat kb)), (.int (Int32.ofNat kc)), (.int (Int32.ofNat kd))]) (st := []) at_253 (hw _ (List.mem_of_getElem? (i := 37) rfl)) (hw _ (List.mem_of_getElem? (i := 38) rfl)) (hw _ (List.mem_of_getElem? (i := 2) rfl)) (hw _ (List.mem_of_getElem? (i := 39) rfl)) (by decide) own_pd_pIICCCCCqZ rfl (own_is l Z a0 hw 3 4 125 ka kb kc kd h n0 w257.old (by decide) (by decide) (by decide) hka hkb hkc hkd) rfl (by decide) (W := 0) (Nat.le_of_eq rfl) (by decide) (by decide) (by decide) (fun _ q => nomatch q) (pc' := 256) rfl ?_
        intro v258 T258 h258 w258 K258 q258
        obtain ⟨rfl, rfl⟩ := q258
        show Goes p e below _ T258 (mkF m 256 #[.val (.int y0), .val (.int y1), .val (.int y2), .val (.int y3), .val (.int y4), .val (.int (4 : Int32)), .val (.int (Int32.ofNat ka)), .val (.int (Int32.ofNat kb)), .val (.int (Int32.ofNat kc)), .val (.int (Int32.ofNat kd)), .val (.ref a), .val (.int (2 : Int32)), .val (.int (3 : Int32)), .unset, .unset, .unset, .unset, .unset] [(.int (if 3 < 4 ∧ own_atN 3 ka kb kc kd = 125 then 1 else 0))])
        by_cases qc3 : kd = 125
        ·
          rw [show (if 3 < 4 ∧ own_atN 3 ka kb kc kd = 125 then 1 else 0) = (1 : Int32) from (by simp [own_atN, qc3])]
          show Goes p e below _ T258 (mkF m 256 #[.val (.int y0), .val (.int y1), .val (.int y2), .val (.int y3), .val (.int y4), .val (.int (4 : Int32)), .val (.int (Int32.ofNat ka)), .val (.int (Int32.ofNat kb)), .val (.int (Int32.ofNat kc)), .val (.int (Int32.ofNat kd)), .val (.ref a), .val (.int (2 : Int32)), .val (.int (3 : Int32)), .unset, .unset, .unset, .unset, .unset] [(.int (1 : Int32))])
          refine i_if_eq_N w258 (by decide) at_256 (pc' := 259) rfl ?_
          refine i_iconst w258 at_259 (z := (3 : Int32)) (by decide) (pc' := 260) rfl ?_
          refine i_goto w258 at_260 (pc' := 264) (by decide) ?_
          refine i_istore w258 at_264 (l' := #[.val (.int y0), .val (.int y1), .val (.int y2), .val (.int y3), .val (.int y4), .val (.int (4 : Int32)), .val (.int (Int32.ofNat ka)), .val (.int (Int32.ofNat kb)), .val (.int (Int32.ofNat kc)), .val (.int (Int32.ofNat kd)), .val (.ref a), .val (.int (2 : Int32)), .val (.int (3 : Int32)), .val (.int (3 : Int32)), .unset, .unset, .unset, .unset]) rfl (pc' := 266) rfl ?_
          refine i_iload w258 at_266 rfl (pc' := 268) rfl ?_
          refine i_if_lt_N w258 (by decide) at_268 (pc' := 271) rfl ?_
          refine i_iload w258 at_271 rfl (pc' := 273) rfl ?_
          refine i_iload w258 at_273 rfl (pc' := 275) rfl ?_
          refine i_iconst w258 at_275 (z := (1 : Int32)) (by decide) (pc' := 276) rfl ?_
          refine i_iadd w258 at_276 (pc' := 277) rfl ?_
          refine i_icmp_le_Y w258 (by decide) at_277 (pc' := 293) (by decide) ?_
          refine i_iconst w258 at_293 (z := (0 : Int32)) (by decide) (pc' := 294) rfl ?_
          refine i_istore w258 at_294 (l' := #[.val (.int y0), .val (.int y1), .val (.int y2), .val (.int y3), .val (.int y4), .val (.int (4 : Int32)), .val (.int (Int32.ofNat ka)), .val (.int (Int32.ofNat kb)), .val (.int (Int32.ofNat kc)), .val (.int (Int32.ofNat kd)), .val (.ref a), .val (.int (2 : Int32)), .val (.int (3 : Int32)), .val (.int (3 : Int32)), .val (.int (0 : Int32)), .unset, .unset, .unset]) rfl (pc' := 296) rfl ?_
          refine i_iload w258 at_296 rfl (pc' := 298) rfl ?_
          refine i_istore w258 at_298 (l' := #[.val (.int y0), .val (.int y1), .val (.int y2), .val (.int y3), .val (.int y4), .val (.int (4 : Int32)), .val (.int (Int32.ofNat ka)), .val (.int (Int32.ofNat kb)), .val (.int (Int32.ofNat kc)), .val (.int (Int32.ofNat kd)), .val (.ref a), .val (.int (2 : Int32)), .val (.int (3 : Int32)), .val (.int (3 : Int32)), .val (.int (0 : Int32)), .val (.int (4 : Int32)), .unset, .unset]) rfl (pc' := 300) rfl ?_
          exact own_t4_0_4 l Z a0 hw ka kb kc kd hka hkb hkc hkd y0 y1 y2 y3 y4 a t ct (2 : Int32) (3 : Int32) (3 : Int32) 3 G1 hG SG G3 hG3 SF h0 n0 (w258.mono (by decide) (by decide)) hS (Nat.le_trans (Nat.le_trans (Nat.le_trans (Nat.le_trans hkS K250.1) K254.1) K257.1) K258.1) S (by decide) (by simp [ixv, ixN, qo0, qo1, qo2, qc3]) (by decide) (by simp [ixv, ixN, qo0, qo1, qo2, qc3]) (Or.inr ⟨by decide, by decide⟩)
        ·
          rw [show (if 3 < 4 ∧ own_atN 3 ka kb kc kd = 125 then 1 else 0) = (0 : Int32) from (by simp [own_atN, qc3])]
          show Goes p e below _ T258 (mkF m 256 #[.val (.int y0), .val (.int y1), .val (.int y2), .val (.int y3), .val (.int y4), .val (.int (4 : Int32)), .val (.int (Int32.ofNat ka)), .val (.int (Int32.ofNat kb)), .val (.int (Int32.ofNat kc)), .val (.int (Int32.ofNat kd)), .val (.ref a), .val (.int (2 : Int32)), .val (.int (3 : Int32)), .unset, .unset, .unset, .unset, .unset] [(.int (0 : Int32))])
          refine i_if_eq_Y w258 rfl at_256 (pc' := 263) (by decide) ?_
          refine i_iconst w258 at_263 (z := (-1 : Int32)) (by decide) (pc' := 264) rfl ?_
          refine i_istore w258 at_264 (l' := #[.val (.int y0), .val (.int y1), .val (.int y2), .val (.int y3), .val (.int y4), .val (.int (4 : Int32)), .val (.int (Int32.ofNat ka)), .val (.int (Int32.ofNat kb)), .val (.int (Int32.ofNat kc)), .val (.int (Int32.ofNat kd)), .val (.ref a), .val (.int (2 : Int32)), .val (.int (3 : Int32)), .val (.int (-1 : Int32)), .unset, .unset, .unset, .unset]) rfl (pc' := 266) rfl ?_
          refine i_iload w258 at_266 rfl (pc' := 268) rfl ?_
          refine i_if_lt_N w258 (by decide) at_268 (pc' := 271) rfl ?_
          refine i_iload w258 at_271 rfl (pc' := 273) rfl ?_
          refine i_iload w258 at_273 rfl (pc' := 275) rfl ?_
          refine i_iconst w258 at_275 (z := (1 : Int32)) (by decide) (pc' := 276) rfl ?_
          refine i_iadd w258 at_276 (pc' := 277) rfl ?_
          refine i_icmp_le_Y w258 (by decide) at_277 (pc' := 293) (by decide) ?_
          refine i_iconst w258 at_293 (z := (0 : Int32)) (by decide) (pc' := 294) rfl ?_
          refine i_istore w258 at_294 (l' := #[.val (.int y0), .val (.int y1), .val (.int y2), .val (.int y3), .val (.int y4), .val (.int (4 : Int32)), .val (.int (Int32.ofNat ka)), .val (.int (Int32.ofNat kb)), .val (.int (Int32.ofNat kc)), .val (.int (Int32.ofNat kd)), .val (.ref a), .val (.int (2 : Int32)), .val (.int (3 : Int32)), .val (.int (-1 : Int32)), .val (.int (0 : Int32)), .unset, .unset, .unset]) rfl (pc' := 296) rfl ?_
          refine i_iload w258 at_296 rfl (pc' := 298) rfl ?_
          refine i_istore w258 at_298 (l' := #[.val (.int y0), .val (.int y1), .val (.int y2), .val (.int y3), .val (.int y4), .val (.int (4 : Int32)), .val (.int (Int32.ofNat ka)), .val (.int (Int32.ofNat kb)), .val (.int (Int32.ofNat kc)), .val (.int (Int32.ofNat kd)), .val (.ref a), .val (.int (2 : Int32)), .val (.int (3 : Int32)), .val (.int (-1 : Int32)), .val (.int (0 : Int32)), .val (.int (4 : Int32)), .unset, .unset]) rfl (pc' := 300) rfl ?_
          exact own_t4_0_4 l Z a0 hw ka kb kc kd hka hkb hkc hkd y0 y1 y2 y3 y4 a t ct (2 : Int32) (3 : Int32) (-1 : Int32) 3 G1 hG SG G3 hG3 SF h0 n0 (w258.mono (by decide) (by decide)) hS (Nat.le_trans (Nat.le_trans (Nat.le_trans (Nat.le_trans hkS K250.1) K254.1) K257.1) K258.1) S (by decide) (by simp [ixv, ixN, qo0, qo1, qo2, qc3]) (by decide) (by simp [ixv, ixN, qo0, qo1, qo2, qc3]) (Or.inr ⟨by decide, by decide⟩)
      ·
        rw [show (if 2 < 4 ∧ own_atN 2 ka kb kc kd = 123 then 1 else 0) = (0 : Int32) from (by simp [own_atN, qo2])]
        show Goes p e below _ T257 (mkF m 109 #[.val (.int y0), .val (.int y1), .val (.int y2), .val (.int y3), .val (.int y4), .val (.int (4 : Int32)), .val (.int (Int32.ofNat ka)), .val (.int (Int32.ofNat kb)), .val (.int (Int32.ofNat kc)), .val (.int (Int32.ofNat kd)), .val (.ref a), .unset, .unset, .unset, .unset, .unset, .unset, .unset] [(.int (0 : Int32))])
        refine i_if_eq_Y w257 rfl at_109 (pc' := 116) (by decide) ?_
        refine i_iconst w257 at_116 (z := (3 : Int32)) (by decide) (pc' := 117) rfl ?_
        refine i_iload w257 at_117 rfl (pc' := 119) rfl ?_
        refine i_bipush w257 at_119 (z := (123 : Int32)) (by decide) (pc' := 121) rfl ?_
        refine i_iload w257 at_121 rfl (pc' := 123) rfl ?_
        refine i_iload w257 at_123 rfl (pc' := 125) rfl ?_
        refine i_iload w257 at_125 rfl (pc' := 127) rfl ?_
        refine i_iload w257 at_127 rfl (pc' := 129) rfl ?_
        refine c_static w257 (y := (⟨"com/example/cluster_lock/clusterlock/redis/LockKeysHashTagPinLaw", "is", "(IICCCCC)Z"⟩ : MethodName)) (argsL := [(.int (3 : Int32)), (.int (4 : Int32)), (.int (123 : Int32)), (.int (Int32.ofNat ka)), (.int (Int32.ofNat kb)), (.int (Int32.ofNat kc)), (.int (Int32.ofNat kd))]) (st := []) at_129 (hw _ (List.mem_of_getElem? (i := 37) rfl)) (hw _ (List.mem_of_getElem? (i := 38) rfl)) (hw _ (List.mem_of_getElem? (i := 2) rfl)) (hw _ (List.mem_of_getElem? (i := 39) rfl)) (by decide) own_pd_pIICCCCCqZ rfl (own_is l Z a0 hw 3 4 123 ka kb kc kd h n0 w257.old (by decide) (by decide) (by decide) hka hkb hkc hkd) rfl (by decide) (W := 0) (Nat.le_of_eq rfl) (by decide) (by decide) (by decide) (fun _ q => nomatch q) (pc' := 132) rfl ?_
        intro v259 T259 h259 w259 K259 q259
        obtain ⟨rfl, rfl⟩ := q259
        show Goes p e below _ T259 (mkF m 132 #[.val (.int y0), .val (.int y1), .val (.int y2), .val (.int y3), .val (.int y4), .val (.int (4 : Int32)), .val (.int (Int32.ofNat ka)), .val (.int (Int32.ofNat kb)), .val (.int (Int32.ofNat kc)), .val (.int (Int32.ofNat kd)), .val (.ref a), .unset, .unset, .unset, .unset, .unset, .unset, .unset] [(.int (if 3 < 4 ∧ own_atN 3 ka kb kc kd = 123 then 1 else 0))])
        by_cases qo3 : kd = 123
        ·
          rw [show (if 3 < 4 ∧ own_atN 3 ka kb kc kd = 123 then 1 else 0) = (1 : Int32) from (by simp [own_atN, qo3])]
          show Goes p e below _ T259 (mkF m 132 #[.val (.int y0), .val (.int y1), .val (.int y2), .val (.int y3), .val (.int y4), .val (.int (4 : Int32)), .val (.int (Int32.ofNat ka)), .val (.int (Int32.ofNat kb)), .val (.int (Int32.ofNat kc)), .val (.int (Int32.ofNat kd)), .val (.ref a), .unset, .unset, .unset, .unset, .unset, .unset, .unset] [(.int (1 : Int32))])
          refine i_if_eq_N w259 (by decide) at_132 (pc' := 135) rfl ?_
          refine i_iconst w259 at_135 (z := (3 : Int32)) (by decide) (pc' := 136) rfl ?_
          refine i_goto w259 at_136 (pc' := 140) (by decide) ?_
          refine i_istore w259 at_140 (l' := #[.val (.int y0), .val (.int y1), .val (.int y2), .val (.int y3), .val (.int y4), .val (.int (4 : Int32)), .val (.int (Int32.ofNat ka)), .val (.int (Int32.ofNat kb)), .val (.int (Int32.ofNat kc)), .val (.int (Int32.ofNat kd)), .val (.ref a), .val (.int (3 : Int32)), .unset, .unset, .unset, .unset, .unset, .unset]) rfl (pc' := 142) rfl ?_
          refine i_iload w259 at_142 rfl (pc' := 144) rfl ?_
          refine i_iconst w259 at_144 (z := (1 : Int32)) (by decide) (pc' := 145) rfl ?_
          refine i_iadd w259 at_145 (pc' := 146) rfl ?_
          rw [show ((3 : Int32) + (1 : Int32)) = (4 : Int32) from by decide]
          show Goes p e below _ T259 (mkF m 146 #[.val (.int y0), .val (.int y1), .val (.int y2), .val (.int y3), .val (.int y4), .val (.int (4 : Int32)), .val (.int (Int32.ofNat ka)), .val (.int (Int32.ofNat kb)), .val (.int (Int32.ofNat kc)), .val (.int (Int32.ofNat kd)), .val (.ref a), .val (.int (3 : Int32)), .unset, .unset, .unset, .unset, .unset, .unset] [(.int (4 : Int32))])
          refine i_istore w259 at_146 (l' := #[.val (.int y0), .val (.int y1), .val (.int y2), .val (.int y3), .val (.int y4), .val (.int (4 : Int32)), .val (.int (Int32.ofNat ka)), .val (.int (Int32.ofNat kb)), .val (.int (Int32.ofNat kc)), .val (.int (Int32.ofNat kd)), .val (.ref a), .val (.int (3 : Int32)), .val (.int (4 : Int32)), .unset, .unset, .unset, .unset, .unset]) rfl (pc' := 148) rfl ?_
          refine i_iload w259 at_148 rfl (pc' := 150) rfl ?_
          refine i_if_gt_Y w259 (by decide) at_150 (pc' := 176) (by decide) ?_
          refine i_iload w259 at_176 rfl (pc' := 178) rfl ?_
          refine i_iconst w259 at_178 (z := (1 : Int32)) (by decide) (pc' := 179) rfl ?_
          refine i_icmp_gt_Y w259 (by decide) at_179 (pc' := 205) (by decide) ?_
          refine i_iload w259 at_205 rfl (pc' := 207) rfl ?_
          refine i_iconst w259 at_207 (z := (2 : Int32)) (by decide) (pc' := 208) rfl ?_
          refine i_icmp_gt_Y w259 (by decide) at_208 (pc' := 234) (by decide) ?_
          refine i_iload w259 at_234 rfl (pc' := 236) rfl ?_
          refine i_iconst w259 at_236 (z := (3 : Int32)) (by decide) (pc' := 237) rfl ?_
          refine i_icmp_gt_Y w259 (by decide) at_237 (pc' := 263) (by decide) ?_
          refine i_iconst w259 at_263 (z := (-1 : Int32)) (by decide) (pc' := 264) rfl ?_
          refine i_istore w259 at_264 (l' := #[.val (.int y0), .val (.int y1), .val (.int y2), .val (.int y3), .val (.int y4), .val (.int (4 : Int32)), .val (.int (Int32.ofNat ka)), .val (.int (Int32.ofNat kb)), .val (.int (Int32.ofNat kc)), .val (.int (Int32.ofNat kd)), .val (.ref a), .val (.int (3 : Int32)), .val (.int (4 : Int32)), .val (.int (-1 : Int32)), .unset, .unset, .unset, .unset]) rfl (pc' := 266) rfl ?_
          refine i_iload w259 at_266 rfl (pc' := 268) rfl ?_
          refine i_if_lt_N w259 (by decide) at_268 (pc' := 271) rfl ?_
          refine i_iload w259 at_271 rfl (pc' := 273) rfl ?_
          refine i_iload w259 at_273 rfl (pc' := 275) rfl ?_
          refine i_iconst w259 at_275 (z := (1 : Int32)) (by decide) (pc' := 276) rfl ?_
          refine i_iadd w259 at_276 (pc' := 277) rfl ?_
          refine i_icmp_le_Y w259 (by decide) at_277 (pc' := 293) (by decide) ?_
          refine i_iconst w259 at_293 (z := (0 : Int32)) (by decide) (pc' := 294) rfl ?_
          refine i_istore w259 at_294 (l' := #[.val (.int y0), .val (.int y1), .val (.int y2), .val (.int y3), .val (.int y4), .val (.int (4 : Int32)), .val (.int (Int32.ofNat ka)), .val (.int (Int32.ofNat kb)), .val (.int (Int32.ofNat kc)), .val (.int (Int32.ofNat kd)), .val (.ref a), .val (.int (3 : Int32)), .val (.int (4 : Int32)), .val (.int (-1 : Int32)), .val (.int (0 : Int32)), .unset, .unset, .unset]) rfl (pc' := 296) rfl ?_
          refine i_iload w259 at_296 rfl (pc' := 298) rfl ?_
          refine i_istore w259 at_298 (l' := #[.val (.int y0), .val (.int y1), .val (.int y2), .val (.int y3), .val (.int y4), .val (.int (4 : Int32)), .val (.int (Int32.ofNat ka)), .val (.int (Int32.ofNat kb)), .val (.int (Int32.ofNat kc)), .val (.int (Int32.ofNat kd)), .val (.ref a), .val (.int (3 : Int32)), .val (.int (4 : Int32)), .val (.int (-1 : Int32)), .val (.int (0 : Int32)), .val (.int (4 : Int32)), .unset, .unset]) rfl (pc' := 300) rfl ?_
          exact own_t4_0_4 l Z a0 hw ka kb kc kd hka hkb hkc hkd y0 y1 y2 y3 y4 a t ct (3 : Int32) (4 : Int32) (-1 : Int32) 4 G1 hG SG G3 hG3 SF h0 n0 (w259.mono (by decide) (by decide)) hS (Nat.le_trans (Nat.le_trans (Nat.le_trans (Nat.le_trans hkS K250.1) K254.1) K257.1) K259.1) S (by decide) (by simp [ixv, ixN, qo0, qo1, qo2, qo3]) (by decide) (by simp [ixv, ixN, qo0, qo1, qo2, qo3]) (Or.inr ⟨by decide, by decide⟩)
        ·
          rw [show (if 3 < 4 ∧ own_atN 3 ka kb kc kd = 123 then 1 else 0) = (0 : Int32) from (by simp [own_atN, qo3])]
          show Goes p e below _ T259 (mkF m 132 #[.val (.int y0), .val (.int y1), .val (.int y2), .val (.int y3), .val (.int y4), .val (.int (4 : Int32)), .val (.int (Int32.ofNat ka)), .val (.int (Int32.ofNat kb)), .val (.int (Int32.ofNat kc)), .val (.int (Int32.ofNat kd)), .val (.ref a), .unset, .unset, .unset, .unset, .unset, .unset, .unset] [(.int (0 : Int32))])
          refine i_if_eq_Y w259 rfl at_132 (pc' := 139) (by decide) ?_
          refine i_iconst w259 at_139 (z := (-1 : Int32)) (by decide) (pc' := 140) rfl ?_
          refine i_istore w259 at_140 (l' := #[.val (.int y0), .val (.int y1), .val (.int y2), .val (.int y3), .val (.int y4), .val (.int (4 : Int32)), .val (.int (Int32.ofNat ka)), .val (.int (Int32.ofNat kb)), .val (.int (Int32.ofNat kc)), .val (.int (Int32.ofNat kd)), .val (.ref a), .val (.int (-1 : Int32)), .unset, .unset, .unset, .unset, .unset, .unset]) rfl (pc' := 142) rfl ?_
          refine i_iload w259 at_142 rfl (pc' := 144) rfl ?_
          refine i_iconst w259 at_144 (z := (1 : Int32)) (by decide) (pc' := 145) rfl ?_
          refine i_iadd w259 at_145 (pc' := 146) rfl ?_
          rw [show ((-1 : Int32) + (1 : Int32)) = (0 : Int32) from by decide]
          show Goes p e below _ T259 (mkF m 146 #[.val (.int y0), .val (.int y1), .val (.int y2), .val (.int y3), .val (.int y4), .val (.int (4 : Int32)), .val (.int (Int32.ofNat ka)), .val (.int (Int32.ofNat kb)), .val (.int (Int32.ofNat kc)), .val (.int (Int32.ofNat kd)), .val (.ref a), .val (.int (-1 : Int32)), .unset, .unset, .unset, .unset, .unset, .unset] [(.int (0 : Int32))])
          refine i_istore w259 at_146 (l' := #[.val (.int y0), .val (.int y1), .val (.int y2), .val (.int y3), .val (.int y4), .val (.int (4 : Int32)), .val (.int (Int32.ofNat ka)), .val (.int (Int32.ofNat kb)), .val (.int (Int32.ofNat kc)), .val (.int (Int32.ofNat kd)), .val (.ref a), .val (.int (-1 : Int32)), .val (.int (0 : Int32)), .unset, .unset, .unset, .unset, .unset]) rfl (pc' := 148) rfl ?_
          refine i_iload w259 at_148 rfl (pc' := 150) rfl ?_
          refine i_if_gt_N w259 (by decide) at_150 (pc' := 153) rfl ?_
          refine i_iconst w259 at_153 (z := (0 : Int32)) (by decide) (pc' := 154) rfl ?_
          refine i_iload w259 at_154 rfl (pc' := 156) rfl ?_
          refine i_bipush w259 at_156 (z := (125 : Int32)) (by decide) (pc' := 158) rfl ?_
          refine i_iload w259 at_158 rfl (pc' := 160) rfl ?_
          refine i_iload w259 at_160 rfl (pc' := 162) rfl ?_
          refine i_iload w259 at_162 rfl (pc' := 164) rfl ?_
          refine i_iload w259 at_164 rfl (pc' := 166) rfl ?_
          refine c_static w259 (y := (⟨"com/example/cluster_lock/clusterlock/redis/LockKeysHashTagPinLaw", "is", "(IICCCCC)Z"⟩ : MethodName)) (argsL := [(.int (0 : Int32)), (.int (4 : Int32)), (.int (125 : Int32)), (.int (Int32.ofNat ka)), (.int (Int32.ofNat kb)), (.int (Int32.ofNat kc)), (.int (Int32.ofNat kd))]) (st := []) at_166 (hw _ (List.mem_of_getElem? (i := 37) rfl)) (hw _ (List.mem_of_getElem? (i := 38) rfl)) (hw _ (List.mem_of_getElem? (i := 2) rfl)) (hw _ (List.mem_of_getElem? (i := 39) rfl)) (by decide) own_pd_pIICCCCCqZ rfl (own_is l Z a0 hw 0 4 125 ka kb kc kd h n0 w259.old (by decide) (by decide) (by decide) hka hkb hkc hkd) rfl (by decide) (W := 0) (Nat.le_of_eq rfl) (by decide) (by decide) (by decide) (fun _ q => nomatch q) (pc' := 169) rfl ?_
          intro v260 T260 h260 w260 K260 q260
          obtain ⟨rfl, rfl⟩ := q260
          show Goes p e below _ T260 (mkF m 169 #[.val (.int y0), .val (.int y1), .val (.int y2), .val (.int y3), .val (.int y4), .val (.int (4 : Int32)), .val (.int (Int32.ofNat ka)), .val (.int (Int32.ofNat kb)), .val (.int (Int32.ofNat kc)), .val (.int (Int32.ofNat kd)), .val (.ref a), .val (.int (-1 : Int32)), .val (.int (0 : Int32)), .unset, .unset, .unset, .unset, .unset] [(.int (if 0 < 4 ∧ own_atN 0 ka kb kc kd = 125 then 1 else 0))])
          by_cases qc0 : ka = 125
          ·
            rw [show (if 0 < 4 ∧ own_atN 0 ka kb kc kd = 125 then 1 else 0) = (1 : Int32) from (by simp [own_atN, qc0])]
            show Goes p e below _ T260 (mkF m 169 #[.val (.int y0), .val (.int y1), .val (.int y2), .val (.int y3), .val (.int y4), .val (.int (4 : Int32)), .val (.int (Int32.ofNat ka)), .val (.int (Int32.ofNat kb)), .val (.int (Int32.ofNat kc)), .val (.int (Int32.ofNat kd)), .val (.ref a), .val (.int (-1 : Int32)), .val (.int (0 : Int32)), .unset, .unset, .unset, .unset, .unset] [(.int (1 : Int32))])
            refine i_if_eq_N w260 (by decide) at_169 (pc' := 172) rfl ?_
            refine i_iconst w260 at_172 (z := (0 : Int32)) (by decide) (pc' := 173) rfl ?_
            refine i_goto w260 at_173 (pc' := 264) (by decide) ?_
            refine i_istore w260 at_264 (l' := #[.val (.int y0), .val (.int y1), .val (.int y2), .val (.int y3), .val (.int y4), .val (.int (4 : Int32)), .val (.int (Int32.ofNat ka)), .val (.int (Int32.ofNat kb)), .val (.int (Int32.ofNat kc)), .val (.int (Int32.ofNat kd)), .val (.ref a), .val (.int (-1 : Int32)), .val (.int (0 : Int32)), .val (.int (0 : Int32)), .unset, .unset, .unset, .unset]) rfl (pc' := 266) rfl ?_
            refine i_iload w260 at_266 rfl (pc' := 268) rfl ?_
            refine i_if_lt_Y w260 (by decide) at_268 (pc' := 293) (by decide) ?_
            refine i_iconst w260 at_293 (z := (0 : Int32)) (by decide) (pc' := 294) rfl ?_
            refine i_istore w260 at_294 (l' := #[.val (.int y0), .val (.int y1), .val (.int y2), .val (.int y3), .val (.int y4), .val (.int (4 : Int32)), .val (.int (Int32.ofNat ka)), .val (.int (Int32.ofNat kb)), .val (.int (Int32.ofNat kc)), .val (.int (Int32.ofNat kd)), .val (.ref a), .val (.int (-1 : Int32)), .val (.int (0 : Int32)), .val (.int (0 : Int32)), .val (.int (0 : Int32)), .unset, .unset, .unset]) rfl (pc' := 296) rfl ?_
            refine i_iload w260 at_296 rfl (pc' := 298) rfl ?_
            refine i_istore w260 at_298 (l' := #[.val (.int y0), .val (.int y1), .val (.int y2), .val (.int y3), .val (.int y4), .val (.int (4 : Int32)), .val (.int (Int32.ofNat ka)), .val (.int (Int32.ofNat kb)), .val (.int (Int32.ofNat kc)), .val (.int (Int32.ofNat kd)), .val (.ref a), .val (.int (-1 : Int32)), .val (.int (0 : Int32)), .val (.int (0 : Int32)), .val (.int (0 : Int32)), .val (.int (4 : Int32)), .unset, .unset]) rfl (pc' := 300) rfl ?_
            exact own_t4_0_4 l Z a0 hw ka kb kc kd hka hkb hkc hkd y0 y1 y2 y3 y4 a t ct (-1 : Int32) (0 : Int32) (0 : Int32) 0 G1 hG SG G3 hG3 SF h0 n0 (w260.mono (by decide) (by decide)) hS (Nat.le_trans (Nat.le_trans (Nat.le_trans (Nat.le_trans (Nat.le_trans hkS K250.1) K254.1) K257.1) K259.1) K260.1) S (by decide) (by simp [ixv, ixN, qo0, qo1, qo2, qo3, qc0]) (by decide) (by simp [ixv, ixN, qo0, qo1, qo2, qo3, qc0]) (Or.inl (by decide))
          ·
            rw [show (if 0 < 4 ∧ own_atN 0 ka kb kc kd = 125 then 1 else 0) = (0 : Int32) from (by simp [own_atN, qc0])]
            show Goes p e below _ T260 (mkF m 169 #[.val (.int y0), .val (.int y1), .val (.int y2), .val (.int y3), .val (.int y4), .val (.int (4 : Int32)), .val (.int (Int32.ofNat ka)), .val (.int (Int32.ofNat kb)), .val (.int (Int32.ofNat kc)), .val (.int (Int32.ofNat kd)), .val (.ref a), .val (.int (-1 : Int32)), .val (.int (0 : Int32)), .unset, .unset, .unset, .unset, .unset] [(.int (0 : Int32))])
            refine i_if_eq_Y w260 rfl at_169 (pc' := 176) (by decide) ?_
            refine i_iload w260 at_176 rfl (pc' := 178) rfl ?_
            refine i_iconst w260 at_178 (z := (1 : Int32)) (by decide) (pc' := 179) rfl ?_
            refine i_icmp_gt_N w260 (by decide) at_179 (pc' := 182) rfl ?_
            refine i_iconst w260 at_182 (z := (1 : Int32)) (by decide) (pc' := 183) rfl ?_
            refine i_iload w260 at_183 rfl (pc' := 185) rfl ?_
            refine i_bipush w260 at_185 (z := (125 : Int32)) (by decide) (pc' := 187) rfl ?_
            refine i_iload w260 at_187 rfl (pc' := 189) rfl ?_
            refine i_iload w260 at_189 rfl (pc' := 191) rfl ?_
            refine i_iload w260 at_191 rfl (pc' := 193) rfl ?_
            refine i_iload w260 at_193 rfl (pc' := 195) rfl ?_
            refine c_static w260 (y := (⟨"com/example/cluster_lock/clusterlock/redis/LockKeysHashTagPinLaw", "is", "(IICCCCC)Z"⟩ : MethodName)) (argsL := [(.int (1 : Int32)), (.int (4 : Int32)), (.int (125 : Int32)), (.int (Int32.ofNat ka)), (.int (Int32.ofNat kb)), (.int (Int32.ofNat kc)), (.int (Int32.ofNat kd))]) (st := []) at_195 (hw _ (List.mem_of_getElem? (i := 37) rfl)) (hw _ (List.mem_of_getElem? (i := 38) rfl)) (hw _ (List.mem_of_getElem? (i := 2) rfl)) (hw _ (List.mem_of_getElem? (i := 39) rfl)) (by decide) own_pd_pIICCCCCqZ rfl (own_is l Z a0 hw 1 4 125 ka kb kc kd h n0 w260.old (by decide) (by decide) (by decide) hka hkb hkc hkd) rfl (by decide) (W := 0) (Nat.le_of_eq rfl) (by decide) (by decide) (by decide) (fun _ q => nomatch q) (pc' := 198) rfl ?_
            intro v261 T261 h261 w261 K261 q261
            obtain ⟨rfl, rfl⟩ := q261
            show Goes p e below _ T261 (mkF m 198 #[.val (.int y0), .val (.int y1), .val (.int y2), .val (.int y3), .val (.int y4), .val (.int (4 : Int32)), .val (.int (Int32.ofNat ka)), .val (.int (Int32.ofNat kb)), .val (.int (Int32.ofNat kc)), .val (.int (Int32.ofNat kd)), .val (.ref a), .val (.int (-1 : Int32)), .val (.int (0 : Int32)), .unset, .unset, .unset, .unset, .unset] [(.int (if 1 < 4 ∧ own_atN 1 ka kb kc kd = 125 then 1 else 0))])
            by_cases qc1 : kb = 125
            ·
              rw [show (if 1 < 4 ∧ own_atN 1 ka kb kc kd = 125 then 1 else 0) = (1 : Int32) from (by simp [own_atN, qc1])]
              show Goes p e below _ T261 (mkF m 198 #[.val (.int y0), .val (.int y1), .val (.int y2), .val (.int y3), .val (.int y4), .val (.int (4 : Int32)), .val (.int (Int32.ofNat ka)), .val (.int (Int32.ofNat kb)), .val (.int (Int32.ofNat kc)), .val (.int (Int32.ofNat kd)), .val (.ref a), .val (.int (-1 : Int32)), .val (.int (0 : Int32)), .unset, .unset, .unset, .unset, .unset] [(.int (1 : Int32))])
              refine i_if_eq_N w261 (by decide) at_198 (pc' := 201) rfl ?_
              refine i_iconst w261 at_201 (z := (1 : Int32)) (by decide) (pc' := 202) rfl ?_
              refine i_goto w261 at_202 (pc' := 264) (by decide) ?_
              refine i_istore w261 at_264 (l' := #[.val (.int y0), .val (.int y1), .val (.int y2), .val (.int y3), .val (.int y4), .val (.int (4 : Int32)), .val (.int (Int32.ofNat ka)), .val (.int (Int32.ofNat kb)), .val (.int (Int32.ofNat kc)), .val (.int (Int32.ofNat kd)), .val (.ref a), .val (.int (-1 : Int32)), .val (.int (0 : Int32)), .val (.int (1 : Int32)), .unset, .unset, .unset, .unset]) rfl (pc' := 266) rfl ?_
              refine i_iload w261 at_266 rfl (pc' := 268) rfl ?_
              refine i_if_lt_Y w261 (by decide) at_268 (pc' := 293) (by decide) ?_
              refine i_iconst w261 at_293 (z := (0 : Int32)) (by decide) (pc' := 294) rfl ?_
              refine i_istore w261 at_294 (l' := #[.val (.int y0), .val (.int y1), .val (.int y2), .val (.int y3), .val (.int y4), .val (.int (4 : Int32)), .val (.int (Int32.ofNat ka)), .val (.int (Int32.ofNat kb)), .val (.int (Int32.ofNat kc)), .val (.int (Int32.ofNat kd)), .val (.ref a), .val (.int (-1 : Int32)), .val (.int (0 : Int32)), .val (.int (1 : Int32)), .val (.int (0 : Int32)), .unset, .unset, .unset]) rfl (pc' := 296) rfl ?_
              refine i_iload w261 at_296 rfl (pc' := 298) rfl ?_
              refine i_istore w261 at_298 (l' := #[.val (.int y0), .val (.int y1), .val (.int y2), .val (.int y3), .val (.int y4), .val (.int (4 : Int32)), .val (.int (Int32.ofNat ka)), .val (.int (Int32.ofNat kb)), .val (.int (Int32.ofNat kc)), .val (.int (Int32.ofNat kd)), .val (.ref a), .val (.int (-1 : Int32)), .val (.int (0 : Int32)), .val (.int (1 : Int32)), .val (.int (0 : Int32)), .val (.int (4 : Int32)), .unset, .unset]) rfl (pc' := 300) rfl ?_
              exact own_t4_0_4 l Z a0 hw ka kb kc kd hka hkb hkc hkd y0 y1 y2 y3 y4 a t ct (-1 : Int32) (0 : Int32) (1 : Int32) 0 G1 hG SG G3 hG3 SF h0 n0 (w261.mono (by decide) (by decide)) hS (Nat.le_trans (Nat.le_trans (Nat.le_trans (Nat.le_trans (Nat.le_trans (Nat.le_trans hkS K250.1) K254.1) K257.1) K259.1) K260.1) K261.1) S (by decide) (by simp [ixv, ixN, qo0, qo1, qo2, qo3, qc0, qc1]) (by decide) (by simp [ixv, ixN, qo0, qo1, qo2, qo3, qc0, qc1]) (Or.inl (by decide))
            ·
              rw [show (if 1 < 4 ∧ own_atN 1 ka kb kc kd = 125 then 1 else 0) = (0 : Int32) from (by simp [own_atN, qc1])]
              show Goes p e below _ T261 (mkF m 198 #[.val (.int y0), .val (.int y1), .val (.int y2), .val (.int y3), .val (.int y4), .val (.int (4 : Int32)), .val (.int (Int32.ofNat ka)), .val (.int (Int32.ofNat kb)), .val (.int (Int32.ofNat kc)), .val (.int (Int32.ofNat kd)), .val (.ref a), .val (.int (-1 : Int32)), .val (.int (0 : Int32)), .unset, .unset, .unset, .unset, .unset] [(.int (0 : Int32))])
              refine i_if_eq_Y w261 rfl at_198 (pc' := 205) (by decide) ?_
              refine i_iload w261 at_205 rfl (pc' := 207) rfl ?_
              refine i_iconst w261 at_207 (z := (2 : Int32)) (by decide) (pc' := 208) rfl ?_
              refine i_icmp_gt_N w261 (by decide) at_208 (pc' := 211) rfl ?_
              refine i_iconst w261 at_211 (z := (2 : Int32)) (by decide) (pc' := 212) rfl ?_
              refine i_iload w261 at_212 rfl (pc' := 214) rfl ?_
              refine i_bipush w261 at_214 (z := (125 : Int32)) (by decide) (pc' := 216) rfl ?_
              refine i_iload w261 at_216 rfl (pc' := 218) rfl ?_
              refine i_iload w261 at_218 rfl (pc' := 220) rfl ?_
              refine i_iload w261 at_220 rfl (pc' := 222) rfl ?_
              refine i_iload w261 at_222 rfl (pc' := 224) rfl ?_
              refine c_static w261 (y := (⟨"com/example/cluster_lock/clusterlock/redis/LockKeysHashTagPinLaw", "is", "(IICCCCC)Z"⟩ : MethodName)) (argsL := [(.int (2 : Int32)), (.int (4 : Int32)), (.int (125 : Int32)), (.int (Int32.ofNat ka)), (.int (Int32.ofNat kb)), (.int (Int32.ofNat kc)), (.int (Int32.ofNat kd))]) (st := []) at_224 (hw _ (List.mem_of_getElem? (i := 37) rfl)) (hw _ (List.mem_of_getElem? (i := 38) rfl)) (hw _ (List.mem_of_getElem? (i := 2) rfl)) (hw _ (List.mem_of_getElem? (i := 39) rfl)) (by decide) own_pd_pIICCCCCqZ rfl (own_is l Z a0 hw 2 4 125 ka kb kc kd h n0 w261.old (by decide) (by decide) (by decide) hka hkb hkc hkd) rfl (by decide) (W := 0) (Nat.le_of_eq rfl) (by decide) (by decide) (by decide) (fun _ q => nomatch q) (pc' := 227) rfl ?_
              intro v262 T262 h262 w262 K262 q262
              obtain ⟨rfl, rfl⟩ := q262
              show Goes p e below _ T262 (mkF m 227 #[.val (.int y0), .val (.int y1), .val (.int y2), .val (.int y3), .val (.int y4), .val (.int (4 : Int32)), .val (.int (Int32.ofNat ka)), .val (.int (Int32.ofNat kb)), .val (.int (Int32.ofNat kc)), .val (.int (Int32.ofNat kd)), .val (.ref a), .val (.int (-1 : Int32)), .val (.int (0 : Int32)), .unset, .unset, .unset, .unset, .unset] [(.int (if 2 < 4 ∧ own_atN 2 ka kb kc kd = 125 then 1 else 0))])
              by_cases qc2 : kc = 125
              ·
                rw [show (if 2 < 4 ∧ own_atN 2 ka kb kc kd = 125 then 1 else 0) = (1 : Int32) from (by simp [own_atN, qc2])]
                show Goes p e below _ T262 (mkF m 227 #[.val (.int y0), .val (.int y1), .val (.int y2), .val (.int y3), .val (.int y4), .val (.int (4 : Int32)), .val (.int (Int32.ofNat ka)), .val (.int (Int32.ofNat kb)), .val (.int (Int32.ofNat kc)), .val (.int (Int32.ofNat kd)), .val (.ref a), .val (.int (-1 : Int32)), .val (.int (0 : Int32)), .unset, .unset, .unset, .unset, .unset] [(.int (1 : Int32))])
                refine i_if_eq_N w262 (by decide) at_227 (pc' := 230) rfl ?_
                refine i_iconst w262 at_230 (z := (2 : Int32)) (by decide) (pc' := 231) rfl ?_
                refine i_goto w262 at_231 (pc' := 264) (by decide) ?_
                refine i_istore w262 at_264 (l' := #[.val (.int y0), .val (.int y1), .val (.int y2), .val (.int y3), .val (.int y4), .val (.int (4 : Int32)), .val (.int (Int32.ofNat ka)), .val (.int (Int32.ofNat kb)), .val (.int (Int32.ofNat kc)), .val (.int (Int32.ofNat kd)), .val (.ref a), .val (.int (-1 : Int32)), .val (.int (0 : Int32)), .val (.int (2 : Int32)), .unset, .unset, .unset, .unset]) rfl (pc' := 266) rfl ?_
                refine i_iload w262 at_266 rfl (pc' := 268) rfl ?_
                refine i_if_lt_Y w262 (by decide) at_268 (pc' := 293) (by decide) ?_
                refine i_iconst w262 at_293 (z := (0 : Int32)) (by decide) (pc' := 294) rfl ?_
                refine i_istore w262 at_294 (l' := #[.val (.int y0), .val (.int y1), .val (.int y2), .val (.int y3), .val (.int y4), .val (.int (4 : Int32)), .val (.int (Int32.ofNat ka)), .val (.int (Int32.ofNat kb)), .val (.int (Int32.ofNat kc)), .val (.int (Int32.ofNat kd)), .val (.ref a), .val (.int (-1 : Int32)), .val (.int (0 : Int32)), .val (.int (2 : Int32)), .val (.int (0 : Int32)), .unset, .unset, .unset]) rfl (pc' := 296) rfl ?_
                refine i_iload w262 at_296 rfl (pc' := 298) rfl ?_
                refine i_istore w262 at_298 (l' := #[.val (.int y0), .val (.int y1), .val (.int y2), .val (.int y3), .val (.int y4), .val (.int (4 : Int32)), .val (.int (Int32.ofNat ka)), .val (.int (Int32.ofNat kb)), .val (.int (Int32.ofNat kc)), .val (.int (Int32.ofNat kd)), .val (.ref a), .val (.int (-1 : Int32)), .val (.int (0 : Int32)), .val (.int (2 : Int32)), .val (.int (0 : Int32)), .val (.int (4 : Int32)), .unset, .unset]) rfl (pc' := 300) rfl ?_
                exact own_t4_0_4 l Z a0 hw ka kb kc kd hka hkb hkc hkd y0 y1 y2 y3 y4 a t ct (-1 : Int32) (0 : Int32) (2 : Int32) 0 G1 hG SG G3 hG3 SF h0 n0 (w262.mono (by decide) (by decide)) hS (Nat.le_trans (Nat.le_trans (Nat.le_trans (Nat.le_trans (Nat.le_trans (Nat.le_trans (Nat.le_trans hkS K250.1) K254.1) K257.1) K259.1) K260.1) K261.1) K262.1) S (by decide) (by simp [ixv, ixN, qo0, qo1, qo2, qo3, qc0, qc1, qc2]) (by decide) (by simp [ixv, ixN, qo0, qo1, qo2, qo3, qc0, qc1, qc2]) (Or.inl (by decide))
              ·
                rw [show (if 2 < 4 ∧ own_atN 2 ka kb kc kd = 125 then 1 else 0) = (0 : Int32) from (by simp [own_atN, qc2])]
                show Goes p e below _ T262 (mkF m 227 #[.val (.int y0), .val (.int y1), .val (.int y2), .val (.int y3), .val (.int y4), .val (.int (4 : Int32)), .val (.int (Int32.ofNat ka)), .val (.int (Int32.ofNat kb)), .val (.int (Int32.ofNat kc)), .val (.int (Int32.ofNat kd)), .val (.ref a), .val (.int (-1 : Int32)), .val (.int (0 : Int32)), .unset, .unset, .unset, .unset, .unset] [(.int (0 : Int32))])
                refine i_if_eq_Y w262 rfl at_227 (pc' := 234) (by decide) ?_
                refine i_iload w262 at_234 rfl (pc' := 236) rfl ?_
                refine i_iconst w262 at_236 (z := (3 : Int32)) (by decide) (pc' := 237) rfl ?_
                refine i_icmp_gt_N w262 (by decide) at_237 (pc' := 240) rfl ?_
                refine i_iconst w262 at_240 (z := (3 : Int32)) (by decide) (pc' := 241) rfl ?_
                refine i_iload w262 at_241 rfl (pc' := 243) rfl ?_
                refine i_bipush w262 at_243 (z := (125 : Int32)) (by decide) (pc' := 245) rfl ?_
                refine i_iload w262 at_245 rfl (pc' := 247) rfl ?_
                refine i_iload w262 at_247 rfl (pc' := 249) rfl ?_
                refine i_iload w262 at_249 rfl (pc' := 251) rfl ?_
                refine i_iload w262 at_251 rfl (pc' := 253) rfl ?_
                refine c_static w262 (y := (⟨"com/example/cluster_lock/clusterlock/redis/LockKeysHashTagPinLaw", "is", "(IICCCCC)Z"⟩ : MethodName)) (argsL := [(.int (3 : Int32)), (.int (4 : Int32)), (.int (125 : Int32)), (.int (Int32.ofNat ka)), (.int (Int32.ofNat kb)), (.int (Int32.ofNat kc)), (.int (Int32.ofNat kd))]) (st := []) at_253 (hw _ (List.mem_of_getElem? (i := 37) rfl)) (hw _ (List.mem_of_getElem? (i := 38) rfl)) (hw _ (List.mem_of_getElem? (i := 2) rfl)) (hw _ (List.mem_of_getElem? (i := 39) rfl)) (by decide) own_pd_pIICCCCCqZ rfl (own_is l Z a0 hw 3 4 125 ka kb kc kd h n0 w262.old (by decide) (by decide) (by decide) hka hkb hkc hkd) rfl (by decide) (W := 0) (Nat.le_of_eq rfl) (by decide) (by decide) (by decide) (fun _ q => nomatch q) (pc' := 256) rfl ?_
                intro v263 T263 h263 w263 K263 q263
                obtain ⟨rfl, rfl⟩ := q263
                show Goes p e below _ T263 (mkF m 256 #[.val (.int y0), .val (.int y1), .val (.int y2), .val (.int y3), .val (.int y4), .val (.int (4 : Int32)), .val (.int (Int32.ofNat ka)), .val (.int (Int32.ofNat kb)), .val (.int (Int32.ofNat kc)), .val (.int (Int32.ofNat kd)), .val (.ref a), .val (.int (-1 : Int32)), .val (.int (0 : Int32)), .unset, .unset, .unset, .unset, .unset] [(.int (if 3 < 4 ∧ own_atN 3 ka kb kc kd = 125 then 1 else 0))])
                by_cases qc3 : kd = 125
                ·
                  rw [show (if 3 < 4 ∧ own_atN 3 ka kb kc kd = 125 then 1 else 0) = (1 : Int32) from (by simp [own_atN, qc3])]
                  show Goes p e below _ T263 (mkF m 256 #[.val (.int y0), .val (.int y1), .val (.int y2), .val (.int y3), .val (.int y4), .val (.int (4 : Int32)), .val (.int (Int32.ofNat ka)), .val (.int (Int32.ofNat kb)), .val (.int (Int32.ofNat kc)), .val (.int (Int32.ofNat kd)), .val (.ref a), .val (.int (-1 : Int32)), .val (.int (0 : Int32)), .unset, .unset, .unset, .unset, .unset] [(.int (1 : Int32))])
                  refine i_if_eq_N w263 (by decide) at_256 (pc' := 259) rfl ?_
                  refine i_iconst w263 at_259 (z := (3 : Int32)) (by decide) (pc' := 260) rfl ?_
                  refine i_goto w263 at_260 (pc' := 264) (by decide) ?_
                  refine i_istore w263 at_264 (l' := #[.val (.int y0), .val (.int y1), .val (.int y2), .val (.int y3), .val (.int y4), .val (.int (4 : Int32)), .val (.int (Int32.ofNat ka)), .val (.int (Int32.ofNat kb)), .val (.int (Int32.ofNat kc)), .val (.int (Int32.ofNat kd)), .val (.ref a), .val (.int (-1 : Int32)), .val (.int (0 : Int32)), .val (.int (3 : Int32)), .unset, .unset, .unset, .unset]) rfl (pc' := 266) rfl ?_
                  refine i_iload w263 at_266 rfl (pc' := 268) rfl ?_
                  refine i_if_lt_Y w263 (by decide) at_268 (pc' := 293) (by decide) ?_
                  refine i_iconst w263 at_293 (z := (0 : Int32)) (by decide) (pc' := 294) rfl ?_
                  refine i_istore w263 at_294 (l' := #[.val (.int y0), .val (.int y1), .val (.int y2), .val (.int y3), .val (.int y4), .val (.int (4 : Int32)), .val (.int (Int32.ofNat ka)), .val (.int (Int32.ofNat kb)), .val (.int (Int32.ofNat kc)), .val (.int (Int32.ofNat kd)), .val (.ref a), .val (.int (-1 : Int32)), .val (.int (0 : Int32)), .val (.int (3 : Int32)), .val (.int (0 : Int32)), .unset, .unset, .unset]) rfl (pc' := 296) rfl ?_
                  refine i_iload w263 at_296 rfl (pc' := 298) rfl ?_
                  refine i_istore w263 at_298 (l' := #[.val (.int y0), .val (.int y1), .val (.int y2), .val (.int y3), .val (.int y4), .val (.int (4 : Int32)), .val (.int (Int32.ofNat ka)), .val (.int (Int32.ofNat kb)), .val (.int (Int32.ofNat kc)), .val (.int (Int32.ofNat kd)), .val (.ref a), .val (.int (-1 : Int32)), .val (.int (0 : Int32)), .val (.int (3 : Int32)), .val (.int (0 : Int32)), .val (.int (4 : Int32)), .unset, .unset]) rfl (pc' := 300) rfl ?_
                  exact own_t4_0_4 l Z a0 hw ka kb kc kd hka hkb hkc hkd y0 y1 y2 y3 y4 a t ct (-1 : Int32) (0 : Int32) (3 : Int32) 0 G1 hG SG G3 hG3 SF h0 n0 (w263.mono (by decide) (by decide)) hS (Nat.le_trans (Nat.le_trans (Nat.le_trans (Nat.le_trans (Nat.le_trans (Nat.le_trans (Nat.le_trans (Nat.le_trans hkS K250.1) K254.1) K257.1) K259.1) K260.1) K261.1) K262.1) K263.1) S (by decide) (by simp [ixv, ixN, qo0, qo1, qo2, qo3, qc0, qc1, qc2, qc3]) (by decide) (by simp [ixv, ixN, qo0, qo1, qo2, qo3, qc0, qc1, qc2, qc3]) (Or.inl (by decide))
                ·
                  rw [show (if 3 < 4 ∧ own_atN 3 ka kb kc kd = 125 then 1 else 0) = (0 : Int32) from (by simp [own_atN, qc3])]
                  show Goes p e below _ T263 (mkF m 256 #[.val (.int y0), .val (.int y1), .val (.int y2), .val (.int y3), .val (.int y4), .val (.int (4 : Int32)), .val (.int (Int32.ofNat ka)), .val (.int (Int32.ofNat kb)), .val (.int (Int32.ofNat kc)), .val (.int (Int32.ofNat kd)), .val (.ref a), .val (.int (-1 : Int32)), .val (.int (0 : Int32)), .unset, .unset, .unset, .unset, .unset] [(.int (0 : Int32))])
                  refine i_if_eq_Y w263 rfl at_256 (pc' := 263) (by decide) ?_
                  refine i_iconst w263 at_263 (z := (-1 : Int32)) (by decide) (pc' := 264) rfl ?_
                  refine i_istore w263 at_264 (l' := #[.val (.int y0), .val (.int y1), .val (.int y2), .val (.int y3), .val (.int y4), .val (.int (4 : Int32)), .val (.int (Int32.ofNat ka)), .val (.int (Int32.ofNat kb)), .val (.int (Int32.ofNat kc)), .val (.int (Int32.ofNat kd)), .val (.ref a), .val (.int (-1 : Int32)), .val (.int (0 : Int32)), .val (.int (-1 : Int32)), .unset, .unset, .unset, .unset]) rfl (pc' := 266) rfl ?_
                  refine i_iload w263 at_266 rfl (pc' := 268) rfl ?_
                  refine i_if_lt_Y w263 (by decide) at_268 (pc' := 293) (by decide) ?_
                  refine i_iconst w263 at_293 (z := (0 : Int32)) (by decide) (pc' := 294) rfl ?_
                  refine i_istore w263 at_294 (l' := #[.val (.int y0), .val (.int y1), .val (.int y2), .val (.int y3), .val (.int y4), .val (.int (4 : Int32)), .val (.int (Int32.ofNat ka)), .val (.int (Int32.ofNat kb)), .val (.int (Int32.ofNat kc)), .val (.int (Int32.ofNat kd)), .val (.ref a), .val (.int (-1 : Int32)), .val (.int (0 : Int32)), .val (.int (-1 : Int32)), .val (.int (0 : Int32)), .unset, .unset, .unset]) rfl (pc' := 296) rfl ?_
                  refine i_iload w263 at_296 rfl (pc' := 298) rfl ?_
                  refine i_istore w263 at_298 (l' := #[.val (.int y0), .val (.int y1), .val (.int y2), .val (.int y3), .val (.int y4), .val (.int (4 : Int32)), .val (.int (Int32.ofNat ka)), .val (.int (Int32.ofNat kb)), .val (.int (Int32.ofNat kc)), .val (.int (Int32.ofNat kd)), .val (.ref a), .val (.int (-1 : Int32)), .val (.int (0 : Int32)), .val (.int (-1 : Int32)), .val (.int (0 : Int32)), .val (.int (4 : Int32)), .unset, .unset]) rfl (pc' := 300) rfl ?_
                  exact own_t4_0_4 l Z a0 hw ka kb kc kd hka hkb hkc hkd y0 y1 y2 y3 y4 a t ct (-1 : Int32) (0 : Int32) (-1 : Int32) 0 G1 hG SG G3 hG3 SF h0 n0 (w263.mono (by decide) (by decide)) hS (Nat.le_trans (Nat.le_trans (Nat.le_trans (Nat.le_trans (Nat.le_trans (Nat.le_trans (Nat.le_trans (Nat.le_trans hkS K250.1) K254.1) K257.1) K259.1) K260.1) K261.1) K262.1) K263.1) S (by decide) (by simp [ixv, ixN, qo0, qo1, qo2, qo3, qc0, qc1, qc2, qc3]) (by decide) (by simp [ixv, ixN, qo0, qo1, qo2, qo3, qc0, qc1, qc2, qc3]) (Or.inl (by decide))

theorem own_ef_at (m : MethodId) (x0 : Int32) (x1 : Int32) (x2 : Int32) (x3 : Int32) (x4 : Int32) : entryFrame m #[(.int x0), (.int x1), (.int x2), (.int x3), (.int x4)] maxLocals = mkF m 0 #[.val (.int x0), .val (.int x1), .val (.int x2), .val (.int x3), .val (.int x4), .unset, .unset, .unset, .unset, .unset, .unset, .unset, .unset, .unset, .unset, .unset, .unset, .unset] [] := by
  first | (simp [entryFrame, mkF, argsToLocals, Value.category, maxLocals]; done) | rfl
set_option maxRecDepth 65536 in
set_option maxHeartbeats 40000000 in
theorem own_law (l : Launch) (Z : State) (a0 : Array Value) (hw : ∀ d ∈ tables_1, d.before a0 Z = true) (y0 y1 y2 y3 y4 : Int32) (G1 : Int32) (hG : ¬ G1 = 0) (SG : Sta Z Z.heap "java/lang/String" "COMPACT_STRINGS" "Z" (.int G1)) (G3 : Value) (hG3 : G3.isRef = true) (SF : Sta Z Z.heap "jdk/internal/util/Preconditions" "SIOOBE_FORMATTER" "Ljava/util/function/BiFunction;" G3) (h0 : Heap) (n0 : Nat) (O : Old Z n0 h0)  :
    CtrW l Z n0 x code maxLocals ret tables_1 room_1 #[(.int y0), (.int y1), (.int y2), (.int y3), (.int y4)] h0 [] (fun v h => v = some (.int 1)) := by
  refine enterW (plainFor_of_name own_pn_com_example_cluster_lock_clusterlock_redis_LockKeysHashTagPinLaw) (fun m => own_ef_at m y0 y1 y2 y3 y4) O (fun _ q => nomatch q) ?_
  intro p e s m below meth c T w hS
  refine i_iconst w at_0 (z := (1 : Int32)) (by decide) (pc' := 1) rfl ?_
  refine i_iloadN w at_1 rfl (pc' := 2) rfl ?_
  refine i_iconst w at_2 (z := (3 : Int32)) (by decide) (pc' := 3) rfl ?_
  refine i_iand w at_3 (pc' := 4) rfl ?_
  refine i_iadd w at_4 (pc' := 5) rfl ?_
  rcases own_four y0 with e5 | e5 | e5 | e5
  ·
    rw [e5]
    show Goes p e below _ T (mkF m 5 #[.val (.int y0), .val (.int y1), .val (.int y2), .val (.int y3), .val (.int y4), .unset, .unset, .unset, .unset, .unset, .unset, .unset, .unset, .unset, .unset, .unset, .unset, .unset] [(.int (1 : Int32))])
    refine i_istore w at_5 (l' := #[.val (.int y0), .val (.int y1), .val (.int y2), .val (.int y3), .val (.int y4), .val (.int (1 : Int32)), .unset, .unset, .unset, .unset, .unset, .unset, .unset, .unset, .unset, .unset, .unset, .unset]) rfl (pc' := 7) rfl ?_
    refine i_iloadN w at_7 rfl (pc' := 8) rfl ?_
    refine c_static w (y := (⟨"com/example/cluster_lock/clusterlock/redis/LockKeysHashTagPinLaw", "ch", "(I)C"⟩ : MethodName)) (argsL := [(.int y1)]) (st := []) at_8 (hw _ (List.mem_of_getElem? (i := 0) rfl)) (hw _ (List.mem_of_getElem? (i := 1) rfl)) (hw _ (List.mem_of_getElem? (i := 2) rfl)) (hw _ (List.mem_of_getElem? (i := 3) rfl)) (by decide) own_pd_pIqC rfl (own_chr l Z a0 hw y1 h0 n0 w.old ) rfl (by decide) (W := 0) (Nat.le_of_eq rfl) (by decide) (by decide) (by decide) (fun _ q => nomatch q) (pc' := 11) rfl ?_
    intro v264 T264 h264 w264 K264 q264
    obtain ⟨ka, hka, rfl, rfl⟩ := q264
    show Goes p e below _ T264 (mkF m 11 #[.val (.int y0), .val (.int y1), .val (.int y2), .val (.int y3), .val (.int y4), .val (.int (1 : Int32)), .unset, .unset, .unset, .unset, .unset, .unset, .unset, .unset, .unset, .unset, .unset, .unset] [(.int (Int32.ofNat ka))])
    show Goes p e below _ T264 (mkF m 11 #[.val (.int y0), .val (.int y1), .val (.int y2), .val (.int y3), .val (.int y4), .val (.int (1 : Int32)), .unset, .unset, .unset, .unset, .unset, .unset, .unset, .unset, .unset, .unset, .unset, .unset] [(.int (Int32.ofNat ka))])
    refine i_istore w264 at_11 (l' := #[.val (.int y0), .val (.int y1), .val (.int y2), .val (.int y3), .val (.int y4), .val (.int (1 : Int32)), .val (.int (Int32.ofNat ka)), .unset, .unset, .unset, .unset, .unset, .unset, .unset, .unset, .unset, .unset, .unset]) rfl (pc' := 13) rfl ?_
    refine i_iloadN w264 at_13 rfl (pc' := 14) rfl ?_
    refine c_static w264 (y := (⟨"com/example/cluster_lock/clusterlock/redis/LockKeysHashTagPinLaw", "ch", "(I)C"⟩ : MethodName)) (argsL := [(.int y2)]) (st := []) at_14 (hw _ (List.mem_of_getElem? (i := 0) rfl)) (hw _ (List.mem_of_getElem? (i := 1) rfl)) (hw _ (List.mem_of_getElem? (i := 2) rfl)) (hw _ (List.mem_of_getElem? (i := 3) rfl)) (by decide) own_pd_pIqC rfl (own_chr l Z a0 hw y2 h0 n0 w264.old ) rfl (by decide) (W := 0) (Nat.le_of_eq rfl) (by decide) (by decide) (by decide) (fun _ q => nomatch q) (pc' := 17) rfl ?_
    intro v266 T266 h266 w266 K266 q266
    obtain ⟨kb, hkb, rfl, rfl⟩ := q266
    show Goes p e below _ T266 (mkF m 17 #[.val (.int y0), .val (.int y1), .val (.int y2), .val (.int y3), .val (.int y4), .val (.int (1 : Int32)), .val (.int (Int32.ofNat ka)), .unset, .unset, .unset, .unset, .unset, .unset, .unset, .unset, .unset, .unset, .unset] [(.int (Int32.ofNat kb))])
    show Goes p e below _ T266 (mkF m 17 #[.val (.int y0), .val (.int y1), .val (.int y2), .val (.int y3), .val (.int y4), .val (.int (1 : Int32)), .val (.int (Int32.ofNat ka)), .unset, .unset, .unset, .unset, .unset, .unset, .unset, .unset, .unset, .unset, .unset] [(.int (Int32.ofNat kb))])
    refine i_istore w266 at_17 (l' := #[.val (.int y0), .val (.int y1), .val (.int y2), .val (.int y3), .val (.int y4), .val (.int (1 : Int32)), .val (.int (Int32.ofNat ka)), .val (.int (Int32.ofNat kb)), .unset, .unset, .unset, .unset, .unset, .unset, .unset, .unset, .unset, .unset]) rfl (pc' := 19) rfl ?_
    refine i_iloadN w266 at_19 rfl (pc' := 20) rfl ?_
    refine c_static w266 (y := (⟨"com/example/cluster_lock/clusterlock/redis/LockKeysHashTagPinLaw", "ch", "(I)C"⟩ : MethodName)) (argsL := [(.int y3)]) (st := []) at_20 (hw _ (List.mem_of_getElem? (i := 0) rfl)) (hw _ (List.mem_of_getElem? (i := 1) rfl)) (hw _ (List.mem_of_getElem? (i := 2) rfl)) (hw _ (List.mem_of_getElem? (i := 3) rfl)) (by decide) own_pd_pIqC rfl (own_chr l Z a0 hw y3 h0 n0 w266.old ) rfl (by decide) (W := 0) (Nat.le_of_eq rfl) (by decide) (by decide) (by decide) (fun _ q => nomatch q) (pc' := 23) rfl ?_
    intro v268 T268 h268 w268 K268 q268
    obtain ⟨kc, hkc, rfl, rfl⟩ := q268
    show Goes p e below _ T268 (mkF m 23 #[.val (.int y0), .val (.int y1), .val (.int y2), .val (.int y3), .val (.int y4), .val (.int (1 : Int32)), .val (.int (Int32.ofNat ka)), .val (.int (Int32.ofNat kb)), .unset, .unset, .unset, .unset, .unset, .unset, .unset, .unset, .unset, .unset] [(.int (Int32.ofNat kc))])
    show Goes p e below _ T268 (mkF m 23 #[.val (.int y0), .val (.int y1), .val (.int y2), .val (.int y3), .val (.int y4), .val (.int (1 : Int32)), .val (.int (Int32.ofNat ka)), .val (.int (Int32.ofNat kb)), .unset, .unset, .unset, .unset, .unset, .unset, .unset, .unset, .unset, .unset] [(.int (Int32.ofNat kc))])
    refine i_istore w268 at_23 (l' := #[.val (.int y0), .val (.int y1), .val (.int y2), .val (.int y3), .val (.int y4), .val (.int (1 : Int32)), .val (.int (Int32.ofNat ka)), .val (.int (Int32.ofNat kb)), .val (.int (Int32.ofNat kc)), .unset, .unset, .unset, .unset, .unset, .unset, .unset, .unset, .unset]) rfl (pc' := 25) rfl ?_
    refine i_iload w268 at_25 rfl (pc' := 27) rfl ?_
    refine c_static w268 (y := (⟨"com/example/cluster_lock/clusterlock/redis/LockKeysHashTagPinLaw", "ch", "(I)C"⟩ : MethodName)) (argsL := [(.int y4)]) (st := []) at_27 (hw _ (List.mem_of_getElem? (i := 0) rfl)) (hw _ (List.mem_of_getElem? (i := 1) rfl)) (hw _ (List.mem_of_getElem? (i := 2) rfl)) (hw _ (List.mem_of_getElem? (i := 3) rfl)) (by decide) own_pd_pIqC rfl (own_chr l Z a0 hw y4 h0 n0 w268.old ) rfl (by decide) (W := 0) (Nat.le_of_eq rfl) (by decide) (by decide) (by decide) (fun _ q => nomatch q) (pc' := 30) rfl ?_
    intro v270 T270 h270 w270 K270 q270
    obtain ⟨kd, hkd, rfl, rfl⟩ := q270
    show Goes p e below _ T270 (mkF m 30 #[.val (.int y0), .val (.int y1), .val (.int y2), .val (.int y3), .val (.int y4), .val (.int (1 : Int32)), .val (.int (Int32.ofNat ka)), .val (.int (Int32.ofNat kb)), .val (.int (Int32.ofNat kc)), .unset, .unset, .unset, .unset, .unset, .unset, .unset, .unset, .unset] [(.int (Int32.ofNat kd))])
    show Goes p e below _ T270 (mkF m 30 #[.val (.int y0), .val (.int y1), .val (.int y2), .val (.int y3), .val (.int y4), .val (.int (1 : Int32)), .val (.int (Int32.ofNat ka)), .val (.int (Int32.ofNat kb)), .val (.int (Int32.ofNat kc)), .unset, .unset, .unset, .unset, .unset, .unset, .unset, .unset, .unset] [(.int (Int32.ofNat kd))])
    refine i_istore w270 at_30 (l' := #[.val (.int y0), .val (.int y1), .val (.int y2), .val (.int y3), .val (.int y4), .val (.int (1 : Int32)), .val (.int (Int32.ofNat ka)), .val (.int (Int32.ofNat kb)), .val (.int (Int32.ofNat kc)), .val (.int (Int32.ofNat kd)), .unset, .unset, .unset, .unset, .unset, .unset, .unset, .unset]) rfl (pc' := 32) rfl ?_
    refine i_iload w270 at_32 rfl (pc' := 34) rfl ?_
    refine i_iload w270 at_34 rfl (pc' := 36) rfl ?_
    refine i_iload w270 at_36 rfl (pc' := 38) rfl ?_
    refine i_iload w270 at_38 rfl (pc' := 40) rfl ?_
    refine i_iload w270 at_40 rfl (pc' := 42) rfl ?_
    refine c_static w270 (y := (⟨"com/example/cluster_lock/clusterlock/redis/LockKeysHashTagPinLaw", "make", "(ICCCC)Ljava/lang/String;"⟩ : MethodName)) (argsL := [(.int (1 : Int32)), (.int (Int32.ofNat ka)), (.int (Int32.ofNat kb)), (.int (Int32.ofNat kc)), (.int (Int32.ofNat kd))]) (st := []) at_42 (hw _ (List.mem_of_getElem? (i := 4) rfl)) (hw _ (List.mem_of_getElem? (i := 5) rfl)) (hw _ (List.mem_of_getElem? (i := 2) rfl)) (hw _ (List.mem_of_getElem? (i := 6) rfl)) (by decide) own_pd_pICCCCqLjava_lang_Stringe rfl (own_make1 l Z a0 hw ka kb kc kd G1 hG SG h0 n0 w270.old hka hkb hkc hkd) rfl (by decide) (W := 0) (Nat.le_of_eq rfl) (by decide) (by decide) (by decide) (fun _ q => nomatch q) (pc' := 45) rfl ?_
    intro v272 T272 h272 w272 K272 q272
    obtain ⟨a, t, ct, rfl, za, lat1, St⟩ := q272
    show Goes p e below _ T272 (mkF m 45 #[.val (.int y0), .val (.int y1), .val (.int y2), .val (.int y3), .val (.int y4), .val (.int (1 : Int32)), .val (.int (Int32.ofNat ka)), .val (.int (Int32.ofNat kb)), .val (.int (Int32.ofNat kc)), .val (.int (Int32.ofNat kd)), .unset, .unset, .unset, .unset, .unset, .unset, .unset, .unset] [(.ref a)])
    refine i_astore w272 at_45 rfl (l' := #[.val (.int y0), .val (.int y1), .val (.int y2), .val (.int y3), .val (.int y4), .val (.int (1 : Int32)), .val (.int (Int32.ofNat ka)), .val (.int (Int32.ofNat kb)), .val (.int (Int32.ofNat kc)), .val (.int (Int32.ofNat kd)), .val (.ref a), .unset, .unset, .unset, .unset, .unset, .unset, .unset]) rfl (pc' := 47) rfl ?_
    exact own_s1 l Z a0 hw ka kb kc kd hka hkb hkc hkd y0 y1 y2 y3 y4 a t ct G1 hG SG G3 hG3 SF h0 n0 (w272.mono (by decide) (by decide)) hS (Nat.le_trans (Nat.le_trans (Nat.le_trans (Nat.le_trans (Nat.le_trans (Nat.le_refl _) K264.1) K266.1) K268.1) K270.1) K272.1) St
  ·
    rw [e5]
    show Goes p e below _ T (mkF m 5 #[.val (.int y0), .val (.int y1), .val (.int y2), .val (.int y3), .val (.int y4), .unset, .unset, .unset, .unset, .unset, .unset, .unset, .unset, .unset, .unset, .unset, .unset, .unset] [(.int (2 : Int32))])
    refine i_istore w at_5 (l' := #[.val (.int y0), .val (.int y1), .val (.int y2), .val (.int y3), .val (.int y4), .val (.int (2 : Int32)), .unset, .unset, .unset, .unset, .unset, .unset, .unset, .unset, .unset, .unset, .unset, .unset]) rfl (pc' := 7) rfl ?_
    refine i_iloadN w at_7 rfl (pc' := 8) rfl ?_
    refine c_static w (y := (⟨"com/example/cluster_lock/clusterlock/redis/LockKeysHashTagPinLaw", "ch", "(I)C"⟩ : MethodName)) (argsL := [(.int y1)]) (st := []) at_8 (hw _ (List.mem_of_getElem? (i := 0) rfl)) (hw _ (List.mem_of_getElem? (i := 1) rfl)) (hw _ (List.mem_of_getElem? (i := 2) rfl)) (hw _ (List.mem_of_getElem? (i := 3) rfl)) (by decide) own_pd_pIqC rfl (own_chr l Z a0 hw y1 h0 n0 w.old ) rfl (by decide) (W := 0) (Nat.le_of_eq rfl) (by decide) (by decide) (by decide) (fun _ q => nomatch q) (pc' := 11) rfl ?_
    intro v274 T274 h274 w274 K274 q274
    obtain ⟨ka, hka, rfl, rfl⟩ := q274
    show Goes p e below _ T274 (mkF m 11 #[.val (.int y0), .val (.int y1), .val (.int y2), .val (.int y3), .val (.int y4), .val (.int (2 : Int32)), .unset, .unset, .unset, .unset, .unset, .unset, .unset, .unset, .unset, .unset, .unset, .unset] [(.int (Int32.ofNat ka))])
    show Goes p e below _ T274 (mkF m 11 #[.val (.int y0), .val (.int y1), .val (.int y2), .val (.int y3), .val (.int y4), .val (.int (2 : Int32)), .unset, .unset, .unset, .unset, .unset, .unset, .unset, .unset, .unset, .unset, .unset, .unset] [(.int (Int32.ofNat ka))])
    refine i_istore w274 at_11 (l' := #[.val (.int y0), .val (.int y1), .val (.int y2), .val (.int y3), .val (.int y4), .val (.int (2 : Int32)), .val (.int (Int32.ofNat ka)), .unset, .unset, .unset, .unset, .unset, .unset, .unset, .unset, .unset, .unset, .unset]) rfl (pc' := 13) rfl ?_
    refine i_iloadN w274 at_13 rfl (pc' := 14) rfl ?_
    refine c_static w274 (y := (⟨"com/example/cluster_lock/clusterlock/redis/LockKeysHashTagPinLaw", "ch", "(I)C"⟩ : MethodName)) (argsL := [(.int y2)]) (st := []) at_14 (hw _ (List.mem_of_getElem? (i := 0) rfl)) (hw _ (List.mem_of_getElem? (i := 1) rfl)) (hw _ (List.mem_of_getElem? (i := 2) rfl)) (hw _ (List.mem_of_getElem? (i := 3) rfl)) (by decide) own_pd_pIqC rfl (own_chr l Z a0 hw y2 h0 n0 w274.old ) rfl (by decide) (W := 0) (Nat.le_of_eq rfl) (by decide) (by decide) (by decide) (fun _ q => nomatch q) (pc' := 17) rfl ?_
    intro v276 T276 h276 w276 K276 q276
    obtain ⟨kb, hkb, rfl, rfl⟩ := q276
    show Goes p e below _ T276 (mkF m 17 #[.val (.int y0), .val (.int y1), .val (.int y2), .val (.int y3), .val (.int y4), .val (.int (2 : Int32)), .val (.int (Int32.ofNat ka)), .unset, .unset, .unset, .unset, .unset, .unset, .unset, .unset, .unset, .unset, .unset] [(.int (Int32.ofNat kb))])
    show Goes p e below _ T276 (mkF m 17 #[.val (.int y0), .val (.int y1), .val (.int y2), .val (.int y3), .val (.int y4), .val (.int (2 : Int32)), .val (.int (Int32.ofNat ka)), .unset, .unset, .unset, .unset, .unset, .unset, .unset, .unset, .unset, .unset, .unset] [(.int (Int32.ofNat kb))])
    refine i_istore w276 at_17 (l' := #[.val (.int y0), .val (.int y1), .val (.int y2), .val (.int y3), .val (.int y4), .val (.int (2 : Int32)), .val (.int (Int32.ofNat ka)), .val (.int (Int32.ofNat kb)), .unset, .unset, .unset, .unset, .unset, .unset, .unset, .unset, .unset, .unset]) rfl (pc' := 19) rfl ?_
    refine i_iloadN w276 at_19 rfl (pc' := 20) rfl ?_
    refine c_static w276 (y := (⟨"com/example/cluster_lock/clusterlock/redis/LockKeysHashTagPinLaw", "ch", "(I)C"⟩ : MethodName)) (argsL := [(.int y3)]) (st := []) at_20 (hw _ (List.mem_of_getElem? (i := 0) rfl)) (hw _ (List.mem_of_getElem? (i := 1) rfl)) (hw _ (List.mem_of_getElem? (i := 2) rfl)) (hw _ (List.mem_of_getElem? (i := 3) rfl)) (by decide) own_pd_pIqC rfl (own_chr l Z a0 hw y3 h0 n0 w276.old ) rfl (by decide) (W := 0) (Nat.le_of_eq rfl) (by decide) (by decide) (by decide) (fun _ q => nomatch q) (pc' := 23) rfl ?_
    intro v278 T278 h278 w278 K278 q278
    obtain ⟨kc, hkc, rfl, rfl⟩ := q278
    show Goes p e below _ T278 (mkF m 23 #[.val (.int y0), .val (.int y1), .val (.int y2), .val (.int y3), .val (.int y4), .val (.int (2 : Int32)), .val (.int (Int32.ofNat ka)), .val (.int (Int32.ofNat kb)), .unset, .unset, .unset, .unset, .unset, .unset, .unset, .unset, .unset, .unset] [(.int (Int32.ofNat kc))])
    show Goes p e below _ T278 (mkF m 23 #[.val (.int y0), .val (.int y1), .val (.int y2), .val (.int y3), .val (.int y4), .val (.int (2 : Int32)), .val (.int (Int32.ofNat ka)), .val (.int (Int32.ofNat kb)), .unset, .unset, .unset, .unset, .unset, .unset, .unset, .unset, .unset, .unset] [(.int (Int32.ofNat kc))])
    refine i_istore w278 at_23 (l' := #[.val (.int y0), .val (.int y1), .val (.int y2), .val (.int y3), .val (.int y4), .val (.int (2 : Int32)), .val (.int (Int32.ofNat ka)), .val (.int (Int32.ofNat kb)), .val (.int (Int32.ofNat kc)), .unset, .unset, .unset, .unset, .unset, .unset, .unset, .unset, .unset]) rfl (pc' := 25) rfl ?_
    refine i_iload w278 at_25 rfl (pc' := 27) rfl ?_
    refine c_static w278 (y := (⟨"com/example/cluster_lock/clusterlock/redis/LockKeysHashTagPinLaw", "ch", "(I)C"⟩ : MethodName)) (argsL := [(.int y4)]) (st := []) at_27 (hw _ (List.mem_of_getElem? (i := 0) rfl)) (hw _ (List.mem_of_getElem? (i := 1) rfl)) (hw _ (List.mem_of_getElem? (i := 2) rfl)) (hw _ (List.mem_of_getElem? (i := 3) rfl)) (by decide) own_pd_pIqC rfl (own_chr l Z a0 hw y4 h0 n0 w278.old ) rfl (by decide) (W := 0) (Nat.le_of_eq rfl) (by decide) (by decide) (by decide) (fun _ q => nomatch q) (pc' := 30) rfl ?_
    intro v280 T280 h280 w280 K280 q280
    obtain ⟨kd, hkd, rfl, rfl⟩ := q280
    show Goes p e below _ T280 (mkF m 30 #[.val (.int y0), .val (.int y1), .val (.int y2), .val (.int y3), .val (.int y4), .val (.int (2 : Int32)), .val (.int (Int32.ofNat ka)), .val (.int (Int32.ofNat kb)), .val (.int (Int32.ofNat kc)), .unset, .unset, .unset, .unset, .unset, .unset, .unset, .unset, .unset] [(.int (Int32.ofNat kd))])
    show Goes p e below _ T280 (mkF m 30 #[.val (.int y0), .val (.int y1), .val (.int y2), .val (.int y3), .val (.int y4), .val (.int (2 : Int32)), .val (.int (Int32.ofNat ka)), .val (.int (Int32.ofNat kb)), .val (.int (Int32.ofNat kc)), .unset, .unset, .unset, .unset, .unset, .unset, .unset, .unset, .unset] [(.int (Int32.ofNat kd))])
    refine i_istore w280 at_30 (l' := #[.val (.int y0), .val (.int y1), .val (.int y2), .val (.int y3), .val (.int y4), .val (.int (2 : Int32)), .val (.int (Int32.ofNat ka)), .val (.int (Int32.ofNat kb)), .val (.int (Int32.ofNat kc)), .val (.int (Int32.ofNat kd)), .unset, .unset, .unset, .unset, .unset, .unset, .unset, .unset]) rfl (pc' := 32) rfl ?_
    refine i_iload w280 at_32 rfl (pc' := 34) rfl ?_
    refine i_iload w280 at_34 rfl (pc' := 36) rfl ?_
    refine i_iload w280 at_36 rfl (pc' := 38) rfl ?_
    refine i_iload w280 at_38 rfl (pc' := 40) rfl ?_
    refine i_iload w280 at_40 rfl (pc' := 42) rfl ?_
    refine c_static w280 (y := (⟨"com/example/cluster_lock/clusterlock/redis/LockKeysHashTagPinLaw", "make", "(ICCCC)Ljava/lang/String;"⟩ : MethodName)) (argsL := [(.int (2 : Int32)), (.int (Int32.ofNat ka)), (.int (Int32.ofNat kb)), (.int (Int32.ofNat kc)), (.int (Int32.ofNat kd))]) (st := []) at_42 (hw _ (List.mem_of_getElem? (i := 4) rfl)) (hw _ (List.mem_of_getElem? (i := 5) rfl)) (hw _ (List.mem_of_getElem? (i := 2) rfl)) (hw _ (List.mem_of_getElem? (i := 6) rfl)) (by decide) own_pd_pICCCCqLjava_lang_Stringe rfl (own_make2 l Z a0 hw ka kb kc kd G1 hG SG h0 n0 w280.old hka hkb hkc hkd) rfl (by decide) (W := 0) (Nat.le_of_eq rfl) (by decide) (by decide) (by decide) (fun _ q => nomatch q) (pc' := 45) rfl ?_
    intro v282 T282 h282 w282 K282 q282
    obtain ⟨a, t, ct, rfl, za, lat1, St⟩ := q282
    show Goes p e below _ T282 (mkF m 45 #[.val (.int y0), .val (.int y1), .val (.int y2), .val (.int y3), .val (.int y4), .val (.int (2 : Int32)), .val (.int (Int32.ofNat ka)), .val (.int (Int32.ofNat kb)), .val (.int (Int32.ofNat kc)), .val (.int (Int32.ofNat kd)), .unset, .unset, .unset, .unset, .unset, .unset, .unset, .unset] [(.ref a)])
    refine i_astore w282 at_45 rfl (l' := #[.val (.int y0), .val (.int y1), .val (.int y2), .val (.int y3), .val (.int y4), .val (.int (2 : Int32)), .val (.int (Int32.ofNat ka)), .val (.int (Int32.ofNat kb)), .val (.int (Int32.ofNat kc)), .val (.int (Int32.ofNat kd)), .val (.ref a), .unset, .unset, .unset, .unset, .unset, .unset, .unset]) rfl (pc' := 47) rfl ?_
    exact own_s2 l Z a0 hw ka kb kc kd hka hkb hkc hkd y0 y1 y2 y3 y4 a t ct G1 hG SG G3 hG3 SF h0 n0 (w282.mono (by decide) (by decide)) hS (Nat.le_trans (Nat.le_trans (Nat.le_trans (Nat.le_trans (Nat.le_trans (Nat.le_refl _) K274.1) K276.1) K278.1) K280.1) K282.1) St
  ·
    rw [e5]
    show Goes p e below _ T (mkF m 5 #[.val (.int y0), .val (.int y1), .val (.int y2), .val (.int y3), .val (.int y4), .unset, .unset, .unset, .unset, .unset, .unset, .unset, .unset, .unset, .unset, .unset, .unset, .unset] [(.int (3 : Int32))])
    refine i_istore w at_5 (l' := #[.val (.int y0), .val (.int y1), .val (.int y2), .val (.int y3), .val (.int y4), .val (.int (3 : Int32)), .unset, .unset, .unset, .unset, .unset, .unset, .unset, .unset, .unset, .unset, .unset, .unset]) rfl (pc' := 7) rfl ?_
    refine i_iloadN w at_7 rfl (pc' := 8) rfl ?_
    refine c_static w (y := (⟨"com/example/cluster_lock/clusterlock/redis/LockKeysHashTagPinLaw", "ch", "(I)C"⟩ : MethodName)) (argsL := [(.int y1)]) (st := []) at_8 (hw _ (List.mem_of_getElem? (i := 0) rfl)) (hw _ (List.mem_of_getElem? (i := 1) rfl)) (hw _ (List.mem_of_getElem? (i := 2) rfl)) (hw _ (List.mem_of_getElem? (i := 3) rfl)) (by decide) own_pd_pIqC rfl (own_chr l Z a0 hw y1 h0 n0 w.old ) rfl (by decide) (W := 0) (Nat.le_of_eq rfl) (by decide) (by decide) (by decide) (fun _ q => nomatch q) (pc' := 11) rfl ?_
    intro v284 T284 h284 w284 K284 q284
    obtain ⟨ka, hka, rfl, rfl⟩ := q284
    show Goes p e below _ T284 (mkF m 11 #[.val (.int y0), .val (.int y1), .val (.int y2), .val (.int y3), .val (.int y4), .val (.int (3 : Int32)), .unset, .unset, .unset, .unset, .unset, .unset, .unset, .unset, .unset, .unset, .unset, .unset] [(.int (Int32.ofNat ka))])
    show Goes p e below _ T284 (mkF m 11 #[.val (.int y0), .val (.int y1), .val (.int y2), .val (.int y3), .val (.int y4), .val (.int (3 : Int32)), .unset, .unset, .unset, .unset, .unset, .unset, .unset, .unset, .unset, .unset, .unset, .unset] [(.int (Int32.ofNat ka))])
    refine i_istore w284 at_11 (l' := #[.val (.int y0), .val (.int y1), .val (.int y2), .val (.int y3), .val (.int y4), .val (.int (3 : Int32)), .val (.int (Int32.ofNat ka)), .unset, .unset, .unset, .unset, .unset, .unset, .unset, .unset, .unset, .unset, .unset]) rfl (pc' := 13) rfl ?_
    refine i_iloadN w284 at_13 rfl (pc' := 14) rfl ?_
    refine c_static w284 (y := (⟨"com/example/cluster_lock/clusterlock/redis/LockKeysHashTagPinLaw", "ch", "(I)C"⟩ : MethodName)) (argsL := [(.int y2)]) (st := []) at_14 (hw _ (List.mem_of_getElem? (i := 0) rfl)) (hw _ (List.mem_of_getElem? (i := 1) rfl)) (hw _ (List.mem_of_getElem? (i := 2) rfl)) (hw _ (List.mem_of_getElem? (i := 3) rfl)) (by decide) own_pd_pIqC rfl (own_chr l Z a0 hw y2 h0 n0 w284.old ) rfl (by decide) (W := 0) (Nat.le_of_eq rfl) (by decide) (by decide) (by decide) (fun _ q => nomatch q) (pc' := 17) rfl ?_
    intro v286 T286 h286 w286 K286 q286
    obtain ⟨kb, hkb, rfl, rfl⟩ := q286
    show Goes p e below _ T286 (mkF m 17 #[.val (.int y0), .val (.int y1), .val (.int y2), .val (.int y3), .val (.int y4), .val (.int (3 : Int32)), .val (.int (Int32.ofNat ka)), .unset, .unset, .unset, .unset, .unset, .unset, .unset, .unset, .unset, .unset, .unset] [(.int (Int32.ofNat kb))])
    show Goes p e below _ T286 (mkF m 17 #[.val (.int y0), .val (.int y1), .val (.int y2), .val (.int y3), .val (.int y4), .val (.int (3 : Int32)), .val (.int (Int32.ofNat ka)), .unset, .unset, .unset, .unset, .unset, .unset, .unset, .unset, .unset, .unset, .unset] [(.int (Int32.ofNat kb))])
    refine i_istore w286 at_17 (l' := #[.val (.int y0), .val (.int y1), .val (.int y2), .val (.int y3), .val (.int y4), .val (.int (3 : Int32)), .val (.int (Int32.ofNat ka)), .val (.int (Int32.ofNat kb)), .unset, .unset, .unset, .unset, .unset, .unset, .unset, .unset, .unset, .unset]) rfl (pc' := 19) rfl ?_
    refine i_iloadN w286 at_19 rfl (pc' := 20) rfl ?_
    refine c_static w286 (y := (⟨"com/example/cluster_lock/clusterlock/redis/LockKeysHashTagPinLaw", "ch", "(I)C"⟩ : MethodName)) (argsL := [(.int y3)]) (st := []) at_20 (hw _ (List.mem_of_getElem? (i := 0) rfl)) (hw _ (List.mem_of_getElem? (i := 1) rfl)) (hw _ (List.mem_of_getElem? (i := 2) rfl)) (hw _ (List.mem_of_getElem? (i := 3) rfl)) (by decide) own_pd_pIqC rfl (own_chr l Z a0 hw y3 h0 n0 w286.old ) rfl (by decide) (W := 0) (Nat.le_of_eq rfl) (by decide) (by decide) (by decide) (fun _ q => nomatch q) (pc' := 23) rfl ?_
    intro v288 T288 h288 w288 K288 q288
    obtain ⟨kc, hkc, rfl, rfl⟩ := q288
    show Goes p e below _ T288 (mkF m 23 #[.val (.int y0), .val (.int y1), .val (.int y2), .val (.int y3), .val (.int y4), .val (.int (3 : Int32)), .val (.int (Int32.ofNat ka)), .val (.int (Int32.ofNat kb)), .unset, .unset, .unset, .unset, .unset, .unset, .unset, .unset, .unset, .unset] [(.int (Int32.ofNat kc))])
    show Goes p e below _ T288 (mkF m 23 #[.val (.int y0), .val (.int y1), .val (.int y2), .val (.int y3), .val (.int y4), .val (.int (3 : Int32)), .val (.int (Int32.ofNat ka)), .val (.int (Int32.ofNat kb)), .unset, .unset, .unset, .unset, .unset, .unset, .unset, .unset, .unset, .unset] [(.int (Int32.ofNat kc))])
    refine i_istore w288 at_23 (l' := #[.val (.int y0), .val (.int y1), .val (.int y2), .val (.int y3), .val (.int y4), .val (.int (3 : Int32)), .val (.int (Int32.ofNat ka)), .val (.int (Int32.ofNat kb)), .val (.int (Int32.ofNat kc)), .unset, .unset, .unset, .unset, .unset, .unset, .unset, .unset, .unset]) rfl (pc' := 25) rfl ?_
    refine i_iload w288 at_25 rfl (pc' := 27) rfl ?_
    refine c_static w288 (y := (⟨"com/example/cluster_lock/clusterlock/redis/LockKeysHashTagPinLaw", "ch", "(I)C"⟩ : MethodName)) (argsL := [(.int y4)]) (st := []) at_27 (hw _ (List.mem_of_getElem? (i := 0) rfl)) (hw _ (List.mem_of_getElem? (i := 1) rfl)) (hw _ (List.mem_of_getElem? (i := 2) rfl)) (hw _ (List.mem_of_getElem? (i := 3) rfl)) (by decide) own_pd_pIqC rfl (own_chr l Z a0 hw y4 h0 n0 w288.old ) rfl (by decide) (W := 0) (Nat.le_of_eq rfl) (by decide) (by decide) (by decide) (fun _ q => nomatch q) (pc' := 30) rfl ?_
    intro v290 T290 h290 w290 K290 q290
    obtain ⟨kd, hkd, rfl, rfl⟩ := q290
    show Goes p e below _ T290 (mkF m 30 #[.val (.int y0), .val (.int y1), .val (.int y2), .val (.int y3), .val (.int y4), .val (.int (3 : Int32)), .val (.int (Int32.ofNat ka)), .val (.int (Int32.ofNat kb)), .val (.int (Int32.ofNat kc)), .unset, .unset, .unset, .unset, .unset, .unset, .unset, .unset, .unset] [(.int (Int32.ofNat kd))])
    show Goes p e below _ T290 (mkF m 30 #[.val (.int y0), .val (.int y1), .val (.int y2), .val (.int y3), .val (.int y4), .val (.int (3 : Int32)), .val (.int (Int32.ofNat ka)), .val (.int (Int32.ofNat kb)), .val (.int (Int32.ofNat kc)), .unset, .unset, .unset, .unset, .unset, .unset, .unset, .unset, .unset] [(.int (Int32.ofNat kd))])
    refine i_istore w290 at_30 (l' := #[.val (.int y0), .val (.int y1), .val (.int y2), .val (.int y3), .val (.int y4), .val (.int (3 : Int32)), .val (.int (Int32.ofNat ka)), .val (.int (Int32.ofNat kb)), .val (.int (Int32.ofNat kc)), .val (.int (Int32.ofNat kd)), .unset, .unset, .unset, .unset, .unset, .unset, .unset, .unset]) rfl (pc' := 32) rfl ?_
    refine i_iload w290 at_32 rfl (pc' := 34) rfl ?_
    refine i_iload w290 at_34 rfl (pc' := 36) rfl ?_
    refine i_iload w290 at_36 rfl (pc' := 38) rfl ?_
    refine i_iload w290 at_38 rfl (pc' := 40) rfl ?_
    refine i_iload w290 at_40 rfl (pc' := 42) rfl ?_
    refine c_static w290 (y := (⟨"com/example/cluster_lock/clusterlock/redis/LockKeysHashTagPinLaw", "make", "(ICCCC)Ljava/lang/String;"⟩ : MethodName)) (argsL := [(.int (3 : Int32)), (.int (Int32.ofNat ka)), (.int (Int32.ofNat kb)), (.int (Int32.ofNat kc)), (.int (Int32.ofNat kd))]) (st := []) at_42 (hw _ (List.mem_of_getElem? (i := 4) rfl)) (hw _ (List.mem_of_getElem? (i := 5) rfl)) (hw _ (List.mem_of_getElem? (i := 2) rfl)) (hw _ (List.mem_of_getElem? (i := 6) rfl)) (by decide) own_pd_pICCCCqLjava_lang_Stringe rfl (own_make3 l Z a0 hw ka kb kc kd G1 hG SG h0 n0 w290.old hka hkb hkc hkd) rfl (by decide) (W := 0) (Nat.le_of_eq rfl) (by decide) (by decide) (by decide) (fun _ q => nomatch q) (pc' := 45) rfl ?_
    intro v292 T292 h292 w292 K292 q292
    obtain ⟨a, t, ct, rfl, za, lat1, St⟩ := q292
    show Goes p e below _ T292 (mkF m 45 #[.val (.int y0), .val (.int y1), .val (.int y2), .val (.int y3), .val (.int y4), .val (.int (3 : Int32)), .val (.int (Int32.ofNat ka)), .val (.int (Int32.ofNat kb)), .val (.int (Int32.ofNat kc)), .val (.int (Int32.ofNat kd)), .unset, .unset, .unset, .unset, .unset, .unset, .unset, .unset] [(.ref a)])
    refine i_astore w292 at_45 rfl (l' := #[.val (.int y0), .val (.int y1), .val (.int y2), .val (.int y3), .val (.int y4), .val (.int (3 : Int32)), .val (.int (Int32.ofNat ka)), .val (.int (Int32.ofNat kb)), .val (.int (Int32.ofNat kc)), .val (.int (Int32.ofNat kd)), .val (.ref a), .unset, .unset, .unset, .unset, .unset, .unset, .unset]) rfl (pc' := 47) rfl ?_
    exact own_s3 l Z a0 hw ka kb kc kd hka hkb hkc hkd y0 y1 y2 y3 y4 a t ct G1 hG SG G3 hG3 SF h0 n0 (w292.mono (by decide) (by decide)) hS (Nat.le_trans (Nat.le_trans (Nat.le_trans (Nat.le_trans (Nat.le_trans (Nat.le_refl _) K284.1) K286.1) K288.1) K290.1) K292.1) St
  ·
    rw [e5]
    show Goes p e below _ T (mkF m 5 #[.val (.int y0), .val (.int y1), .val (.int y2), .val (.int y3), .val (.int y4), .unset, .unset, .unset, .unset, .unset, .unset, .unset, .unset, .unset, .unset, .unset, .unset, .unset] [(.int (4 : Int32))])
    refine i_istore w at_5 (l' := #[.val (.int y0), .val (.int y1), .val (.int y2), .val (.int y3), .val (.int y4), .val (.int (4 : Int32)), .unset, .unset, .unset, .unset, .unset, .unset, .unset, .unset, .unset, .unset, .unset, .unset]) rfl (pc' := 7) rfl ?_
    refine i_iloadN w at_7 rfl (pc' := 8) rfl ?_
    refine c_static w (y := (⟨"com/example/cluster_lock/clusterlock/redis/LockKeysHashTagPinLaw", "ch", "(I)C"⟩ : MethodName)) (argsL := [(.int y1)]) (st := []) at_8 (hw _ (List.mem_of_getElem? (i := 0) rfl)) (hw _ (List.mem_of_getElem? (i := 1) rfl)) (hw _ (List.mem_of_getElem? (i := 2) rfl)) (hw _ (List.mem_of_getElem? (i := 3) rfl)) (by decide) own_pd_pIqC rfl (own_chr l Z a0 hw y1 h0 n0 w.old ) rfl (by decide) (W := 0) (Nat.le_of_eq rfl) (by decide) (by decide) (by decide) (fun _ q => nomatch q) (pc' := 11) rfl ?_
    intro v294 T294 h294 w294 K294 q294
    obtain ⟨ka, hka, rfl, rfl⟩ := q294
    show Goes p e below _ T294 (mkF m 11 #[.val (.int y0), .val (.int y1), .val (.int y2), .val (.int y3), .val (.int y4), .val (.int (4 : Int32)), .unset, .unset, .unset, .unset, .unset, .unset, .unset, .unset, .unset, .unset, .unset, .unset] [(.int (Int32.ofNat ka))])
    show Goes p e below _ T294 (mkF m 11 #[.val (.int y0), .val (.int y1), .val (.int y2), .val (.int y3), .val (.int y4), .val (.int (4 : Int32)), .unset, .unset, .unset, .unset, .unset, .unset, .unset, .unset, .unset, .unset, .unset, .unset] [(.int (Int32.ofNat ka))])
    refine i_istore w294 at_11 (l' := #[.val (.int y0), .val (.int y1), .val (.int y2), .val (.int y3), .val (.int y4), .val (.int (4 : Int32)), .val (.int (Int32.ofNat ka)), .unset, .unset, .unset, .unset, .unset, .unset, .unset, .unset, .unset, .unset, .unset]) rfl (pc' := 13) rfl ?_
    refine i_iloadN w294 at_13 rfl (pc' := 14) rfl ?_
    refine c_static w294 (y := (⟨"com/example/cluster_lock/clusterlock/redis/LockKeysHashTagPinLaw", "ch", "(I)C"⟩ : MethodName)) (argsL := [(.int y2)]) (st := []) at_14 (hw _ (List.mem_of_getElem? (i := 0) rfl)) (hw _ (List.mem_of_getElem? (i := 1) rfl)) (hw _ (List.mem_of_getElem? (i := 2) rfl)) (hw _ (List.mem_of_getElem? (i := 3) rfl)) (by decide) own_pd_pIqC rfl (own_chr l Z a0 hw y2 h0 n0 w294.old ) rfl (by decide) (W := 0) (Nat.le_of_eq rfl) (by decide) (by decide) (by decide) (fun _ q => nomatch q) (pc' := 17) rfl ?_
    intro v296 T296 h296 w296 K296 q296
    obtain ⟨kb, hkb, rfl, rfl⟩ := q296
    show Goes p e below _ T296 (mkF m 17 #[.val (.int y0), .val (.int y1), .val (.int y2), .val (.int y3), .val (.int y4), .val (.int (4 : Int32)), .val (.int (Int32.ofNat ka)), .unset, .unset, .unset, .unset, .unset, .unset, .unset, .unset, .unset, .unset, .unset] [(.int (Int32.ofNat kb))])
    show Goes p e below _ T296 (mkF m 17 #[.val (.int y0), .val (.int y1), .val (.int y2), .val (.int y3), .val (.int y4), .val (.int (4 : Int32)), .val (.int (Int32.ofNat ka)), .unset, .unset, .unset, .unset, .unset, .unset, .unset, .unset, .unset, .unset, .unset] [(.int (Int32.ofNat kb))])
    refine i_istore w296 at_17 (l' := #[.val (.int y0), .val (.int y1), .val (.int y2), .val (.int y3), .val (.int y4), .val (.int (4 : Int32)), .val (.int (Int32.ofNat ka)), .val (.int (Int32.ofNat kb)), .unset, .unset, .unset, .unset, .unset, .unset, .unset, .unset, .unset, .unset]) rfl (pc' := 19) rfl ?_
    refine i_iloadN w296 at_19 rfl (pc' := 20) rfl ?_
    refine c_static w296 (y := (⟨"com/example/cluster_lock/clusterlock/redis/LockKeysHashTagPinLaw", "ch", "(I)C"⟩ : MethodName)) (argsL := [(.int y3)]) (st := []) at_20 (hw _ (List.mem_of_getElem? (i := 0) rfl)) (hw _ (List.mem_of_getElem? (i := 1) rfl)) (hw _ (List.mem_of_getElem? (i := 2) rfl)) (hw _ (List.mem_of_getElem? (i := 3) rfl)) (by decide) own_pd_pIqC rfl (own_chr l Z a0 hw y3 h0 n0 w296.old ) rfl (by decide) (W := 0) (Nat.le_of_eq rfl) (by decide) (by decide) (by decide) (fun _ q => nomatch q) (pc' := 23) rfl ?_
    intro v298 T298 h298 w298 K298 q298
    obtain ⟨kc, hkc, rfl, rfl⟩ := q298
    show Goes p e below _ T298 (mkF m 23 #[.val (.int y0), .val (.int y1), .val (.int y2), .val (.int y3), .val (.int y4), .val (.int (4 : Int32)), .val (.int (Int32.ofNat ka)), .val (.int (Int32.ofNat kb)), .unset, .unset, .unset, .unset, .unset, .unset, .unset, .unset, .unset, .unset] [(.int (Int32.ofNat kc))])
    show Goes p e below _ T298 (mkF m 23 #[.val (.int y0), .val (.int y1), .val (.int y2), .val (.int y3), .val (.int y4), .val (.int (4 : Int32)), .val (.int (Int32.ofNat ka)), .val (.int (Int32.ofNat kb)), .unset, .unset, .unset, .unset, .unset, .unset, .unset, .unset, .unset, .unset] [(.int (Int32.ofNat kc))])
    refine i_istore w298 at_23 (l' := #[.val (.int y0), .val (.int y1), .val (.int y2), .val (.int y3), .val (.int y4), .val (.int (4 : Int32)), .val (.int (Int32.ofNat ka)), .val (.int (Int32.ofNat kb)), .val (.int (Int32.ofNat kc)), .unset, .unset, .unset, .unset, .unset, .unset, .unset, .unset, .unset]) rfl (pc' := 25) rfl ?_
    refine i_iload w298 at_25 rfl (pc' := 27) rfl ?_
    refine c_static w298 (y := (⟨"com/example/cluster_lock/clusterlock/redis/LockKeysHashTagPinLaw", "ch", "(I)C"⟩ : MethodName)) (argsL := [(.int y4)]) (st := []) at_27 (hw _ (List.mem_of_getElem? (i := 0) rfl)) (hw _ (List.mem_of_getElem? (i := 1) rfl)) (hw _ (List.mem_of_getElem? (i := 2) rfl)) (hw _ (List.mem_of_getElem? (i := 3) rfl)) (by decide) own_pd_pIqC rfl (own_chr l Z a0 hw y4 h0 n0 w298.old ) rfl (by decide) (W := 0) (Nat.le_of_eq rfl) (by decide) (by decide) (by decide) (fun _ q => nomatch q) (pc' := 30) rfl ?_
    intro v300 T300 h300 w300 K300 q300
    obtain ⟨kd, hkd, rfl, rfl⟩ := q300
    show Goes p e below _ T300 (mkF m 30 #[.val (.int y0), .val (.int y1), .val (.int y2), .val (.int y3), .val (.int y4), .val (.int (4 : Int32)), .val (.int (Int32.ofNat ka)), .val (.int (Int32.ofNat kb)), .val (.int (Int32.ofNat kc)), .unset, .unset, .unset, .unset, .unset, .unset, .unset, .unset, .unset] [(.int (Int32.ofNat kd))])
    show Goes p e below _ T300 (mkF m 30 #[.val (.int y0), .val (.int y1), .val (.int y2), .val (.int y3), .val (.int y4), .val (.int (4 : Int32)), .val (.int (Int32.ofNat ka)), .val (.int (Int32.ofNat kb)), .val (.int (Int32.ofNat kc)), .unset, .unset, .unset, .unset, .unset, .unset, .unset, .unset, .unset] [(.int (Int32.ofNat kd))])
    refine i_istore w300 at_30 (l' := #[.val (.int y0), .val (.int y1), .val (.int y2), .val (.int y3), .val (.int y4), .val (.int (4 : Int32)), .val (.int (Int32.ofNat ka)), .val (.int (Int32.ofNat kb)), .val (.int (Int32.ofNat kc)), .val (.int (Int32.ofNat kd)), .unset, .unset, .unset, .unset, .unset, .unset, .unset, .unset]) rfl (pc' := 32) rfl ?_
    refine i_iload w300 at_32 rfl (pc' := 34) rfl ?_
    refine i_iload w300 at_34 rfl (pc' := 36) rfl ?_
    refine i_iload w300 at_36 rfl (pc' := 38) rfl ?_
    refine i_iload w300 at_38 rfl (pc' := 40) rfl ?_
    refine i_iload w300 at_40 rfl (pc' := 42) rfl ?_
    refine c_static w300 (y := (⟨"com/example/cluster_lock/clusterlock/redis/LockKeysHashTagPinLaw", "make", "(ICCCC)Ljava/lang/String;"⟩ : MethodName)) (argsL := [(.int (4 : Int32)), (.int (Int32.ofNat ka)), (.int (Int32.ofNat kb)), (.int (Int32.ofNat kc)), (.int (Int32.ofNat kd))]) (st := []) at_42 (hw _ (List.mem_of_getElem? (i := 4) rfl)) (hw _ (List.mem_of_getElem? (i := 5) rfl)) (hw _ (List.mem_of_getElem? (i := 2) rfl)) (hw _ (List.mem_of_getElem? (i := 6) rfl)) (by decide) own_pd_pICCCCqLjava_lang_Stringe rfl (own_make4 l Z a0 hw ka kb kc kd G1 hG SG h0 n0 w300.old hka hkb hkc hkd) rfl (by decide) (W := 0) (Nat.le_of_eq rfl) (by decide) (by decide) (by decide) (fun _ q => nomatch q) (pc' := 45) rfl ?_
    intro v302 T302 h302 w302 K302 q302
    obtain ⟨a, t, ct, rfl, za, lat1, St⟩ := q302
    show Goes p e below _ T302 (mkF m 45 #[.val (.int y0), .val (.int y1), .val (.int y2), .val (.int y3), .val (.int y4), .val (.int (4 : Int32)), .val (.int (Int32.ofNat ka)), .val (.int (Int32.ofNat kb)), .val (.int (Int32.ofNat kc)), .val (.int (Int32.ofNat kd)), .unset, .unset, .unset, .unset, .unset, .unset, .unset, .unset] [(.ref a)])
    refine i_astore w302 at_45 rfl (l' := #[.val (.int y0), .val (.int y1), .val (.int y2), .val (.int y3), .val (.int y4), .val (.int (4 : Int32)), .val (.int (Int32.ofNat ka)), .val (.int (Int32.ofNat kb)), .val (.int (Int32.ofNat kc)), .val (.int (Int32.ofNat kd)), .val (.ref a), .unset, .unset, .unset, .unset, .unset, .unset, .unset]) rfl (pc' := 47) rfl ?_
    exact own_s4 l Z a0 hw ka kb kc kd hka hkb hkc hkd y0 y1 y2 y3 y4 a t ct G1 hG SG G3 hG3 SF h0 n0 (w302.mono (by decide) (by decide)) hS (Nat.le_trans (Nat.le_trans (Nat.le_trans (Nat.le_trans (Nat.le_trans (Nat.le_refl _) K294.1) K296.1) K298.1) K300.1) K302.1) St
set_option maxRecDepth 65536 in
set_option maxHeartbeats 40000000 in
theorem comes_1 {Post : Tables → Env → Array Value → State → Outcome → State → Prop} (hpost : ∀ tb e args s v u, (limb_1_1.after args s (.returned v) u = true ∧ limb_1_2.after args s (.returned v) u = true ∧ True) → ReturnedEndW s (.returned v) u (Jvm.fieldLocs frame_1_writes args s ++ Jvm.arrayLocs frame_1_arrays args s ++ Jvm.staticLocs frame_1_statics s) 24 1152 → Post tb e args s (.returned v) u) :
    ArmFor flags0 classFile x code maxLocals ret World_1 tables_1 room_1 Calls_1 rest_1 Pre_1 Post := by
  intro l hfl _ _ p e ha hc hk s m args below hf hA hF happ hP
  obtain ⟨hcalls, hrest, hpre⟩ := hP
  obtain ⟨-, -, -, hnamed, -, -, -, hat⟩ := (Spec.applies_iff hf).mp happ
  obtain ⟨hg, hn⟩ := and_e (Cond.before_iff.mp (show (Jvm.Cond.and given_1 narrow_1).before args s = true from hpre))
  obtain ⟨gc, g0⟩ := and_e hg
  obtain ⟨q0, g1⟩ := and_e g0
  obtain ⟨q1, g2⟩ := and_e g1
  obtain ⟨q2, g3⟩ := and_e g2
  obtain ⟨q3, g4⟩ := and_e g3
  have q4 := g4
  obtain ⟨x0, x1, x2, x3, x4, rfl⟩ : ∃ x0 x1 x2 x3 x4 : Value, args = #[x0, x1, x2, x3, x4] := by
    have hs : args.size = 5 := by simpa [Cond.value, given_1] using gc
    obtain ⟨L⟩ := args
    match L, hs with
    | [x0, x1, x2, x3, x4], _ => exact ⟨x0, x1, x2, x3, x4, rfl⟩
  have hw := fun d (hd : d ∈ tables_1) => atoms_spec (ws := Jvm.Cond.code x code maxLocals ret :: tables_1) hat d (List.mem_cons_of_mem _ hd)
  have hfit : Fit s := fun {y c} hc i hi => by
    obtain ⟨ha, rfl⟩ := Array.getElem?_eq_some_iff.mp hc
    have q := List.all_eq_true.mp ((Array.all_eq_true_iff_forall_mem.mp hF) _ (Array.getElem_mem ha)) i (List.mem_range.mpr hi)
    simpa [Array.getElem?_eq_getElem hi] using q
  obtain ⟨hsets, hown0⟩ := atoms_of _ (rest_1_c_eq ▸ (show rest_1_c.before _ s = true from hrest))
  obtain ⟨y0, ey0⟩ := is_v q0
  obtain rfl : x0 = (.int y0) := Option.some.inj ey0
  obtain ⟨y1, ey1⟩ := is_v q1
  obtain rfl : x1 = (.int y1) := Option.some.inj ey1
  obtain ⟨y2, ey2⟩ := is_v q2
  obtain rfl : x2 = (.int y2) := Option.some.inj ey2
  obtain ⟨y3, ey3⟩ := is_v q3
  obtain rfl : x3 = (.int y3) := Option.some.inj ey3
  obtain ⟨y4, ey4⟩ := is_v q4
  obtain rfl : x4 = (.int y4) := Option.some.inj ey4
  have n2 := not_v (Cond.before_iff.mp (hsets _ (List.mem_of_getElem? (i := 2) rfl)))
  obtain ⟨G1, eG1⟩ := is_v (Cond.before_iff.mp (hsets _ (List.mem_of_getElem? (i := 1) rfl)))
  have SG : Sta s s.heap "java/lang/String" "COMPACT_STRINGS" "Z" (.int G1) := Sta.start eG1 (Or.inl (hsets _ (List.mem_of_getElem? (i := 0) rfl)))
  have hG : ¬ G1 = 0 := gotF (Cond.eq_ints eG1 (Term.int_eval (0))) n2
  obtain ⟨G3, eG3, hG3⟩ := isR_v (Cond.before_iff.mp (hsets _ (List.mem_of_getElem? (i := 8) rfl)))
  have SF : Sta s s.heap "jdk/internal/util/Preconditions" "SIOOBE_FORMATTER" "Ljava/util/function/BiFunction;" G3 := Sta.start eG3 (Or.inl (hsets _ (List.mem_of_getElem? (i := 7) rfl)))
  obtain ⟨n, o, h1, h2, h3, _, L, rfl, ⟨rfl, N, -⟩, hq⟩ := own_law l s _ hw y0 y1 y2 y3 y4 G1 hG SG G3 hG3 SF s.heap s.heap.size (Old.start s)  p e ha hc hk s m _ below hf ((Spec.applies_iff_loose hf).mp happ).1 ⟨rfl, State.Warmed39.refl s, rfl⟩ trivial
  refine ⟨n, _, h1, h2, h3, hpost _ _ _ _ _ _ ⟨Cond.after_iff.mpr rfl, Cond.after_iff.mpr (eq_i res_at (Term.int_eval (1)) rfl), trivial⟩ ⟨hq.1, hq.2.1, hq.2.2.1, (hq.2.2.2.sift fun y hy => Or.inr (N y hy)).mono (by decide) (by decide)⟩⟩
theorem main_1_1 : Claimed_1_1 := comes_1 fun _ _ _ _ _ _ h hF => ⟨h.1, hF⟩
theorem main_1_2 : Claimed_1_2 := comes_1 fun _ _ _ _ _ _ h hF => ⟨h.2.1, hF⟩
end Jvm.Pilot.@@N@@
namespace Jvm.Pilot.@@N@@
open Jvm Jvm.ClassFile Sem Op Lib Jvm.Free Jvm.Stand Jvm.Pilot.@@N@@.Jvm.D
/-! MADE BY PROGRAM (witnessworld.py) out of the Statement's table words and the real class files: 24 classes; the members and pool entries that the words name. The judged class is class 1, her method 5. -/
namespace start1
open Jvm.ClassFile
def u (s : String) : CpInfo := .utf8 (stringToUtf16 s)
/-- a pool by its gaps: so many unusable entries, then the entry; so many at the end -/
def gap : Nat → List CpInfo → List CpInfo
  | 0, r => r
  | n + 1, r => .unusable :: gap n r
def poolList (es : List (Nat × CpInfo)) (last : Nat) : List CpInfo := es.foldr (fun e r => gap e.1 (e.2 :: r)) (gap last [])
def pool (es : List (Nat × CpInfo)) (last : Nat) : Array CpInfo := ⟨poolList es last⟩
def fileOf (pool : Array CpInfo) (this : Nat) (attrs : Array Attribute := #[]) (ms : Array MethodInfo := #[]) (fl : Nat := 33) (sup : Nat := 0) (ifs : Array Nat := #[]) (fds : Array FieldInfo := #[]) : ClassFile where
  minorVersion := 0
  majorVersion := 65
  constantPool := pool
  accessFlags := fl
  thisClass := this
  superClass := sup
  interfaces := ifs
  fields := fds
  methods := ms
  attributes := attrs
def plain (name : String) (sup : Option ClassId) : Class where
  name := name
  kind := .ordinary
  loader := none
  accessFlags := 33
  super := sup
  interfaces := #[]
  cf := none
  fields := #[]
  methods := #[]
  instanceTypes := #[]
  staticTypes := #[]
  resolved := #[]
  callSites := []
  init := .initialized
  statics := none
  mirror := none

def pool0 : Array CpInfo := pool [(5, u "<init>"), (0, u "()V"), (1, .class_ 10), (1, u "java/lang/Object")] 113

def k0c0 : Code := { maxStack := 0, maxLocals := 1, code := object_method_1_code, exceptionTable := #[], attributes := #[] }
def k0m0 : Method := { name := "<init>", desc := "()V", sig := { parameters := [], returnType := none }, accessFlags := 1, code := some k0c0 }
/-- java/lang/Object -/
def k0 : Class := { plain "java/lang/Object" none with
  accessFlags := 33
  interfaces := #[]
  cf := some (fileOf pool0 8 #[] #[{ accessFlags := 1, nameIndex := 5, descriptorIndex := 6, attributes := #[] }] 33 0 #[] #[])
  fields := #[]
  methods := #[k0m0]
  instanceTypes := #[]
  staticTypes := #[]
  resolved := Array.replicate 124 none
  statics := none }

def pool1 : Array CpInfo := pool [(2, .class_ 4), (1, u "java/lang/Object"), (0, u "<init>"), (0, u "()V"), (0, .class_ 8), (0, u "java/lang/String"), (0, .methodref 7 10), (0, .nameAndType 5 11), (0, u "([C)V"), (0, .methodref 13 14), (0, .class_ 15), (0, .nameAndType 16 17), (0, u "com/example/cluster_lock/clusterlock/redis/LockKeysHashTagPinLaw"), (0, u "at"), (0, u "(ICCCC)C"), (0, .methodref 13 19), (0, .nameAndType 20 21), (0, u "ch"), (0, u "(I)C"), (0, .methodref 13 23), (0, .nameAndType 24 25), (0, u "make"), (0, u "(ICCCC)Ljava/lang/String;"), (0, .methodref 13 27), (0, .nameAndType 28 29), (0, u "is"), (0, u "(IICCCCC)Z"), (0, .methodref 31 32), (0, .class_ 33), (0, .nameAndType 34 35), (0, u "com/example/cluster_lock/clusterlock/redis/LockKeys"), (0, u "hashTag"), (0, u "(Ljava/lang/String;)Ljava/lang/String;"), (0, .methodref 7 37), (0, .nameAndType 38 39), (0, u "length"), (0, u "()I"), (0, .methodref 7 41), (0, .nameAndType 42 21), (0, u "charAt"), (3, u "law"), (0, u "(IIIII)Z")] 2

def k1m0 : Method := { name := "<init>", desc := "()V", sig := { parameters := [], returnType := none }, accessFlags := 1, code := none }
def k1c1 : Code := { maxStack := 2, maxLocals := 2, code := method_2_code, exceptionTable := #[], attributes := #[] }
def k1m1 : Method := { name := "ch", desc := "(I)C", sig := { parameters := [.int], returnType := some .char }, accessFlags := 10, code := some k1c1 }
def k1c2 : Code := { maxStack := 6, maxLocals := 5, code := method_3_code, exceptionTable := #[], attributes := #[] }
def k1m2 : Method := { name := "make", desc := "(ICCCC)Ljava/lang/String;", sig := { parameters := [.int, .char, .char, .char, .char], returnType := some (.object "java/lang/String") }, accessFlags := 10, code := some k1c2 }
def k1c3 : Code := { maxStack := 2, maxLocals := 5, code := method_4_code, exceptionTable := #[], attributes := #[] }
def k1m3 : Method := { name := "at", desc := "(ICCCC)C", sig := { parameters := [.int, .char, .char, .char, .char], returnType := some .char }, accessFlags := 10, code := some k1c3 }
def k1c4 : Code := { maxStack := 5, maxLocals := 7, code := method_5_code, exceptionTable := #[], attributes := #[] }
def k1m4 : Method := { name := "is", desc := "(IICCCCC)Z", sig := { parameters := [.int, .int, .char, .char, .char, .char, .char], returnType := some .boolean }, accessFlags := 10, code := some k1c4 }
def k1c5 : Code := { maxStack := 7, maxLocals := 18, code := code, exceptionTable := #[], attributes := #[] }
def k1m5 : Method := { name := "law", desc := "(IIIII)Z", sig := { parameters := [.int, .int, .int, .int, .int], returnType := some .boolean }, accessFlags := 9, code := some k1c5 }
/-- com/example/cluster_lock/clusterlock/redis/LockKeysHashTagPinLaw -/
def k1 : Class := { plain "com/example/cluster_lock/clusterlock/redis/LockKeysHashTagPinLaw" (some 0) with
  accessFlags := 49
  interfaces := #[]
  cf := some (fileOf pool1 13 #[] #[{ accessFlags := 1, nameIndex := 5, descriptorIndex := 6, attributes := #[] }, { accessFlags := 10, nameIndex := 20, descriptorIndex := 21, attributes := #[] }, { accessFlags := 10, nameIndex := 24, descriptorIndex := 25, attributes := #[] }, { accessFlags := 10, nameIndex := 16, descriptorIndex := 17, attributes := #[] }, { accessFlags := 10, nameIndex := 28, descriptorIndex := 29, attributes := #[] }, { accessFlags := 9, nameIndex := 46, descriptorIndex := 47, attributes := #[] }] 49 2 #[] #[])
  fields := #[]
  methods := #[k1m0, k1m1, k1m2, k1m3, k1m4, k1m5]
  instanceTypes := #[]
  staticTypes := #[]
  resolved := Array.replicate 50 none
  statics := none }

def pool2 : Array CpInfo := pool [(1, .class_ 2), (0, u "java/io/Serializable"), (0, .class_ 4), (0, u "java/lang/Object")] 2

/-- java/io/Serializable -/
def k2 : Class := { plain "java/io/Serializable" (some 0) with
  accessFlags := 1537
  interfaces := #[]
  cf := some (fileOf pool2 1 #[] #[] 1537 3 #[] #[])
  fields := #[]
  methods := #[]
  instanceTypes := #[]
  staticTypes := #[]
  resolved := Array.replicate 7 none
  statics := none }

def pool3 : Array CpInfo := pool [(1, .class_ 2), (0, u "java/lang/Comparable"), (0, .class_ 4), (0, u "java/lang/Object")] 7

/-- java/lang/Comparable -/
def k3 : Class := { plain "java/lang/Comparable" (some 0) with
  accessFlags := 1537
  interfaces := #[]
  cf := some (fileOf pool3 1 #[] #[] 1537 3 #[] #[])
  fields := #[]
  methods := #[]
  instanceTypes := #[]
  staticTypes := #[]
  resolved := Array.replicate 12 none
  statics := none }

def pool4 : Array CpInfo := pool [(2, .class_ 4), (1, u "java/lang/CharSequence"), (42, .class_ 48), (0, u "java/lang/CharSequence$1CodePointIterator"), (10, .class_ 60), (0, u "java/lang/CharSequence$1CharIterator"), (5, .class_ 67), (0, u "java/lang/Object")] 63

/-- java/lang/CharSequence -/
def k4 : Class := { plain "java/lang/CharSequence" (some 0) with
  accessFlags := 1537
  interfaces := #[]
  cf := some (fileOf pool4 2 #[.nestMembers #[47, 59]] #[] 1537 66 #[] #[])
  fields := #[]
  methods := #[]
  instanceTypes := #[]
  staticTypes := #[]
  resolved := Array.replicate 131 none
  statics := none }

def pool5 : Array CpInfo := pool [(1, .class_ 2), (0, u "java/lang/constant/Constable"), (0, .class_ 4), (0, u "java/lang/Object")] 6

/-- java/lang/constant/Constable -/
def k5 : Class := { plain "java/lang/constant/Constable" (some 0) with
  accessFlags := 1537
  interfaces := #[]
  cf := some (fileOf pool5 1 #[] #[] 1537 3 #[] #[])
  fields := #[]
  methods := #[]
  instanceTypes := #[]
  staticTypes := #[]
  resolved := Array.replicate 11 none
  statics := none }

def pool6 : Array CpInfo := pool [(1, .class_ 2), (0, u "java/lang/constant/ConstantDesc"), (0, .class_ 4), (0, u "java/lang/Object")] 32

/-- java/lang/constant/ConstantDesc -/
def k6 : Class := { plain "java/lang/constant/ConstantDesc" (some 0) with
  accessFlags := 1537
  interfaces := #[]
  cf := some (fileOf pool6 1 #[] #[] 1537 3 #[] #[])
  fields := #[]
  methods := #[]
  instanceTypes := #[]
  staticTypes := #[]
  resolved := Array.replicate 37 none
  statics := none }

def pool7 : Array CpInfo := pool [(1, .methodref 2 3), (0, .class_ 4), (0, .nameAndType 5 6), (0, u "java/lang/Object"), (0, u "<init>"), (0, u "()V"), (2, .fieldref 10 11), (0, .class_ 12), (0, .nameAndType 13 14), (0, u "java/lang/String"), (0, u "value"), (0, u "[B"), (0, .fieldref 10 16), (0, .nameAndType 17 18), (0, u "coder"), (0, u "B"), (2, u "hash"), (0, u "I"), (2, u "hashIsZero"), (0, u "Z"), (0, .methodref 10 28), (0, .nameAndType 5 29), (0, u "([CIILjava/lang/Void;)V"), (8, .fieldref 10 39), (0, .nameAndType 40 26), (0, u "COMPACT_STRINGS"), (1, .class_ 44), (1, u "java/lang/StringUTF16"), (0, u "compress"), (1, .methodref 42 48), (0, .nameAndType 49 50), (0, u "coderFromArrayLen"), (0, u "([BI)B"), (56, .class_ 109), (1, u "java/lang/StringLatin1"), (32, u "()Z"), (34, .methodref 42 178), (0, .nameAndType 45 179), (0, u "([CII)[B"), (31, u "([BB)V"), (122, u "()I"), (0, .methodref 10 336), (0, .nameAndType 17 337), (0, u "()B"), (25, u "([BI)C"), (27, u "(II)V"), (35, u "(I)C"), (64, .methodref 10 493), (0, .nameAndType 494 142), (0, u "isLatin1"), (0, .methodref 107 496), (0, .nameAndType 497 363), (0, u "charAt"), (3, u "checkIndex"), (3, .methodref 10 506), (0, .nameAndType 507 334), (0, u "length"), (5, u "checkFromToIndex"), (7, .methodref 10 522), (0, .nameAndType 523 524), (0, u "checkBoundsBeginEnd"), (0, u "(III)V"), (50, .class_ 576), (0, u "java/lang/CharSequence"), (22, u "CASE_INSENSITIVE_ORDER"), (0, u "Ljava/util/Comparator;"), (32, .methodref 10 634), (0, .nameAndType 635 636), (0, u "indexOf"), (0, u "(II)I"), (0, .methodref 107 638), (0, .nameAndType 635 639), (0, u "([BIII)I"), (43, u "substring"), (0, u "(II)Ljava/lang/String;"), (0, .methodref 107 686), (0, .nameAndType 687 688), (0, u "newString"), (0, u "([BII)Ljava/lang/String;"), (3, u "isEmpty"), (72, u "(I)I"), (244, u "([C)V"), (42, .fieldref 1054 1055), (0, .class_ 1056), (0, .nameAndType 1057 1058), (0, u "jdk/internal/util/Preconditions"), (0, u "SIOOBE_FORMATTER"), (0, u "Ljava/util/function/BiFunction;"), (0, .methodref 1054 1060), (0, .nameAndType 501 1061), (0, u "(IILjava/util/function/BiFunction;)I"), (0, .methodref 1054 1063), (0, .nameAndType 513 1064), (0, u "(IIILjava/util/function/BiFunction;)I"), (36, u "serialPersistentFields"), (0, u "[Ljava/io/ObjectStreamField;"), (0, .class_ 1104), (0, u "java/lang/String$CaseInsensitiveComparator"), (1, .class_ 1107), (0, u "java/io/Serializable"), (0, .class_ 1109), (0, u "java/lang/Comparable"), (0, .class_ 1111), (0, u "java/lang/constant/Constable"), (0, .class_ 1113), (0, u "java/lang/constant/ConstantDesc"), (2, u "serialVersionUID"), (0, u "J"), (3, u "REPL"), (0, u "C"), (2, u "LATIN1"), (1, u "UTF16")] 323

def k7m0 : Method := { name := "<init>", desc := "()V", sig := { parameters := [], returnType := none }, accessFlags := 1, code := none }
def k7c1 : Code := { maxStack := 5, maxLocals := 2, code := jdk_42_method_3_code, exceptionTable := #[], attributes := #[] }
def k7m1 : Method := { name := "<init>", desc := "([C)V", sig := { parameters := [(.array .char)], returnType := none }, accessFlags := 1, code := some k7c1 }
def k7c2 : Code := { maxStack := 2, maxLocals := 1, code := jdk_42_method_54_code, exceptionTable := #[], attributes := #[] }
def k7m2 : Method := { name := "length", desc := "()I", sig := { parameters := [], returnType := some .int }, accessFlags := 1, code := some k7c2 }
def k7c3 : Code := { maxStack := 1, maxLocals := 1, code := jdk_42_method_55_code, exceptionTable := #[], attributes := #[] }
def k7m3 : Method := { name := "isEmpty", desc := "()Z", sig := { parameters := [], returnType := some .boolean }, accessFlags := 1, code := some k7c3 }
def k7c4 : Code := { maxStack := 2, maxLocals := 2, code := jdk_42_method_56_code, exceptionTable := #[], attributes := #[] }
def k7m4 : Method := { name := "charAt", desc := "(I)C", sig := { parameters := [.int], returnType := some .char }, accessFlags := 1, code := some k7c4 }
def k7c5 : Code := { maxStack := 3, maxLocals := 2, code := jdk_42_method_79_code, exceptionTable := #[], attributes := #[] }
def k7m5 : Method := { name := "indexOf", desc := "(I)I", sig := { parameters := [.int], returnType := some .int }, accessFlags := 1, code := some k7c5 }
def k7c6 : Code := { maxStack := 4, maxLocals := 3, code := jdk_42_method_80_code, exceptionTable := #[], attributes := #[] }
def k7m6 : Method := { name := "indexOf", desc := "(II)I", sig := { parameters := [.int, .int], returnType := some .int }, accessFlags := 1, code := some k7c6 }
def k7c7 : Code := { maxStack := 3, maxLocals := 5, code := jdk_42_method_92_code, exceptionTable := #[], attributes := #[] }
def k7m7 : Method := { name := "substring", desc := "(II)Ljava/lang/String;", sig := { parameters := [.int, .int], returnType := some (.object "java/lang/String") }, accessFlags := 1, code := some k7c7 }
def k7c8 : Code := { maxStack := 4, maxLocals := 6, code := jdk_42_method_149_code, exceptionTable := #[], attributes := #[] }
def k7m8 : Method := { name := "<init>", desc := "([CIILjava/lang/Void;)V", sig := { parameters := [(.array .char), .int, .int, (.object "java/lang/Void")], returnType := none }, accessFlags := 2, code := some k7c8 }
def k7c9 : Code := { maxStack := 2, maxLocals := 3, code := jdk_42_method_151_code, exceptionTable := #[], attributes := #[] }
def k7m9 : Method := { name := "<init>", desc := "([BB)V", sig := { parameters := [(.array .byte), .byte], returnType := none }, accessFlags := 0, code := some k7c9 }
def k7c10 : Code := { maxStack := 1, maxLocals := 1, code := jdk_42_method_152_code, exceptionTable := #[], attributes := #[] }
def k7m10 : Method := { name := "coder", desc := "()B", sig := { parameters := [], returnType := some .byte }, accessFlags := 0, code := some k7c10 }
def k7c11 : Code := { maxStack := 1, maxLocals := 1, code := jdk_42_method_154_code, exceptionTable := #[], attributes := #[] }
def k7m11 : Method := { name := "isLatin1", desc := "()Z", sig := { parameters := [], returnType := some .boolean }, accessFlags := 0, code := some k7c11 }
def k7c12 : Code := { maxStack := 3, maxLocals := 2, code := jdk_42_method_155_code, exceptionTable := #[], attributes := #[] }
def k7m12 : Method := { name := "checkIndex", desc := "(II)V", sig := { parameters := [.int, .int], returnType := none }, accessFlags := 8, code := some k7c12 }
def k7c13 : Code := { maxStack := 4, maxLocals := 3, code := jdk_42_method_158_code, exceptionTable := #[], attributes := #[] }
def k7m13 : Method := { name := "checkBoundsBeginEnd", desc := "(III)V", sig := { parameters := [.int, .int, .int], returnType := none }, accessFlags := 8, code := some k7c13 }
/-- java/lang/String -/
def k7 : Class := { plain "java/lang/String" (some 0) with
  accessFlags := 49
  interfaces := #[2, 3, 4, 5, 6]
  cf := some (fileOf pool7 10 #[.nestMembers #[1103]] #[{ accessFlags := 1, nameIndex := 5, descriptorIndex := 6, attributes := #[] }, { accessFlags := 1, nameIndex := 5, descriptorIndex := 1010, attributes := #[] }, { accessFlags := 1, nameIndex := 507, descriptorIndex := 334, attributes := #[] }, { accessFlags := 1, nameIndex := 692, descriptorIndex := 142, attributes := #[] }, { accessFlags := 1, nameIndex := 497, descriptorIndex := 427, attributes := #[] }, { accessFlags := 1, nameIndex := 635, descriptorIndex := 765, attributes := #[] }, { accessFlags := 1, nameIndex := 635, descriptorIndex := 636, attributes := #[] }, { accessFlags := 1, nameIndex := 683, descriptorIndex := 684, attributes := #[] }, { accessFlags := 2, nameIndex := 5, descriptorIndex := 29, attributes := #[] }, { accessFlags := 0, nameIndex := 5, descriptorIndex := 211, attributes := #[] }, { accessFlags := 0, nameIndex := 17, descriptorIndex := 337, attributes := #[] }, { accessFlags := 0, nameIndex := 494, descriptorIndex := 142, attributes := #[] }, { accessFlags := 8, nameIndex := 501, descriptorIndex := 391, attributes := #[] }, { accessFlags := 8, nameIndex := 523, descriptorIndex := 524, attributes := #[] }] 49 2 #[1106, 1108, 575, 1110, 1112] #[{ accessFlags := 18, nameIndex := 13, descriptorIndex := 14, attributes := #[] }, { accessFlags := 18, nameIndex := 17, descriptorIndex := 18, attributes := #[] }, { accessFlags := 2, nameIndex := 21, descriptorIndex := 22, attributes := #[] }, { accessFlags := 2, nameIndex := 25, descriptorIndex := 26, attributes := #[] }, { accessFlags := 26, nameIndex := 1116, descriptorIndex := 1117, attributes := #[] }, { accessFlags := 24, nameIndex := 40, descriptorIndex := 26, attributes := #[] }, { accessFlags := 26, nameIndex := 1101, descriptorIndex := 1102, attributes := #[] }, { accessFlags := 26, nameIndex := 1121, descriptorIndex := 1122, attributes := #[] }, { accessFlags := 25, nameIndex := 599, descriptorIndex := 600, attributes := #[] }, { accessFlags := 24, nameIndex := 1125, descriptorIndex := 18, attributes := #[] }, { accessFlags := 24, nameIndex := 1127, descriptorIndex := 18, attributes := #[] }])
  fields := #[{ name := "value", type := (.array .byte), accessFlags := 18, slot := 0, constantValue := 0 }, { name := "coder", type := .byte, accessFlags := 18, slot := 1, constantValue := 0 }, { name := "hash", type := .int, accessFlags := 2, slot := 2, constantValue := 0 }, { name := "hashIsZero", type := .boolean, accessFlags := 2, slot := 3, constantValue := 0 }, { name := "serialVersionUID", type := .long, accessFlags := 26, slot := 0, constantValue := 0 }, { name := "COMPACT_STRINGS", type := .boolean, accessFlags := 24, slot := 1, constantValue := 0 }, { name := "serialPersistentFields", type := (.array (.object "java/io/ObjectStreamField")), accessFlags := 26, slot := 2, constantValue := 0 }, { name := "REPL", type := .char, accessFlags := 26, slot := 3, constantValue := 0 }, { name := "CASE_INSENSITIVE_ORDER", type := (.object "java/util/Comparator"), accessFlags := 25, slot := 4, constantValue := 0 }, { name := "LATIN1", type := .byte, accessFlags := 24, slot := 5, constantValue := 0 }, { name := "UTF16", type := .byte, accessFlags := 24, slot := 6, constantValue := 0 }]
  methods := #[k7m0, k7m1, k7m2, k7m3, k7m4, k7m5, k7m6, k7m7, k7m8, k7m9, k7m10, k7m11, k7m12, k7m13]
  instanceTypes := #[(.array .byte), .byte, .int, .boolean]
  staticTypes := #[.long, .boolean, (.array (.object "java/io/ObjectStreamField")), .char, (.object "java/util/Comparator"), .byte, .byte]
  resolved := Array.replicate 1451 none
  statics := some 0 }

def pool8 : Array CpInfo := pool [(6, .class_ 8), (1, u "java/lang/Object"), (0, u "<init>"), (0, u "()V"), (1, .class_ 14), (1, u "java/lang/StringUTF16"), (31, u "$assertionsDisabled"), (0, u "Z"), (13, u "HI_BYTE_SHIFT"), (0, u "I"), (2, u "LO_BYTE_SHIFT"), (49, .methodref 12 116), (0, .nameAndType 117 118), (0, u "compress"), (0, u "([CI[BII)I"), (3, u "([CII)[B"), (138, u "coderFromArrayLen"), (0, u "([BI)B"), (106, .class_ 371), (1, u "java/lang/StringUTF16$LinesSpliterator"), (58, u "MAX_LENGTH"), (196, .class_ 628), (0, u "java/lang/StringUTF16$CodePointsSpliterator"), (0, .class_ 630), (0, u "java/lang/StringUTF16$CharsSpliterator")] 4

def k8m0 : Method := { name := "<init>", desc := "()V", sig := { parameters := [], returnType := none }, accessFlags := 0, code := none }
def k8c1 : Code := { maxStack := 2, maxLocals := 2, code := jdk_52_method_15_code, exceptionTable := #[], attributes := #[] }
def k8m1 : Method := { name := "coderFromArrayLen", desc := "([BI)B", sig := { parameters := [(.array .byte), .int], returnType := some .byte }, accessFlags := 8, code := some k8c1 }
def k8c2 : Code := { maxStack := 5, maxLocals := 6, code := jdk_52_method_16_code, exceptionTable := #[], attributes := #[] }
def k8m2 : Method := { name := "compress", desc := "([CII)[B", sig := { parameters := [(.array .char), .int, .int], returnType := some (.array .byte) }, accessFlags := 9, code := some k8c2 }
def k8c3 : Code := { maxStack := 3, maxLocals := 7, code := jdk_52_method_21_code, exceptionTable := #[], attributes := #[] }
def k8m3 : Method := { name := "compress", desc := "([CI[BII)I", sig := { parameters := [(.array .char), .int, (.array .byte), .int, .int], returnType := some .int }, accessFlags := 9, code := some k8c3 }
/-- java/lang/StringUTF16 -/
def k8 : Class := { plain "java/lang/StringUTF16" (some 0) with
  accessFlags := 48
  interfaces := #[]
  cf := some (fileOf pool8 12 #[.nestMembers #[627, 629, 369]] #[{ accessFlags := 0, nameIndex := 9, descriptorIndex := 10, attributes := #[] }, { accessFlags := 8, nameIndex := 261, descriptorIndex := 262, attributes := #[] }, { accessFlags := 9, nameIndex := 117, descriptorIndex := 122, attributes := #[] }, { accessFlags := 9, nameIndex := 117, descriptorIndex := 118, attributes := #[] }] 48 6 #[] #[{ accessFlags := 26, nameIndex := 61, descriptorIndex := 62, attributes := #[] }, { accessFlags := 26, nameIndex := 65, descriptorIndex := 62, attributes := #[] }, { accessFlags := 24, nameIndex := 430, descriptorIndex := 62, attributes := #[] }, { accessFlags := 4120, nameIndex := 46, descriptorIndex := 47, attributes := #[] }])
  fields := #[{ name := "HI_BYTE_SHIFT", type := .int, accessFlags := 26, slot := 0, constantValue := 0 }, { name := "LO_BYTE_SHIFT", type := .int, accessFlags := 26, slot := 1, constantValue := 0 }, { name := "MAX_LENGTH", type := .int, accessFlags := 24, slot := 2, constantValue := 0 }, { name := "$assertionsDisabled", type := .boolean, accessFlags := 4120, slot := 3, constantValue := 0 }]
  methods := #[k8m0, k8m1, k8m2, k8m3]
  instanceTypes := #[]
  staticTypes := #[.int, .int, .int, .boolean]
  resolved := Array.replicate 635 none
  statics := none }

def pool9 : Array CpInfo := pool [(2, .class_ 4), (1, u "java/lang/Object"), (0, u "<init>"), (0, u "()V"), (0, .methodref 8 9), (0, .class_ 10), (0, .nameAndType 11 12), (0, u "com/example/cluster_lock/clusterlock/redis/LockKeys"), (0, u "checkLockName"), (0, u "(Ljava/lang/String;)V"), (0, .methodref 14 15), (0, .class_ 16), (0, .nameAndType 17 18), (0, u "java/lang/String"), (0, u "indexOf"), (0, u "(I)I"), (0, .methodref 14 20), (0, .nameAndType 17 21), (0, u "(II)I"), (0, .methodref 14 23), (0, .nameAndType 24 25), (0, u "substring"), (0, u "(II)Ljava/lang/String;"), (2, .methodref 29 30), (0, .class_ 31), (0, .nameAndType 32 33), (0, u "java/util/Objects"), (0, u "requireNonNull"), (0, u "(Ljava/lang/Object;Ljava/lang/String;)Ljava/lang/Object;"), (0, .methodref 14 35), (0, .nameAndType 36 37), (0, u "isEmpty"), (0, u "()Z"), (5, u "(Ljava/lang/String;)Ljava/lang/String;"), (4, u "hashTag"), (35, .string 85), (0, u "lockName"), (2, u "PREFIX"), (0, u "Ljava/lang/String;"), (3, u "RELEASE_PURPOSE"), (0, u "QUEUE_PURPOSE"), (0, u "QUEUE_DEADLINES_PURPOSE")] 27

def k9m0 : Method := { name := "<init>", desc := "()V", sig := { parameters := [], returnType := none }, accessFlags := 2, code := none }
def k9c1 : Code := { maxStack := 4, maxLocals := 4, code := prog_6_method_2_code, exceptionTable := #[], attributes := #[] }
def k9m1 : Method := { name := "hashTag", desc := "(Ljava/lang/String;)Ljava/lang/String;", sig := { parameters := [(.object "java/lang/String")], returnType := some (.object "java/lang/String") }, accessFlags := 9, code := some k9c1 }
def k9c2 : Code := { maxStack := 3, maxLocals := 1, code := prog_6_method_9_code, exceptionTable := #[], attributes := #[] }
def k9m2 : Method := { name := "checkLockName", desc := "(Ljava/lang/String;)V", sig := { parameters := [(.object "java/lang/String")], returnType := none }, accessFlags := 10, code := some k9c2 }
/-- com/example/cluster_lock/clusterlock/redis/LockKeys -/
def k9 : Class := { plain "com/example/cluster_lock/clusterlock/redis/LockKeys" (some 0) with
  accessFlags := 33
  interfaces := #[]
  cf := some (fileOf pool9 8 #[] #[{ accessFlags := 2, nameIndex := 5, descriptorIndex := 6, attributes := #[] }, { accessFlags := 9, nameIndex := 48, descriptorIndex := 43, attributes := #[] }, { accessFlags := 10, nameIndex := 11, descriptorIndex := 12, attributes := #[] }] 33 2 #[] #[{ accessFlags := 26, nameIndex := 88, descriptorIndex := 89, attributes := #[] }, { accessFlags := 26, nameIndex := 93, descriptorIndex := 89, attributes := #[] }, { accessFlags := 26, nameIndex := 94, descriptorIndex := 89, attributes := #[] }, { accessFlags := 26, nameIndex := 95, descriptorIndex := 89, attributes := #[] }])
  fields := #[{ name := "PREFIX", type := (.object "java/lang/String"), accessFlags := 26, slot := 0, constantValue := 0 }, { name := "RELEASE_PURPOSE", type := (.object "java/lang/String"), accessFlags := 26, slot := 1, constantValue := 0 }, { name := "QUEUE_PURPOSE", type := (.object "java/lang/String"), accessFlags := 26, slot := 2, constantValue := 0 }, { name := "QUEUE_DEADLINES_PURPOSE", type := (.object "java/lang/String"), accessFlags := 26, slot := 3, constantValue := 0 }]
  methods := #[k9m0, k9m1, k9m2]
  instanceTypes := #[]
  staticTypes := #[(.object "java/lang/String"), (.object "java/lang/String"), (.object "java/lang/String"), (.object "java/lang/String")]
  resolved := Array.replicate 123 none
  statics := none }

def pool10 : Array CpInfo := pool [(2, .class_ 4), (1, u "java/lang/Object"), (0, u "<init>"), (0, u "()V"), (35, .class_ 44), (1, u "java/util/Objects"), (0, u "requireNonNull"), (48, u "(Ljava/lang/Object;Ljava/lang/String;)Ljava/lang/Object;")] 89

def k10m0 : Method := { name := "<init>", desc := "()V", sig := { parameters := [], returnType := none }, accessFlags := 2, code := none }
def k10c1 : Code := { maxStack := 3, maxLocals := 2, code := jdk_31_method_11_code, exceptionTable := #[], attributes := #[] }
def k10m1 : Method := { name := "requireNonNull", desc := "(Ljava/lang/Object;Ljava/lang/String;)Ljava/lang/Object;", sig := { parameters := [(.object "java/lang/Object"), (.object "java/lang/String")], returnType := some (.object "java/lang/Object") }, accessFlags := 9, code := some k10c1 }
/-- java/util/Objects -/
def k10 : Class := { plain "java/util/Objects" (some 0) with
  accessFlags := 49
  interfaces := #[]
  cf := some (fileOf pool10 42 #[] #[{ accessFlags := 2, nameIndex := 5, descriptorIndex := 6, attributes := #[] }, { accessFlags := 9, nameIndex := 45, descriptorIndex := 94, attributes := #[] }] 49 2 #[] #[])
  fields := #[]
  methods := #[k10m0, k10m1]
  instanceTypes := #[]
  staticTypes := #[]
  resolved := Array.replicate 184 none
  statics := none }

def pool11 : Array CpInfo := pool [(1, .class_ 2), (0, u "java/lang/String"), (1, .class_ 6), (1, u "java/lang/Object"), (0, u "<init>"), (0, u "()V"), (0, .methodref 1 10), (0, .nameAndType 11 12), (0, u "checkIndex"), (0, u "(II)V"), (1, .class_ 16), (1, u "java/lang/StringLatin1"), (21, .methodref 39 40), (0, .class_ 41), (0, .nameAndType 42 43), (0, u "java/lang/Math"), (0, u "min"), (0, u "(II)I"), (9, u "([BI)C"), (34, .methodref 14 89), (0, .nameAndType 90 91), (0, u "canEncode"), (0, u "(I)Z"), (0, .methodref 39 93), (0, .nameAndType 94 43), (0, u "max"), (0, .methodref 14 96), (0, .nameAndType 97 98), (0, u "indexOfChar"), (0, u "([BIII)I"), (2, u "indexOf"), (10, .methodref 1 113), (0, .nameAndType 7 114), (0, u "([BB)V"), (6, u "$assertionsDisabled"), (0, u "Z"), (8, .class_ 133), (1, u "java/util/Arrays"), (62, u "newString"), (0, u "([BII)Ljava/lang/String;"), (23, .class_ 223), (1, u "java/lang/StringLatin1$LinesSpliterator"), (8, .methodref 131 233), (0, .nameAndType 234 235), (0, u "copyOfRange"), (0, u "([BII)[B"), (16, u "charAt"), (137, .class_ 391), (0, u "java/lang/StringLatin1$CharsSpliterator")] 3

def k11m0 : Method := { name := "<init>", desc := "()V", sig := { parameters := [], returnType := none }, accessFlags := 0, code := none }
def k11c1 : Code := { maxStack := 2, maxLocals := 2, code := jdk_43_method_2_code, exceptionTable := #[], attributes := #[] }
def k11m1 : Method := { name := "charAt", desc := "([BI)C", sig := { parameters := [(.array .byte), .int], returnType := some .char }, accessFlags := 9, code := some k11c1 }
def k11c2 : Code := { maxStack := 2, maxLocals := 1, code := jdk_43_method_4_code, exceptionTable := #[], attributes := #[] }
def k11m2 : Method := { name := "canEncode", desc := "(I)Z", sig := { parameters := [.int], returnType := some .boolean }, accessFlags := 9, code := some k11c2 }
def k11c3 : Code := { maxStack := 4, maxLocals := 4, code := jdk_43_method_22_code, exceptionTable := #[], attributes := #[] }
def k11m3 : Method := { name := "indexOf", desc := "([BIII)I", sig := { parameters := [(.array .byte), .int, .int, .int], returnType := some .int }, accessFlags := 9, code := some k11c3 }
def k11c4 : Code := { maxStack := 2, maxLocals := 6, code := jdk_43_method_23_code, exceptionTable := #[], attributes := #[] }
def k11m4 : Method := { name := "indexOfChar", desc := "([BIII)I", sig := { parameters := [(.array .byte), .int, .int, .int], returnType := some .int }, accessFlags := 10, code := some k11c4 }
def k11c5 : Code := { maxStack := 6, maxLocals := 3, code := jdk_43_method_47_code, exceptionTable := #[], attributes := #[] }
def k11m5 : Method := { name := "newString", desc := "([BII)Ljava/lang/String;", sig := { parameters := [(.array .byte), .int, .int], returnType := some (.object "java/lang/String") }, accessFlags := 9, code := some k11c5 }
/-- java/lang/StringLatin1 -/
def k11 : Class := { plain "java/lang/StringLatin1" (some 0) with
  accessFlags := 48
  interfaces := #[]
  cf := some (fileOf pool11 14 #[.nestMembers #[390, 221]] #[{ accessFlags := 0, nameIndex := 7, descriptorIndex := 8, attributes := #[] }, { accessFlags := 9, nameIndex := 252, descriptorIndex := 53, attributes := #[] }, { accessFlags := 9, nameIndex := 90, descriptorIndex := 91, attributes := #[] }, { accessFlags := 9, nameIndex := 101, descriptorIndex := 98, attributes := #[] }, { accessFlags := 10, nameIndex := 97, descriptorIndex := 98, attributes := #[] }, { accessFlags := 9, nameIndex := 196, descriptorIndex := 197, attributes := #[] }] 48 4 #[] #[{ accessFlags := 4120, nameIndex := 121, descriptorIndex := 122, attributes := #[] }])
  fields := #[{ name := "$assertionsDisabled", type := .boolean, accessFlags := 4120, slot := 0, constantValue := 0 }]
  methods := #[k11m0, k11m1, k11m2, k11m3, k11m4, k11m5]
  instanceTypes := #[]
  staticTypes := #[.boolean]
  resolved := Array.replicate 395 none
  statics := none }

def pool12 : Array CpInfo := pool [(1, .class_ 2), (0, u "java/lang/Math"), (1, .class_ 6), (1, u "java/lang/Object"), (0, u "<init>"), (0, u "()V"), (89, .class_ 100), (1, u "java/lang/Math$RandomNumberGeneratorHolder"), (71, u "negativeZeroFloatBits"), (0, u "J"), (2, u "negativeZeroDoubleBits"), (21, u "max"), (2, u "min"), (43, u "$assertionsDisabled"), (0, u "Z"), (88, u "(II)I"), (2, u "twoToTheDoubleScaleDown"), (0, u "D"), (4, u "twoToTheDoubleScaleUp"), (9, u "E"), (3, u "PI"), (2, u "TAU"), (2, u "DEGREES_TO_RADIANS"), (0, u "RADIANS_TO_DEGREES")] 94

def k12m0 : Method := { name := "<init>", desc := "()V", sig := { parameters := [], returnType := none }, accessFlags := 2, code := none }
def k12c1 : Code := { maxStack := 2, maxLocals := 2, code := jdk_29_method_65_code, exceptionTable := #[], attributes := #[] }
def k12m1 : Method := { name := "max", desc := "(II)I", sig := { parameters := [.int, .int], returnType := some .int }, accessFlags := 9, code := some k12c1 }
def k12c2 : Code := { maxStack := 2, maxLocals := 2, code := jdk_29_method_69_code, exceptionTable := #[], attributes := #[] }
def k12m2 : Method := { name := "min", desc := "(II)I", sig := { parameters := [.int, .int], returnType := some .int }, accessFlags := 9, code := some k12c2 }
/-- java/lang/Math -/
def k12 : Class := { plain "java/lang/Math" (some 0) with
  accessFlags := 49
  interfaces := #[]
  cf := some (fileOf pool12 1 #[.nestMembers #[98]] #[{ accessFlags := 2, nameIndex := 7, descriptorIndex := 8, attributes := #[] }, { accessFlags := 9, nameIndex := 198, descriptorIndex := 335, attributes := #[] }, { accessFlags := 9, nameIndex := 201, descriptorIndex := 335, attributes := #[] }] 49 4 #[] #[{ accessFlags := 25, nameIndex := 354, descriptorIndex := 339, attributes := #[] }, { accessFlags := 25, nameIndex := 358, descriptorIndex := 339, attributes := #[] }, { accessFlags := 25, nameIndex := 361, descriptorIndex := 339, attributes := #[] }, { accessFlags := 26, nameIndex := 364, descriptorIndex := 339, attributes := #[] }, { accessFlags := 26, nameIndex := 365, descriptorIndex := 339, attributes := #[] }, { accessFlags := 26, nameIndex := 172, descriptorIndex := 173, attributes := #[] }, { accessFlags := 26, nameIndex := 176, descriptorIndex := 173, attributes := #[] }, { accessFlags := 8, nameIndex := 344, descriptorIndex := 339, attributes := #[] }, { accessFlags := 8, nameIndex := 338, descriptorIndex := 339, attributes := #[] }, { accessFlags := 4120, nameIndex := 245, descriptorIndex := 246, attributes := #[] }])
  fields := #[{ name := "E", type := .double, accessFlags := 25, slot := 0, constantValue := 0 }, { name := "PI", type := .double, accessFlags := 25, slot := 1, constantValue := 0 }, { name := "TAU", type := .double, accessFlags := 25, slot := 2, constantValue := 0 }, { name := "DEGREES_TO_RADIANS", type := .double, accessFlags := 26, slot := 3, constantValue := 0 }, { name := "RADIANS_TO_DEGREES", type := .double, accessFlags := 26, slot := 4, constantValue := 0 }, { name := "negativeZeroFloatBits", type := .long, accessFlags := 26, slot := 5, constantValue := 0 }, { name := "negativeZeroDoubleBits", type := .long, accessFlags := 26, slot := 6, constantValue := 0 }, { name := "twoToTheDoubleScaleUp", type := .double, accessFlags := 8, slot := 7, constantValue := 0 }, { name := "twoToTheDoubleScaleDown", type := .double, accessFlags := 8, slot := 8, constantValue := 0 }, { name := "$assertionsDisabled", type := .boolean, accessFlags := 4120, slot := 9, constantValue := 0 }]
  methods := #[k12m0, k12m1, k12m2]
  instanceTypes := #[]
  staticTypes := #[.double, .double, .double, .double, .double, .long, .long, .double, .double, .boolean]
  resolved := Array.replicate 460 none
  statics := none }

def pool13 : Array CpInfo := pool [(2, .class_ 4), (1, u "java/lang/Object"), (0, u "<init>"), (0, u "()V"), (17, .class_ 26), (1, u "jdk/internal/util/Preconditions"), (6, u "checkIndex"), (13, u "checkFromToIndex"), (7, .class_ 56), (0, u "jdk/internal/util/Preconditions$4"), (57, .class_ 115), (0, u "jdk/internal/util/Preconditions$1"), (7, u "SIOOBE_FORMATTER"), (0, u "Ljava/util/function/BiFunction;"), (0, .class_ 126), (0, u "jdk/internal/util/Preconditions$2"), (3, u "AIOOBE_FORMATTER"), (0, .class_ 132), (0, u "jdk/internal/util/Preconditions$3"), (3, u "IOOBE_FORMATTER"), (41, u "(IILjava/util/function/BiFunction;)I"), (4, u "(IIILjava/util/function/BiFunction;)I")] 10

def k13m0 : Method := { name := "<init>", desc := "()V", sig := { parameters := [], returnType := none }, accessFlags := 1, code := none }
def k13c1 : Code := { maxStack := 3, maxLocals := 3, code := jdk_41_method_11_code, exceptionTable := #[], attributes := #[] }
def k13m1 : Method := { name := "checkIndex", desc := "(IILjava/util/function/BiFunction;)I", sig := { parameters := [.int, .int, (.object "java/util/function/BiFunction")], returnType := some .int }, accessFlags := 9, code := some k13c1 }
def k13c2 : Code := { maxStack := 4, maxLocals := 4, code := jdk_41_method_12_code, exceptionTable := #[], attributes := #[] }
def k13m2 : Method := { name := "checkFromToIndex", desc := "(IIILjava/util/function/BiFunction;)I", sig := { parameters := [.int, .int, .int, (.object "java/util/function/BiFunction")], returnType := some .int }, accessFlags := 9, code := some k13c2 }
/-- jdk/internal/util/Preconditions -/
def k13 : Class := { plain "jdk/internal/util/Preconditions" (some 0) with
  accessFlags := 33
  interfaces := #[]
  cf := some (fileOf pool13 24 #[.nestMembers #[55, 131, 125, 114]] #[{ accessFlags := 1, nameIndex := 5, descriptorIndex := 6, attributes := #[] }, { accessFlags := 9, nameIndex := 33, descriptorIndex := 178, attributes := #[] }, { accessFlags := 9, nameIndex := 47, descriptorIndex := 183, attributes := #[] }] 33 2 #[] #[{ accessFlags := 25, nameIndex := 123, descriptorIndex := 124, attributes := #[] }, { accessFlags := 25, nameIndex := 130, descriptorIndex := 124, attributes := #[] }, { accessFlags := 25, nameIndex := 136, descriptorIndex := 124, attributes := #[] }])
  fields := #[{ name := "SIOOBE_FORMATTER", type := (.object "java/util/function/BiFunction"), accessFlags := 25, slot := 0, constantValue := 0 }, { name := "AIOOBE_FORMATTER", type := (.object "java/util/function/BiFunction"), accessFlags := 25, slot := 1, constantValue := 0 }, { name := "IOOBE_FORMATTER", type := (.object "java/util/function/BiFunction"), accessFlags := 25, slot := 2, constantValue := 0 }]
  methods := #[k13m0, k13m1, k13m2]
  instanceTypes := #[]
  staticTypes := #[(.object "java/util/function/BiFunction"), (.object "java/util/function/BiFunction"), (.object "java/util/function/BiFunction")]
  resolved := Array.replicate 194 none
  statics := some 1 }

def pool14 : Array CpInfo := pool [(2, .class_ 4), (1, u "java/lang/Object"), (0, u "<init>"), (0, u "()V"), (7, .class_ 16), (1, u "java/util/Arrays"), (57, .class_ 76), (1, u "java/util/Arrays$NaturalOrder"), (36, .class_ 115), (1, u "java/util/Arrays$LegacyMergeSort"), (1, u "Z"), (21, u "copyOfRange"), (10, .methodref 151 152), (0, .class_ 153), (0, .nameAndType 154 155), (0, u "java/lang/System"), (0, u "arraycopy"), (0, u "(Ljava/lang/Object;ILjava/lang/Object;II)V"), (148, .methodref 305 306), (0, .class_ 307), (0, .nameAndType 308 309), (0, u "java/lang/Math"), (0, u "min"), (0, u "(II)I"), (29, .methodref 14 340), (0, .nameAndType 341 342), (0, u "copyOfRangeByte"), (0, u "([BII)[B"), (0, .methodref 14 344), (0, .nameAndType 345 346), (0, u "checkLength"), (0, u "(II)V"), (28, .class_ 376), (0, u "java/util/Arrays$ArrayList"), (68, u "$assertionsDisabled"), (269, u "MIN_ARRAY_SORT_GRAN"), (0, u "I"), (2, u "INSERTIONSORT_THRESHOLD"), (255, .class_ 976), (0, u "java/util/Arrays$ArrayItr")] 52

def k14m0 : Method := { name := "<init>", desc := "()V", sig := { parameters := [], returnType := none }, accessFlags := 2, code := none }
def k14c1 : Code := { maxStack := 4, maxLocals := 2, code := jdk_65_method_131_code, exceptionTable := #[], attributes := #[] }
def k14m1 : Method := { name := "checkLength", desc := "(II)V", sig := { parameters := [.int, .int], returnType := none }, accessFlags := 10, code := some k14c1 }
def k14c2 : Code := { maxStack := 3, maxLocals := 3, code := jdk_65_method_132_code, exceptionTable := #[], attributes := #[] }
def k14m2 : Method := { name := "copyOfRange", desc := "([BII)[B", sig := { parameters := [(.array .byte), .int, .int], returnType := some (.array .byte) }, accessFlags := 9, code := some k14c2 }
def k14c3 : Code := { maxStack := 6, maxLocals := 5, code := jdk_65_method_133_code, exceptionTable := #[], attributes := #[] }
def k14m3 : Method := { name := "copyOfRangeByte", desc := "([BII)[B", sig := { parameters := [(.array .byte), .int, .int], returnType := some (.array .byte) }, accessFlags := 10, code := some k14c3 }
/-- java/util/Arrays -/
def k14 : Class := { plain "java/util/Arrays" (some 0) with
  accessFlags := 49
  interfaces := #[]
  cf := some (fileOf pool14 14 #[.nestMembers #[975, 375, 113, 74]] #[{ accessFlags := 2, nameIndex := 5, descriptorIndex := 6, attributes := #[] }, { accessFlags := 10, nameIndex := 345, descriptorIndex := 346, attributes := #[] }, { accessFlags := 9, nameIndex := 139, descriptorIndex := 342, attributes := #[] }, { accessFlags := 10, nameIndex := 341, descriptorIndex := 342, attributes := #[] }] 49 2 #[] #[{ accessFlags := 26, nameIndex := 715, descriptorIndex := 716, attributes := #[] }, { accessFlags := 26, nameIndex := 719, descriptorIndex := 716, attributes := #[] }, { accessFlags := 4120, nameIndex := 445, descriptorIndex := 117, attributes := #[] }])
  fields := #[{ name := "MIN_ARRAY_SORT_GRAN", type := .int, accessFlags := 26, slot := 0, constantValue := 0 }, { name := "INSERTIONSORT_THRESHOLD", type := .int, accessFlags := 26, slot := 1, constantValue := 0 }, { name := "$assertionsDisabled", type := .boolean, accessFlags := 4120, slot := 2, constantValue := 0 }]
  methods := #[k14m0, k14m1, k14m2, k14m3]
  instanceTypes := #[]
  staticTypes := #[.int, .int, .boolean]
  resolved := Array.replicate 1029 none
  statics := none }

def pool15 : Array CpInfo := pool [(2, .class_ 4), (1, u "java/lang/Object"), (0, u "<init>"), (0, u "()V"), (1, .class_ 10), (1, u "java/lang/System"), (0, u "allowSecurityManager"), (0, u "I"), (16, u "cons"), (0, u "Ljava/io/Console;"), (77, .class_ 110), (1, u "java/lang/System$CallersHolder"), (43, u "initialErrStream"), (0, u "Ljava/io/PrintStream;"), (19, u "security"), (0, u "Ljava/lang/SecurityManager;"), (31, .class_ 209), (0, u "java/lang/System$1"), (7, u "props"), (0, u "Ljava/util/Properties;"), (2, u "lineSeparator"), (0, u "Ljava/lang/String;"), (96, .class_ 321), (1, u "java/lang/System$LoggerFinder"), (5, .class_ 328), (0, u "java/lang/System$Logger"), (67, u "err"), (2, u "out"), (91, u "notSupportedJnuEncoding"), (15, u "in"), (17, u "initialIn"), (0, u "Ljava/io/InputStream;"), (35, u "bootLayer"), (0, u "Ljava/lang/ModuleLayer;"), (99, .class_ 664), (0, u "java/lang/System$2"), (9, u "NEVER"), (2, u "MAYBE"), (49, u "arraycopy"), (0, u "(Ljava/lang/Object;ILjava/lang/Object;II)V"), (72, .class_ 802), (0, u "java/lang/System$Logger$Level")] 31

def k15m0 : Method := { name := "<init>", desc := "()V", sig := { parameters := [], returnType := none }, accessFlags := 2, code := none }
def k15m1 : Method := { name := "arraycopy", desc := "(Ljava/lang/Object;ILjava/lang/Object;II)V", sig := { parameters := [(.object "java/lang/Object"), .int, (.object "java/lang/Object"), .int, .int], returnType := none }, accessFlags := 265, code := none }
/-- java/lang/System -/
def k15 : Class := { plain "java/lang/System" (some 0) with
  accessFlags := 49
  interfaces := #[]
  cf := some (fileOf pool15 8 #[.nestMembers #[319, 327, 801, 108, 663, 208]] #[{ accessFlags := 2, nameIndex := 5, descriptorIndex := 6, attributes := #[] }, { accessFlags := 265, nameIndex := 727, descriptorIndex := 728, attributes := #[] }] 49 2 #[] #[{ accessFlags := 25, nameIndex := 507, descriptorIndex := 526, attributes := #[] }, { accessFlags := 25, nameIndex := 399, descriptorIndex := 155, attributes := #[] }, { accessFlags := 25, nameIndex := 396, descriptorIndex := 155, attributes := #[] }, { accessFlags := 10, nameIndex := 525, descriptorIndex := 526, attributes := #[] }, { accessFlags := 26, nameIndex := 674, descriptorIndex := 12, attributes := #[] }, { accessFlags := 26, nameIndex := 677, descriptorIndex := 12, attributes := #[] }, { accessFlags := 10, nameIndex := 11, descriptorIndex := 12, attributes := #[] }, { accessFlags := 74, nameIndex := 175, descriptorIndex := 176, attributes := #[] }, { accessFlags := 10, nameIndex := 491, descriptorIndex := 222, attributes := #[] }, { accessFlags := 74, nameIndex := 29, descriptorIndex := 30, attributes := #[] }, { accessFlags := 74, nameIndex := 154, descriptorIndex := 155, attributes := #[] }, { accessFlags := 10, nameIndex := 217, descriptorIndex := 218, attributes := #[] }, { accessFlags := 10, nameIndex := 221, descriptorIndex := 222, attributes := #[] }, { accessFlags := 8, nameIndex := 562, descriptorIndex := 563, attributes := #[] }])
  fields := #[{ name := "in", type := (.object "java/io/InputStream"), accessFlags := 25, slot := 0, constantValue := 0 }, { name := "out", type := (.object "java/io/PrintStream"), accessFlags := 25, slot := 1, constantValue := 0 }, { name := "err", type := (.object "java/io/PrintStream"), accessFlags := 25, slot := 2, constantValue := 0 }, { name := "initialIn", type := (.object "java/io/InputStream"), accessFlags := 10, slot := 3, constantValue := 0 }, { name := "NEVER", type := .int, accessFlags := 26, slot := 4, constantValue := 0 }, { name := "MAYBE", type := .int, accessFlags := 26, slot := 5, constantValue := 0 }, { name := "allowSecurityManager", type := .int, accessFlags := 10, slot := 6, constantValue := 0 }, { name := "security", type := (.object "java/lang/SecurityManager"), accessFlags := 74, slot := 7, constantValue := 0 }, { name := "notSupportedJnuEncoding", type := (.object "java/lang/String"), accessFlags := 10, slot := 8, constantValue := 0 }, { name := "cons", type := (.object "java/io/Console"), accessFlags := 74, slot := 9, constantValue := 0 }, { name := "initialErrStream", type := (.object "java/io/PrintStream"), accessFlags := 74, slot := 10, constantValue := 0 }, { name := "props", type := (.object "java/util/Properties"), accessFlags := 10, slot := 11, constantValue := 0 }, { name := "lineSeparator", type := (.object "java/lang/String"), accessFlags := 10, slot := 12, constantValue := 0 }, { name := "bootLayer", type := (.object "java/lang/ModuleLayer"), accessFlags := 8, slot := 13, constantValue := 0 }]
  methods := #[k15m0, k15m1]
  instanceTypes := #[]
  staticTypes := #[(.object "java/io/InputStream"), (.object "java/io/PrintStream"), (.object "java/io/PrintStream"), (.object "java/io/InputStream"), .int, .int, .int, (.object "java/lang/SecurityManager"), (.object "java/lang/String"), (.object "java/io/Console"), (.object "java/io/PrintStream"), (.object "java/util/Properties"), (.object "java/lang/String"), (.object "java/lang/ModuleLayer")]
  resolved := Array.replicate 834 none
  statics := none }

def pool16 : Array CpInfo := pool [(9, u "<init>"), (6, .class_ 18), (1, u "java/lang/Object"), (0, u "()V"), (1, .class_ 23), (1, u "jdk/internal/util/ArraysSupport"), (0, u "LOG2_ARRAY_LONG_INDEX_SCALE"), (0, u "I"), (2, u "U"), (0, u "Ljdk/internal/misc/Unsafe;"), (8, u "BIG_ENDIAN"), (0, u "Z"), (8, u "LOG2_BYTE_BIT_SIZE"), (4, u "LOG2_ARRAY_INT_INDEX_SCALE"), (54, u "JLA"), (0, u "Ljdk/internal/access/JavaLangAccess;"), (11, u "LOG2_ARRAY_BOOLEAN_INDEX_SCALE"), (9, u "LOG2_ARRAY_BYTE_INDEX_SCALE"), (5, u "LOG2_ARRAY_CHAR_INDEX_SCALE"), (5, u "LOG2_ARRAY_SHORT_INDEX_SCALE"), (18, u "LOG2_ARRAY_FLOAT_INDEX_SCALE"), (24, u "LOG2_ARRAY_DOUBLE_INDEX_SCALE"), (89, u "T_BOOLEAN"), (2, u "T_CHAR"), (1, u "T_FLOAT"), (1, u "T_DOUBLE"), (1, u "T_BYTE"), (1, u "T_SHORT"), (1, u "T_INT"), (1, u "T_LONG"), (1, u "SOFT_MAX_ARRAY_LENGTH")] 83

def k16m0 : Method := { name := "<init>", desc := "()V", sig := { parameters := [], returnType := none }, accessFlags := 2, code := none }
/-- jdk/internal/util/ArraysSupport -/
def k16 : Class := { plain "jdk/internal/util/ArraysSupport" (some 0) with
  accessFlags := 33
  interfaces := #[]
  cf := some (fileOf pool16 21 #[] #[{ accessFlags := 2, nameIndex := 9, descriptorIndex := 19, attributes := #[] }] 33 16 #[] #[{ accessFlags := 24, nameIndex := 28, descriptorIndex := 29, attributes := #[] }, { accessFlags := 26, nameIndex := 38, descriptorIndex := 39, attributes := #[] }, { accessFlags := 25, nameIndex := 121, descriptorIndex := 25, attributes := #[] }, { accessFlags := 25, nameIndex := 131, descriptorIndex := 25, attributes := #[] }, { accessFlags := 25, nameIndex := 137, descriptorIndex := 25, attributes := #[] }, { accessFlags := 25, nameIndex := 143, descriptorIndex := 25, attributes := #[] }, { accessFlags := 25, nameIndex := 53, descriptorIndex := 25, attributes := #[] }, { accessFlags := 25, nameIndex := 24, descriptorIndex := 25, attributes := #[] }, { accessFlags := 25, nameIndex := 162, descriptorIndex := 25, attributes := #[] }, { accessFlags := 25, nameIndex := 187, descriptorIndex := 25, attributes := #[] }, { accessFlags := 26, nameIndex := 48, descriptorIndex := 25, attributes := #[] }, { accessFlags := 25, nameIndex := 277, descriptorIndex := 25, attributes := #[] }, { accessFlags := 25, nameIndex := 280, descriptorIndex := 25, attributes := #[] }, { accessFlags := 25, nameIndex := 282, descriptorIndex := 25, attributes := #[] }, { accessFlags := 25, nameIndex := 284, descriptorIndex := 25, attributes := #[] }, { accessFlags := 25, nameIndex := 286, descriptorIndex := 25, attributes := #[] }, { accessFlags := 25, nameIndex := 288, descriptorIndex := 25, attributes := #[] }, { accessFlags := 25, nameIndex := 290, descriptorIndex := 25, attributes := #[] }, { accessFlags := 25, nameIndex := 292, descriptorIndex := 25, attributes := #[] }, { accessFlags := 26, nameIndex := 108, descriptorIndex := 109, attributes := #[] }, { accessFlags := 25, nameIndex := 294, descriptorIndex := 25, attributes := #[] }])
  fields := #[{ name := "U", type := (.object "jdk/internal/misc/Unsafe"), accessFlags := 24, slot := 0, constantValue := 0 }, { name := "BIG_ENDIAN", type := .boolean, accessFlags := 26, slot := 1, constantValue := 0 }, { name := "LOG2_ARRAY_BOOLEAN_INDEX_SCALE", type := .int, accessFlags := 25, slot := 2, constantValue := 0 }, { name := "LOG2_ARRAY_BYTE_INDEX_SCALE", type := .int, accessFlags := 25, slot := 3, constantValue := 0 }, { name := "LOG2_ARRAY_CHAR_INDEX_SCALE", type := .int, accessFlags := 25, slot := 4, constantValue := 0 }, { name := "LOG2_ARRAY_SHORT_INDEX_SCALE", type := .int, accessFlags := 25, slot := 5, constantValue := 0 }, { name := "LOG2_ARRAY_INT_INDEX_SCALE", type := .int, accessFlags := 25, slot := 6, constantValue := 0 }, { name := "LOG2_ARRAY_LONG_INDEX_SCALE", type := .int, accessFlags := 25, slot := 7, constantValue := 0 }, { name := "LOG2_ARRAY_FLOAT_INDEX_SCALE", type := .int, accessFlags := 25, slot := 8, constantValue := 0 }, { name := "LOG2_ARRAY_DOUBLE_INDEX_SCALE", type := .int, accessFlags := 25, slot := 9, constantValue := 0 }, { name := "LOG2_BYTE_BIT_SIZE", type := .int, accessFlags := 26, slot := 10, constantValue := 0 }, { name := "T_BOOLEAN", type := .int, accessFlags := 25, slot := 11, constantValue := 0 }, { name := "T_CHAR", type := .int, accessFlags := 25, slot := 12, constantValue := 0 }, { name := "T_FLOAT", type := .int, accessFlags := 25, slot := 13, constantValue := 0 }, { name := "T_DOUBLE", type := .int, accessFlags := 25, slot := 14, constantValue := 0 }, { name := "T_BYTE", type := .int, accessFlags := 25, slot := 15, constantValue := 0 }, { name := "T_SHORT", type := .int, accessFlags := 25, slot := 16, constantValue := 0 }, { name := "T_INT", type := .int, accessFlags := 25, slot := 17, constantValue := 0 }, { name := "T_LONG", type := .int, accessFlags := 25, slot := 18, constantValue := 0 }, { name := "JLA", type := (.object "jdk/internal/access/JavaLangAccess"), accessFlags := 26, slot := 19, constantValue := 0 }, { name := "SOFT_MAX_ARRAY_LENGTH", type := .int, accessFlags := 25, slot := 20, constantValue := 0 }]
  methods := #[k16m0]
  instanceTypes := #[]
  staticTypes := #[(.object "jdk/internal/misc/Unsafe"), .boolean, .int, .int, .int, .int, .int, .int, .int, .int, .int, .int, .int, .int, .int, .int, .int, .int, .int, (.object "jdk/internal/access/JavaLangAccess"), .int]
  resolved := Array.replicate 378 none
  statics := none }

def pool17 : Array CpInfo := pool [(1, u "java/lang/Cloneable"), (0, .class_ 1), (0, u "java/lang/Object"), (0, .class_ 3)] 3

/-- java/lang/Cloneable -/
def k17 : Class := { plain "java/lang/Cloneable" (some 0) with
  accessFlags := 1537
  interfaces := #[]
  cf := some (fileOf pool17 2 #[] #[] 1537 4 #[] #[])
  fields := #[]
  methods := #[]
  instanceTypes := #[]
  staticTypes := #[]
  resolved := Array.replicate 8 none
  statics := none }

/-- the primitive byte -/
def k18 : Class := { plain "byte" none with kind := .primitive 'B', accessFlags := 0x411 }
/-- [B -/
def k19 : Class := { plain "[B" (some 0) with kind := .array 18 .byte, interfaces := #[17, 2], accessFlags := 1041 }

/-- the primitive char -/
def k20 : Class := { plain "char" none with kind := .primitive 'C', accessFlags := 0x411 }
/-- [C -/
def k21 : Class := { plain "[C" (some 0) with kind := .array 20 .char, interfaces := #[17, 2], accessFlags := 1041 }

/-- the primitive int -/
def k22 : Class := { plain "int" none with kind := .primitive 'I', accessFlags := 0x411 }
/-- [I -/
def k23 : Class := { plain "[I" (some 0) with kind := .array 22 .int, interfaces := #[17, 2], accessFlags := 1041 }

def heap : Heap := #[{ cls := 7, slots := #[.long 0, .int 1, .null, .int 0, .null, .int 0, .int 0], vm := .statics 7 },
  { cls := 13, slots := #[.null, .null, .null], vm := .statics 13 }]
def classes : Array Class := #[k0, k1, k2, k3, k4, k5, k6, k7, k8, k9, k10, k11, k12, k13, k14, k15, k16, k17, k18, k19, k20, k21, k22, k23]
def interned : List (Array UInt16 × Addr) := []
def slotsUsed : Nat := 10
def theMethod : MethodId := ⟨1, 5⟩
def args0 : Array Value := #[.int 3, .int 65, .int 66, .int 300, .int 900]
def aboutOver (below : List Frame) : State where
  vm := { classes := classes, interned := interned.toArray }
  heap := heap
  slotsUsed := slotsUsed
  threads := #[{ frames := .invoking theMethod args0 :: below }]
def below0 : List Frame := [.native { method := ⟨0, 0⟩, args := #[] }]
def about1 : State := aboutOver below0
def p0 : Program := .bare "" "" ""
def e0 : Env := launch0.env 0 0 0
theorem w_frames : about1.frames = Frame.invoking theMethod args0 :: below0 := rfl
set_option maxRecDepth 65536 in
theorem w_args : argsFit about1.vm theMethod args0 = true := by decide +kernel
set_option maxRecDepth 65536 in
theorem w_heap : heapFits about1 = true := by decide +kernel
set_option maxRecDepth 65536 in
theorem w_runnable : about1.curStatus? = some .runnable := by decide +kernel
set_option maxRecDepth 65536 in
theorem w_alone : about1.alone = true := by decide +kernel
set_option maxRecDepth 65536 in
theorem w_named : about1.methodNamed? x = some theMethod := by decide +kernel
set_option maxRecDepth 65536 in
theorem w_hears : about1.hears theMethod below0 = true := by decide +kernel
set_option maxRecDepth 65536 in
theorem w_ripe : about1.ripe theMethod args0 below0 = true := by decide +kernel
theorem w_running : about1.status = .running := rfl
set_option maxRecDepth 65536 in
theorem w_room : about1.hasRoom e0.platform room_1 = true :=
  launch0.hasRoom_least _ room_1 (by decide +kernel) (by decide +kernel) (by decide +kernel) (by decide +kernel) (by decide +kernel) (by decide +kernel)
theorem allAtoms_all (ts : List Jvm.Cond) (a : Array Jvm.Value) (st : Jvm.State) : (allAtoms ts).before a st = ts.all (fun c => c.before a st) := by
  induction ts with
  | nil => rfl
  | cons c t ih =>
    show (Jvm.Cond.and c (allAtoms t)).before a st = _
    rw [Jvm.Cond.before_and, ih, List.all_cons]
def words1 : List Jvm.Cond := Jvm.Cond.code x code maxLocals ret :: tables_1
/-- a 'code' word, met by the world's own term for the bytes: nothing is compared byte by byte -/
theorem code_word {y : MethodName} {bytes : ByteArray} {mx : Nat} {rt : Option FieldType} {a : Array Value} {s : State} {m : MethodId} {meth : Method} {c : Code} (h1 : s.methodNamed? y = some m) (h2 : s.vm.method? m = some meth) (h3 : meth.code = some c) (h4 : c.code = bytes)
    (h5 : (c.maxLocals == mx && c.exceptionTable.isEmpty && decide (c.maxStack ≤ mostOperands) && decide (meth.sig.returnType = rt) && !meth.locks && decide (parseMethodDescriptor y.desc = some meth.sig)) = true) : (Jvm.Cond.code y bytes mx rt).before a s = true := by
  simp only [Bool.and_eq_true, beq_iff_eq, Bool.not_eq_true', decide_eq_true_eq] at h5
  obtain ⟨⟨⟨⟨⟨g1, g2⟩, g3⟩, g4⟩, g5⟩, g6⟩ := h5
  simp [Cond.before, Cond.holds, Cond.value, h1, h2, h3, h4, g1, g2, g3, g4, g5, g6]
def isCode : Jvm.Cond → Bool
  | .code _ _ _ _ => true
  | _ => false
theorem all_split {L : List Jvm.Cond} {P : Jvm.Cond → Bool} (h1 : L.all (fun c => isCode c || P c) = true) (h2 : ∀ c ∈ L.filter isCode, P c = true) : L.all P = true := by
  refine List.all_eq_true.mpr fun c hc => ?_
  have h := List.all_eq_true.mp h1 c hc
  rcases Bool.eq_false_or_eq_true (isCode c) with hi | hi
  · exact h2 c (List.mem_filter.mpr ⟨hc, hi⟩)
  · simpa [hi] using h
set_option maxRecDepth 65536 in
theorem w_c0 : (Jvm.Cond.code x code maxLocals ret).before args0 about1 = true := code_word (m := ⟨1, 5⟩) (meth := k1m5) (c := k1c5) (by decide +kernel) rfl rfl rfl (by decide +kernel)
set_option maxRecDepth 65536 in
theorem w_c1 : (Jvm.Cond.code ({ cls := "com/example/cluster_lock/clusterlock/redis/LockKeysHashTagPinLaw", name := "ch", desc := "(I)C" } : Jvm.MethodName) method_2_code (2 : Nat) (Option.some Jvm.ClassFile.FieldType.char)).before args0 about1 = true := code_word (m := ⟨1, 1⟩) (meth := k1m1) (c := k1c1) (by decide +kernel) rfl rfl rfl (by decide +kernel)
set_option maxRecDepth 65536 in
theorem w_c2 : (Jvm.Cond.code ({ cls := "com/example/cluster_lock/clusterlock/redis/LockKeysHashTagPinLaw", name := "make", desc := "(ICCCC)Ljava/lang/String;" } : Jvm.MethodName) method_3_code (5 : Nat) (Option.some (Jvm.ClassFile.FieldType.object "java/lang/String"))).before args0 about1 = true := code_word (m := ⟨1, 2⟩) (meth := k1m2) (c := k1c2) (by decide +kernel) rfl rfl rfl (by decide +kernel)
set_option maxRecDepth 65536 in
theorem w_c3 : (Jvm.Cond.code ({ cls := "java/lang/String", name := "<init>", desc := "([C)V" } : Jvm.MethodName) jdk_42_method_3_code (2 : Nat) (Option.none : Option Jvm.ClassFile.FieldType)).before args0 about1 = true := code_word (m := ⟨7, 1⟩) (meth := k7m1) (c := k7c1) (by decide +kernel) rfl rfl rfl (by decide +kernel)
set_option maxRecDepth 65536 in
theorem w_c4 : (Jvm.Cond.code ({ cls := "java/lang/String", name := "<init>", desc := "([CIILjava/lang/Void;)V" } : Jvm.MethodName) jdk_42_method_149_code (6 : Nat) (Option.none : Option Jvm.ClassFile.FieldType)).before args0 about1 = true := code_word (m := ⟨7, 8⟩) (meth := k7m8) (c := k7c8) (by decide +kernel) rfl rfl rfl (by decide +kernel)
set_option maxRecDepth 65536 in
theorem w_c5 : (Jvm.Cond.code ({ cls := "java/lang/Object", name := "<init>", desc := "()V" } : Jvm.MethodName) object_method_1_code (1 : Nat) (Option.none : Option Jvm.ClassFile.FieldType)).before args0 about1 = true := code_word (m := ⟨0, 0⟩) (meth := k0m0) (c := k0c0) (by decide +kernel) rfl rfl rfl (by decide +kernel)
set_option maxRecDepth 65536 in
theorem w_c6 : (Jvm.Cond.code ({ cls := "java/lang/StringUTF16", name := "compress", desc := "([CII)[B" } : Jvm.MethodName) jdk_52_method_16_code (6 : Nat) (Option.some (Jvm.ClassFile.FieldType.array Jvm.ClassFile.FieldType.byte))).before args0 about1 = true := code_word (m := ⟨8, 2⟩) (meth := k8m2) (c := k8c2) (by decide +kernel) rfl rfl rfl (by decide +kernel)
set_option maxRecDepth 65536 in
theorem w_c7 : (Jvm.Cond.code ({ cls := "java/lang/StringUTF16", name := "compress", desc := "([CI[BII)I" } : Jvm.MethodName) jdk_52_method_21_code (7 : Nat) (Option.some Jvm.ClassFile.FieldType.int)).before args0 about1 = true := code_word (m := ⟨8, 3⟩) (meth := k8m3) (c := k8c3) (by decide +kernel) rfl rfl rfl (by decide +kernel)
set_option maxRecDepth 65536 in
theorem w_c8 : (Jvm.Cond.code ({ cls := "java/lang/StringUTF16", name := "coderFromArrayLen", desc := "([BI)B" } : Jvm.MethodName) jdk_52_method_15_code (2 : Nat) (Option.some Jvm.ClassFile.FieldType.byte)).before args0 about1 = true := code_word (m := ⟨8, 1⟩) (meth := k8m1) (c := k8c1) (by decide +kernel) rfl rfl rfl (by decide +kernel)
set_option maxRecDepth 65536 in
theorem w_c9 : (Jvm.Cond.code ({ cls := "com/example/cluster_lock/clusterlock/redis/LockKeysHashTagPinLaw", name := "is", desc := "(IICCCCC)Z" } : Jvm.MethodName) method_5_code (7 : Nat) (Option.some Jvm.ClassFile.FieldType.boolean)).before args0 about1 = true := code_word (m := ⟨1, 4⟩) (meth := k1m4) (c := k1c4) (by decide +kernel) rfl rfl rfl (by decide +kernel)
set_option maxRecDepth 65536 in
theorem w_c10 : (Jvm.Cond.code ({ cls := "com/example/cluster_lock/clusterlock/redis/LockKeysHashTagPinLaw", name := "at", desc := "(ICCCC)C" } : Jvm.MethodName) method_4_code (5 : Nat) (Option.some Jvm.ClassFile.FieldType.char)).before args0 about1 = true := code_word (m := ⟨1, 3⟩) (meth := k1m3) (c := k1c3) (by decide +kernel) rfl rfl rfl (by decide +kernel)
set_option maxRecDepth 65536 in
theorem w_c11 : (Jvm.Cond.code ({ cls := "com/example/cluster_lock/clusterlock/redis/LockKeys", name := "hashTag", desc := "(Ljava/lang/String;)Ljava/lang/String;" } : Jvm.MethodName) prog_6_method_2_code (4 : Nat) (Option.some (Jvm.ClassFile.FieldType.object "java/lang/String"))).before args0 about1 = true := code_word (m := ⟨9, 1⟩) (meth := k9m1) (c := k9c1) (by decide +kernel) rfl rfl rfl (by decide +kernel)
set_option maxRecDepth 65536 in
theorem w_c12 : (Jvm.Cond.code ({ cls := "com/example/cluster_lock/clusterlock/redis/LockKeys", name := "checkLockName", desc := "(Ljava/lang/String;)V" } : Jvm.MethodName) prog_6_method_9_code (1 : Nat) (Option.none : Option Jvm.ClassFile.FieldType)).before args0 about1 = true := code_word (m := ⟨9, 2⟩) (meth := k9m2) (c := k9c2) (by decide +kernel) rfl rfl rfl (by decide +kernel)
set_option maxRecDepth 65536 in
theorem w_c13 : (Jvm.Cond.code ({ cls := "java/util/Objects", name := "requireNonNull", desc := "(Ljava/lang/Object;Ljava/lang/String;)Ljava/lang/Object;" } : Jvm.MethodName) jdk_31_method_11_code (2 : Nat) (Option.some (Jvm.ClassFile.FieldType.object "java/lang/Object"))).before args0 about1 = true := code_word (m := ⟨10, 1⟩) (meth := k10m1) (c := k10c1) (by decide +kernel) rfl rfl rfl (by decide +kernel)
set_option maxRecDepth 65536 in
theorem w_c14 : (Jvm.Cond.code ({ cls := "java/lang/String", name := "isEmpty", desc := "()Z" } : Jvm.MethodName) jdk_42_method_55_code (1 : Nat) (Option.some Jvm.ClassFile.FieldType.boolean)).before args0 about1 = true := code_word (m := ⟨7, 3⟩) (meth := k7m3) (c := k7c3) (by decide +kernel) rfl rfl rfl (by decide +kernel)
set_option maxRecDepth 65536 in
theorem w_c15 : (Jvm.Cond.code ({ cls := "java/lang/String", name := "indexOf", desc := "(I)I" } : Jvm.MethodName) jdk_42_method_79_code (2 : Nat) (Option.some Jvm.ClassFile.FieldType.int)).before args0 about1 = true := code_word (m := ⟨7, 5⟩) (meth := k7m5) (c := k7c5) (by decide +kernel) rfl rfl rfl (by decide +kernel)
set_option maxRecDepth 65536 in
theorem w_c16 : (Jvm.Cond.code ({ cls := "java/lang/String", name := "indexOf", desc := "(II)I" } : Jvm.MethodName) jdk_42_method_80_code (3 : Nat) (Option.some Jvm.ClassFile.FieldType.int)).before args0 about1 = true := code_word (m := ⟨7, 6⟩) (meth := k7m6) (c := k7c6) (by decide +kernel) rfl rfl rfl (by decide +kernel)
set_option maxRecDepth 65536 in
theorem w_c17 : (Jvm.Cond.code ({ cls := "java/lang/String", name := "isLatin1", desc := "()Z" } : Jvm.MethodName) jdk_42_method_154_code (1 : Nat) (Option.some Jvm.ClassFile.FieldType.boolean)).before args0 about1 = true := code_word (m := ⟨7, 11⟩) (meth := k7m11) (c := k7c11) (by decide +kernel) rfl rfl rfl (by decide +kernel)
set_option maxRecDepth 65536 in
theorem w_c18 : (Jvm.Cond.code ({ cls := "java/lang/String", name := "length", desc := "()I" } : Jvm.MethodName) jdk_42_method_54_code (1 : Nat) (Option.some Jvm.ClassFile.FieldType.int)).before args0 about1 = true := code_word (m := ⟨7, 2⟩) (meth := k7m2) (c := k7c2) (by decide +kernel) rfl rfl rfl (by decide +kernel)
set_option maxRecDepth 65536 in
theorem w_c19 : (Jvm.Cond.code ({ cls := "java/lang/String", name := "coder", desc := "()B" } : Jvm.MethodName) jdk_42_method_152_code (1 : Nat) (Option.some Jvm.ClassFile.FieldType.byte)).before args0 about1 = true := code_word (m := ⟨7, 10⟩) (meth := k7m10) (c := k7c10) (by decide +kernel) rfl rfl rfl (by decide +kernel)
set_option maxRecDepth 65536 in
theorem w_c20 : (Jvm.Cond.code ({ cls := "java/lang/StringLatin1", name := "indexOf", desc := "([BIII)I" } : Jvm.MethodName) jdk_43_method_22_code (4 : Nat) (Option.some Jvm.ClassFile.FieldType.int)).before args0 about1 = true := code_word (m := ⟨11, 3⟩) (meth := k11m3) (c := k11c3) (by decide +kernel) rfl rfl rfl (by decide +kernel)
set_option maxRecDepth 65536 in
theorem w_c21 : (Jvm.Cond.code ({ cls := "java/lang/StringLatin1", name := "canEncode", desc := "(I)Z" } : Jvm.MethodName) jdk_43_method_4_code (1 : Nat) (Option.some Jvm.ClassFile.FieldType.boolean)).before args0 about1 = true := code_word (m := ⟨11, 2⟩) (meth := k11m2) (c := k11c2) (by decide +kernel) rfl rfl rfl (by decide +kernel)
set_option maxRecDepth 65536 in
theorem w_c22 : (Jvm.Cond.code ({ cls := "java/lang/Math", name := "max", desc := "(II)I" } : Jvm.MethodName) jdk_29_method_65_code (2 : Nat) (Option.some Jvm.ClassFile.FieldType.int)).before args0 about1 = true := code_word (m := ⟨12, 1⟩) (meth := k12m1) (c := k12c1) (by decide +kernel) rfl rfl rfl (by decide +kernel)
set_option maxRecDepth 65536 in
theorem w_c23 : (Jvm.Cond.code ({ cls := "java/lang/Math", name := "min", desc := "(II)I" } : Jvm.MethodName) jdk_29_method_69_code (2 : Nat) (Option.some Jvm.ClassFile.FieldType.int)).before args0 about1 = true := code_word (m := ⟨12, 2⟩) (meth := k12m2) (c := k12c2) (by decide +kernel) rfl rfl rfl (by decide +kernel)
set_option maxRecDepth 65536 in
theorem w_c24 : (Jvm.Cond.code ({ cls := "java/lang/StringLatin1", name := "indexOfChar", desc := "([BIII)I" } : Jvm.MethodName) jdk_43_method_23_code (6 : Nat) (Option.some Jvm.ClassFile.FieldType.int)).before args0 about1 = true := code_word (m := ⟨11, 4⟩) (meth := k11m4) (c := k11c4) (by decide +kernel) rfl rfl rfl (by decide +kernel)
set_option maxRecDepth 65536 in
theorem w_c25 : (Jvm.Cond.code ({ cls := "java/lang/String", name := "charAt", desc := "(I)C" } : Jvm.MethodName) jdk_42_method_56_code (2 : Nat) (Option.some Jvm.ClassFile.FieldType.char)).before args0 about1 = true := code_word (m := ⟨7, 4⟩) (meth := k7m4) (c := k7c4) (by decide +kernel) rfl rfl rfl (by decide +kernel)
set_option maxRecDepth 65536 in
theorem w_c26 : (Jvm.Cond.code ({ cls := "java/lang/StringLatin1", name := "charAt", desc := "([BI)C" } : Jvm.MethodName) jdk_43_method_2_code (2 : Nat) (Option.some Jvm.ClassFile.FieldType.char)).before args0 about1 = true := code_word (m := ⟨11, 1⟩) (meth := k11m1) (c := k11c1) (by decide +kernel) rfl rfl rfl (by decide +kernel)
set_option maxRecDepth 65536 in
theorem w_c27 : (Jvm.Cond.code ({ cls := "java/lang/String", name := "checkIndex", desc := "(II)V" } : Jvm.MethodName) jdk_42_method_155_code (2 : Nat) (Option.none : Option Jvm.ClassFile.FieldType)).before args0 about1 = true := code_word (m := ⟨7, 12⟩) (meth := k7m12) (c := k7c12) (by decide +kernel) rfl rfl rfl (by decide +kernel)
set_option maxRecDepth 65536 in
theorem w_c28 : (Jvm.Cond.code ({ cls := "jdk/internal/util/Preconditions", name := "checkIndex", desc := "(IILjava/util/function/BiFunction;)I" } : Jvm.MethodName) jdk_41_method_11_code (3 : Nat) (Option.some Jvm.ClassFile.FieldType.int)).before args0 about1 = true := code_word (m := ⟨13, 1⟩) (meth := k13m1) (c := k13c1) (by decide +kernel) rfl rfl rfl (by decide +kernel)
set_option maxRecDepth 65536 in
theorem w_c29 : (Jvm.Cond.code ({ cls := "java/lang/String", name := "substring", desc := "(II)Ljava/lang/String;" } : Jvm.MethodName) jdk_42_method_92_code (5 : Nat) (Option.some (Jvm.ClassFile.FieldType.object "java/lang/String"))).before args0 about1 = true := code_word (m := ⟨7, 7⟩) (meth := k7m7) (c := k7c7) (by decide +kernel) rfl rfl rfl (by decide +kernel)
set_option maxRecDepth 65536 in
theorem w_c30 : (Jvm.Cond.code ({ cls := "java/lang/String", name := "checkBoundsBeginEnd", desc := "(III)V" } : Jvm.MethodName) jdk_42_method_158_code (3 : Nat) (Option.none : Option Jvm.ClassFile.FieldType)).before args0 about1 = true := code_word (m := ⟨7, 13⟩) (meth := k7m13) (c := k7c13) (by decide +kernel) rfl rfl rfl (by decide +kernel)
set_option maxRecDepth 65536 in
theorem w_c31 : (Jvm.Cond.code ({ cls := "jdk/internal/util/Preconditions", name := "checkFromToIndex", desc := "(IIILjava/util/function/BiFunction;)I" } : Jvm.MethodName) jdk_41_method_12_code (4 : Nat) (Option.some Jvm.ClassFile.FieldType.int)).before args0 about1 = true := code_word (m := ⟨13, 2⟩) (meth := k13m2) (c := k13c2) (by decide +kernel) rfl rfl rfl (by decide +kernel)
set_option maxRecDepth 65536 in
theorem w_c32 : (Jvm.Cond.code ({ cls := "java/lang/StringLatin1", name := "newString", desc := "([BII)Ljava/lang/String;" } : Jvm.MethodName) jdk_43_method_47_code (3 : Nat) (Option.some (Jvm.ClassFile.FieldType.object "java/lang/String"))).before args0 about1 = true := code_word (m := ⟨11, 5⟩) (meth := k11m5) (c := k11c5) (by decide +kernel) rfl rfl rfl (by decide +kernel)
set_option maxRecDepth 65536 in
theorem w_c33 : (Jvm.Cond.code ({ cls := "java/util/Arrays", name := "copyOfRange", desc := "([BII)[B" } : Jvm.MethodName) jdk_65_method_132_code (3 : Nat) (Option.some (Jvm.ClassFile.FieldType.array Jvm.ClassFile.FieldType.byte))).before args0 about1 = true := code_word (m := ⟨14, 2⟩) (meth := k14m2) (c := k14c2) (by decide +kernel) rfl rfl rfl (by decide +kernel)
set_option maxRecDepth 65536 in
theorem w_c34 : (Jvm.Cond.code ({ cls := "java/util/Arrays", name := "copyOfRangeByte", desc := "([BII)[B" } : Jvm.MethodName) jdk_65_method_133_code (5 : Nat) (Option.some (Jvm.ClassFile.FieldType.array Jvm.ClassFile.FieldType.byte))).before args0 about1 = true := code_word (m := ⟨14, 3⟩) (meth := k14m3) (c := k14c3) (by decide +kernel) rfl rfl rfl (by decide +kernel)
set_option maxRecDepth 65536 in
theorem w_c35 : (Jvm.Cond.code ({ cls := "java/util/Arrays", name := "checkLength", desc := "(II)V" } : Jvm.MethodName) jdk_65_method_131_code (2 : Nat) (Option.none : Option Jvm.ClassFile.FieldType)).before args0 about1 = true := code_word (m := ⟨14, 1⟩) (meth := k14m1) (c := k14c1) (by decide +kernel) rfl rfl rfl (by decide +kernel)
set_option maxRecDepth 65536 in
theorem w_c36 : (Jvm.Cond.code ({ cls := "java/lang/String", name := "<init>", desc := "([BB)V" } : Jvm.MethodName) jdk_42_method_151_code (3 : Nat) (Option.none : Option Jvm.ClassFile.FieldType)).before args0 about1 = true := code_word (m := ⟨7, 9⟩) (meth := k7m9) (c := k7c9) (by decide +kernel) rfl rfl rfl (by decide +kernel)
def codes1 : List Jvm.Cond := [Jvm.Cond.code x code maxLocals ret, Jvm.Cond.code ({ cls := "com/example/cluster_lock/clusterlock/redis/LockKeysHashTagPinLaw", name := "ch", desc := "(I)C" } : Jvm.MethodName) method_2_code (2 : Nat) (Option.some Jvm.ClassFile.FieldType.char), Jvm.Cond.code ({ cls := "com/example/cluster_lock/clusterlock/redis/LockKeysHashTagPinLaw", name := "make", desc := "(ICCCC)Ljava/lang/String;" } : Jvm.MethodName) method_3_code (5 : Nat) (Option.some (Jvm.ClassFile.FieldType.object "java/lang/String")), Jvm.Cond.code ({ cls := "java/lang/String", name := "<init>", desc := "([C)V" } : Jvm.MethodName) jdk_42_method_3_code (2 : Nat) (Option.none : Option Jvm.ClassFile.FieldType), Jvm.Cond.code ({ cls := "java/lang/String", name := "<init>", desc := "([CIILjava/lang/Void;)V" } : Jvm.MethodName) jdk_42_method_149_code (6 : Nat) (Option.none : Option Jvm.ClassFile.FieldType), Jvm.Cond.code ({ cls := "java/lang/Object", name := "<init>", desc := "()V" } : Jvm.MethodName) object_method_1_code (1 : Nat) (Option.none : Option Jvm.ClassFile.FieldType), Jvm.Cond.code ({ cls := "java/lang/StringUTF16", name := "compress", desc := "([CII)[B" } : Jvm.MethodName) jdk_52_method_16_code (6 : Nat) (Option.some (Jvm.ClassFile.FieldType.array Jvm.ClassFile.FieldType.byte)), Jvm.Cond.code ({ cls := "java/lang/StringUTF16", name := "compress", desc := "([CI[BII)I" } : Jvm.MethodName) jdk_52_method_21_code (7 : Nat) (Option.some Jvm.ClassFile.FieldType.int), Jvm.Cond.code ({ cls := "java/lang/StringUTF16", name := "coderFromArrayLen", desc := "([BI)B" } : Jvm.MethodName) jdk_52_method_15_code (2 : Nat) (Option.some Jvm.ClassFile.FieldType.byte), Jvm.Cond.code ({ cls := "com/example/cluster_lock/clusterlock/redis/LockKeysHashTagPinLaw", name := "is", desc := "(IICCCCC)Z" } : Jvm.MethodName) method_5_code (7 : Nat) (Option.some Jvm.ClassFile.FieldType.boolean), Jvm.Cond.code ({ cls := "com/example/cluster_lock/clusterlock/redis/LockKeysHashTagPinLaw", name := "at", desc := "(ICCCC)C" } : Jvm.MethodName) method_4_code (5 : Nat) (Option.some Jvm.ClassFile.FieldType.char), Jvm.Cond.code ({ cls := "com/example/cluster_lock/clusterlock/redis/LockKeys", name := "hashTag", desc := "(Ljava/lang/String;)Ljava/lang/String;" } : Jvm.MethodName) prog_6_method_2_code (4 : Nat) (Option.some (Jvm.ClassFile.FieldType.object "java/lang/String")), Jvm.Cond.code ({ cls := "com/example/cluster_lock/clusterlock/redis/LockKeys", name := "checkLockName", desc := "(Ljava/lang/String;)V" } : Jvm.MethodName) prog_6_method_9_code (1 : Nat) (Option.none : Option Jvm.ClassFile.FieldType), Jvm.Cond.code ({ cls := "java/util/Objects", name := "requireNonNull", desc := "(Ljava/lang/Object;Ljava/lang/String;)Ljava/lang/Object;" } : Jvm.MethodName) jdk_31_method_11_code (2 : Nat) (Option.some (Jvm.ClassFile.FieldType.object "java/lang/Object")), Jvm.Cond.code ({ cls := "java/lang/String", name := "isEmpty", desc := "()Z" } : Jvm.MethodName) jdk_42_method_55_code (1 : Nat) (Option.some Jvm.ClassFile.FieldType.boolean), Jvm.Cond.code ({ cls := "java/lang/String", name := "indexOf", desc := "(I)I" } : Jvm.MethodName) jdk_42_method_79_code (2 : Nat) (Option.some Jvm.ClassFile.FieldType.int), Jvm.Cond.code ({ cls := "java/lang/String", name := "indexOf", desc := "(II)I" } : Jvm.MethodName) jdk_42_method_80_code (3 : Nat) (Option.some Jvm.ClassFile.FieldType.int), Jvm.Cond.code ({ cls := "java/lang/String", name := "isLatin1", desc := "()Z" } : Jvm.MethodName) jdk_42_method_154_code (1 : Nat) (Option.some Jvm.ClassFile.FieldType.boolean), Jvm.Cond.code ({ cls := "java/lang/String", name := "length", desc := "()I" } : Jvm.MethodName) jdk_42_method_54_code (1 : Nat) (Option.some Jvm.ClassFile.FieldType.int), Jvm.Cond.code ({ cls := "java/lang/String", name := "coder", desc := "()B" } : Jvm.MethodName) jdk_42_method_152_code (1 : Nat) (Option.some Jvm.ClassFile.FieldType.byte), Jvm.Cond.code ({ cls := "java/lang/StringLatin1", name := "indexOf", desc := "([BIII)I" } : Jvm.MethodName) jdk_43_method_22_code (4 : Nat) (Option.some Jvm.ClassFile.FieldType.int), Jvm.Cond.code ({ cls := "java/lang/StringLatin1", name := "canEncode", desc := "(I)Z" } : Jvm.MethodName) jdk_43_method_4_code (1 : Nat) (Option.some Jvm.ClassFile.FieldType.boolean), Jvm.Cond.code ({ cls := "java/lang/Math", name := "max", desc := "(II)I" } : Jvm.MethodName) jdk_29_method_65_code (2 : Nat) (Option.some Jvm.ClassFile.FieldType.int), Jvm.Cond.code ({ cls := "java/lang/Math", name := "min", desc := "(II)I" } : Jvm.MethodName) jdk_29_method_69_code (2 : Nat) (Option.some Jvm.ClassFile.FieldType.int), Jvm.Cond.code ({ cls := "java/lang/StringLatin1", name := "indexOfChar", desc := "([BIII)I" } : Jvm.MethodName) jdk_43_method_23_code (6 : Nat) (Option.some Jvm.ClassFile.FieldType.int), Jvm.Cond.code ({ cls := "java/lang/String", name := "charAt", desc := "(I)C" } : Jvm.MethodName) jdk_42_method_56_code (2 : Nat) (Option.some Jvm.ClassFile.FieldType.char), Jvm.Cond.code ({ cls := "java/lang/StringLatin1", name := "charAt", desc := "([BI)C" } : Jvm.MethodName) jdk_43_method_2_code (2 : Nat) (Option.some Jvm.ClassFile.FieldType.char), Jvm.Cond.code ({ cls := "java/lang/String", name := "checkIndex", desc := "(II)V" } : Jvm.MethodName) jdk_42_method_155_code (2 : Nat) (Option.none : Option Jvm.ClassFile.FieldType), Jvm.Cond.code ({ cls := "jdk/internal/util/Preconditions", name := "checkIndex", desc := "(IILjava/util/function/BiFunction;)I" } : Jvm.MethodName) jdk_41_method_11_code (3 : Nat) (Option.some Jvm.ClassFile.FieldType.int), Jvm.Cond.code ({ cls := "java/lang/String", name := "substring", desc := "(II)Ljava/lang/String;" } : Jvm.MethodName) jdk_42_method_92_code (5 : Nat) (Option.some (Jvm.ClassFile.FieldType.object "java/lang/String")), Jvm.Cond.code ({ cls := "java/lang/String", name := "checkBoundsBeginEnd", desc := "(III)V" } : Jvm.MethodName) jdk_42_method_158_code (3 : Nat) (Option.none : Option Jvm.ClassFile.FieldType), Jvm.Cond.code ({ cls := "jdk/internal/util/Preconditions", name := "checkFromToIndex", desc := "(IIILjava/util/function/BiFunction;)I" } : Jvm.MethodName) jdk_41_method_12_code (4 : Nat) (Option.some Jvm.ClassFile.FieldType.int), Jvm.Cond.code ({ cls := "java/lang/StringLatin1", name := "newString", desc := "([BII)Ljava/lang/String;" } : Jvm.MethodName) jdk_43_method_47_code (3 : Nat) (Option.some (Jvm.ClassFile.FieldType.object "java/lang/String")), Jvm.Cond.code ({ cls := "java/util/Arrays", name := "copyOfRange", desc := "([BII)[B" } : Jvm.MethodName) jdk_65_method_132_code (3 : Nat) (Option.some (Jvm.ClassFile.FieldType.array Jvm.ClassFile.FieldType.byte)), Jvm.Cond.code ({ cls := "java/util/Arrays", name := "copyOfRangeByte", desc := "([BII)[B" } : Jvm.MethodName) jdk_65_method_133_code (5 : Nat) (Option.some (Jvm.ClassFile.FieldType.array Jvm.ClassFile.FieldType.byte)), Jvm.Cond.code ({ cls := "java/util/Arrays", name := "checkLength", desc := "(II)V" } : Jvm.MethodName) jdk_65_method_131_code (2 : Nat) (Option.none : Option Jvm.ClassFile.FieldType), Jvm.Cond.code ({ cls := "java/lang/String", name := "<init>", desc := "([BB)V" } : Jvm.MethodName) jdk_42_method_151_code (3 : Nat) (Option.none : Option Jvm.ClassFile.FieldType)]
set_option maxRecDepth 65536 in
theorem codes_eq : words1.filter isCode = codes1 := rfl
theorem w_codes : ∀ c ∈ words1.filter isCode, c.before args0 about1 = true := by
  rw [codes_eq]
  intro c hc
  simp only [codes1, List.mem_cons, List.not_mem_nil, or_false] at hc
  rcases hc with rfl | rfl | rfl | rfl | rfl | rfl | rfl | rfl | rfl | rfl | rfl | rfl | rfl | rfl | rfl | rfl | rfl | rfl | rfl | rfl | rfl | rfl | rfl | rfl | rfl | rfl | rfl | rfl | rfl | rfl | rfl | rfl | rfl | rfl | rfl | rfl | rfl
  · exact w_c0
  · exact w_c1
  · exact w_c2
  · exact w_c3
  · exact w_c4
  · exact w_c5
  · exact w_c6
  · exact w_c7
  · exact w_c8
  · exact w_c9
  · exact w_c10
  · exact w_c11
  · exact w_c12
  · exact w_c13
  · exact w_c14
  · exact w_c15
  · exact w_c16
  · exact w_c17
  · exact w_c18
  · exact w_c19
  · exact w_c20
  · exact w_c21
  · exact w_c22
  · exact w_c23
  · exact w_c24
  · exact w_c25
  · exact w_c26
  · exact w_c27
  · exact w_c28
  · exact w_c29
  · exact w_c30
  · exact w_c31
  · exact w_c32
  · exact w_c33
  · exact w_c34
  · exact w_c35
  · exact w_c36
set_option maxRecDepth 65536 in
theorem w_t1 : (words1.take 24).all (fun c => isCode c || c.before args0 about1) = true := by decide +kernel
set_option maxRecDepth 65536 in
theorem w_t2 : ((words1.drop 24).take 24).all (fun c => isCode c || c.before args0 about1) = true := by decide +kernel
set_option maxRecDepth 65536 in
theorem w_t3 : (((words1.drop 24).drop 24).take 24).all (fun c => isCode c || c.before args0 about1) = true := by decide +kernel
set_option maxRecDepth 65536 in
theorem w_t4 : ((((words1.drop 24).drop 24).drop 24).take 24).all (fun c => isCode c || c.before args0 about1) = true := by decide +kernel
set_option maxRecDepth 65536 in
theorem w_t5 : (((((words1.drop 24).drop 24).drop 24).drop 24).take 24).all (fun c => isCode c || c.before args0 about1) = true := by decide +kernel
set_option maxRecDepth 65536 in
theorem w_t6 : ((((((words1.drop 24).drop 24).drop 24).drop 24).drop 24).take 24).all (fun c => isCode c || c.before args0 about1) = true := by decide +kernel
set_option maxRecDepth 65536 in
theorem w_t7 : ((((((words1.drop 24).drop 24).drop 24).drop 24).drop 24).drop 24).all (fun c => isCode c || c.before args0 about1) = true := by decide +kernel
theorem w_tables : (allAtoms (Jvm.Cond.code x code maxLocals ret :: tables_1)).before args0 about1 = true := by
  rw [allAtoms_all]
  show words1.all (fun c => c.before args0 about1) = true
  refine all_split ?_ w_codes
  rw [← List.take_append_drop 24 words1, List.all_append, w_t1, ← List.take_append_drop 24 (words1.drop 24), List.all_append, w_t2, ← List.take_append_drop 24 ((words1.drop 24).drop 24), List.all_append, w_t3, ← List.take_append_drop 24 (((words1.drop 24).drop 24).drop 24), List.all_append, w_t4, ← List.take_append_drop 24 ((((words1.drop 24).drop 24).drop 24).drop 24), List.all_append, w_t5, ← List.take_append_drop 24 (((((words1.drop 24).drop 24).drop 24).drop 24).drop 24), List.all_append, w_t6, w_t7]
  rfl
set_option maxRecDepth 65536 in
theorem w_rest : rest_1_c.before args0 about1 = true := by decide +kernel
set_option maxRecDepth 65536 in
theorem w_case : (Jvm.Cond.and given_1 narrow_1).before args0 about1 = true := by decide +kernel
theorem w_applies : (headSpec (Jvm.Cond.code x code maxLocals ret :: tables_1) room_1).applies x e0.platform about1 = true :=
  (Spec.applies_iff w_frames).mpr ⟨w_running, w_runnable, w_alone, w_named, w_hears, w_ripe, w_room, w_tables⟩
theorem atStart : AtStart classFile x code maxLocals ret World_1 tables_1 room_1 Calls_1 rest_1 Pre_1 launch0 p0 e0 about1 theMethod args0 below0 :=
  ⟨lists_1, trivial, launch0.admits_env _ _ _, launch0.least_env, fairChoices_fair.cas, fairChoices_fair.clock, w_frames, w_args, w_heap, w_applies, trivial, w_rest, w_case⟩
end start1
theorem witness_1 : WitnessClaimed_1 := ⟨start1.p0, start1.e0, start1.about1, start1.theMethod, start1.args0, start1.below0, start1.atStart⟩
end Jvm.Pilot.@@N@@
