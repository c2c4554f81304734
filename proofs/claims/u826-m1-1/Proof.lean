import JvmDerived
import JvmDerived.Pilot.@@N@@Statement
import JvmDerived.Pilot.@@N@@Code
set_option linter.unusedVariables false
set_option linter.unusedSimpArgs false
namespace Jvm.OwnKit
open Jvm Jvm.ClassFile Sem Op Lib Jvm.Free Jvm.Stand Jvm.LawKit Jvm.RoadKit
/-- from the frame f at T the invocation comes to an end of which P holds -/
def Goes (p : Program) (e : Env) (below : List Frame) (P : Outcome → State → Prop) (T : State) (f : JFrame) : Prop :=
  ∃ s₂ o, Steps p.tables e below (T.setTop f) s₂ ∧ s₂.status = .running ∧ Ended s₂ below o ∧ P o s₂
theorem Goes.step {p : Program} {e : Env} {below : List Frame} {P : Outcome → State → Prop} {T T' : State} {f f' : JFrame} (K : Goes p e below P T' f') (q : ∀ t, Steps p.tables e below (T'.setTop f') t → Steps p.tables e below (T.setTop f) t) : Goes p e below P T f := by
  obtain ⟨s₂, o, h1, h2⟩ := K; exact ⟨s₂, o, q _ h1, h2⟩
/-- THE WALK STANDS at T over the heap h: what was written lies above n0; at most k cells of n slots were made; over h0 only the cells of ws have turned -/
def Wk (p : Program) (l : Launch) (e : Env) (R : Room) (s : State) (m : MethodId) (args : Array Value) (below : List Frame) (meth : Method) (c : Code)
    (Z : State) (own : String) (bytes : ByteArray) (maxL : Nat) (ret : Option FieldType) (mn : String) (n0 : Nat) (h0 : Heap) (ws : List Addr) (T : State) (h : Heap) (k n : Nat) : Prop :=
  (p.tables.exec = Jvm.exec ∧ c.code = bytes ∧ c.maxLocals = maxL ∧ Z.Warmed39 s.vm ∧ s.vm.findClass own = some m.cls ∧ meth.sig.returnType = ret ∧ meth.locks = false ∧ meth.name = mn ∧ (∀ x ∈ ws, n0 ≤ x) ∧ n0 ≤ h0.size) ∧
  ∃ locs cells slots, Stand p l e R s m args below meth c T locs cells slots ∧ T.heap = h ∧ Fr n0 locs ∧ cells ≤ k ∧ slots ≤ n ∧ Old Z n0 h ∧ Keep h0 h ws
section Steps
variable {p : Program} {l : Launch} {e : Env} {R : Room} {s : State} {m : MethodId} {args : Array Value} {below : List Frame} {meth : Method} {c : Code} {Z : State} {own : String} {bytes : ByteArray} {maxL : Nat} {ret : Option FieldType} {mn : String} {n0 : Nat} {h0 : Heap} {ws : List Addr} {T : State} {h : Heap} {k n : Nat} {P : Outcome → State → Prop} {Ls : Array Slot} {st : List Value} {pc pc' : Nat} {a0 : Array Value}
theorem Wk.mono (w : Wk p l e R s m args below meth c Z own bytes maxL ret mn n0 h0 ws T h k n) {k' n' : Nat} (hk : k ≤ k') (hn : n ≤ n') : Wk p l e R s m args below meth c Z own bytes maxL ret mn n0 h0 ws T h k' n' := by
  obtain ⟨cx, locs, cells, slots, X, e1, N, a, b, r⟩ := w; exact ⟨cx, locs, cells, slots, X, e1, N, Nat.le_trans a hk, Nat.le_trans b hn, r⟩
theorem Wk.kp (w : Wk p l e R s m args below meth c Z own bytes maxL ret mn n0 h0 ws T h k n) : Keep h0 h ws := w.2.choose_spec.choose_spec.choose_spec.2.2.2.2.2.2
theorem Wk.old (w : Wk p l e R s m args below meth c Z own bytes maxL ret mn n0 h0 ws T h k n) : Old Z n0 h := w.2.choose_spec.choose_spec.choose_spec.2.2.2.2.2.1
theorem Wk.le0 (w : Wk p l e R s m args below meth c Z own bytes maxL ret mn n0 h0 ws T h k n) : h0.size ≤ h.size := w.kp.1
theorem Wk.n0h0 (w : Wk p l e R s m args below meth c Z own bytes maxL ret mn n0 h0 ws T h k n) : n0 ≤ h0.size := w.1.2.2.2.2.2.2.2.2.2
theorem Wk.le (w : Wk p l e R s m args below meth c Z own bytes maxL ret mn n0 h0 ws T h k n) : n0 ≤ h.size := Nat.le_trans w.n0h0 w.le0
theorem Wk.hZ (w : Wk p l e R s m args below meth c Z own bytes maxL ret mn n0 h0 ws T h k n) : Z.Warmed39 s.vm := w.1.2.2.2.1
theorem Wk.heap (w : Wk p l e R s m args below meth c Z own bytes maxL ret mn n0 h0 ws T h k n) : T.heap = h := w.2.choose_spec.choose_spec.choose_spec.2.1
theorem Wk.sta (w : Wk p l e R s m args below meth c Z own bytes maxL ret mn n0 h0 ws T h k n) {C nm d : String} {v : Value} (S : Sta Z Z.heap C nm d v) : Sta Z h C nm d v := S.ext w.old.2
theorem Wk.wsn {a : Addr} (w : Wk p l e R s m args below meth c Z own bytes maxL ret mn n0 h0 ws T h k n) (q : a ∈ ws ∨ h0.size ≤ a) : n0 ≤ a := q.elim (w.1.2.2.2.2.2.2.2.2.1 a) (Nat.le_trans w.n0h0)
theorem i_aload (w : Wk p l e R s m args below meth c Z own bytes maxL ret mn n0 h0 ws T h k n) {i : Nat} {v : Value} (d : decode bytes pc = .ok (.aload i, 2)) (hl : Ls[i]? = some (.val v)) (hv : v.isRef = true) (hp : pc + 2 = pc') (K : Goes p e below P T (mkF m pc' Ls (v :: st))) : Goes p e below P T (mkF m pc Ls (st)) := by
  obtain ⟨⟨hx, hb', -⟩, locs, cells, slots, X, -⟩ := w
  subst hp
  exact K.step fun t q => XS.aload X.here hx rfl (hb hb' d) hl hv q
theorem i_aloadN (w : Wk p l e R s m args below meth c Z own bytes maxL ret mn n0 h0 ws T h k n) {i : Fin 4} {v : Value} (d : decode bytes pc = .ok (.aload_n i, 1)) (hl : Ls[i.val]? = some (.val v)) (hv : v.isRef = true) (hp : pc + 1 = pc') (K : Goes p e below P T (mkF m pc' Ls (v :: st))) : Goes p e below P T (mkF m pc Ls (st)) := by
  obtain ⟨⟨hx, hb', -⟩, locs, cells, slots, X, -⟩ := w
  subst hp
  exact K.step fun t q => XS.aloadN X.here hx rfl (hb hb' d) hl hv q
theorem i_iload (w : Wk p l e R s m args below meth c Z own bytes maxL ret mn n0 h0 ws T h k n) {i : Nat} {z : Int32} (d : decode bytes pc = .ok (.iload i, 2)) (hl : Ls[i]? = some (.val (.int z))) (hp : pc + 2 = pc') (K : Goes p e below P T (mkF m pc' Ls (.int z :: st))) : Goes p e below P T (mkF m pc Ls (st)) := by
  obtain ⟨⟨hx, hb', -⟩, locs, cells, slots, X, -⟩ := w
  subst hp
  exact K.step fun t q => XS.iload X.here hx rfl (hb hb' d) hl q
theorem i_iloadN (w : Wk p l e R s m args below meth c Z own bytes maxL ret mn n0 h0 ws T h k n) {i : Fin 4} {z : Int32} (d : decode bytes pc = .ok (.iload_n i, 1)) (hl : Ls[i.val]? = some (.val (.int z))) (hp : pc + 1 = pc') (K : Goes p e below P T (mkF m pc' Ls (.int z :: st))) : Goes p e below P T (mkF m pc Ls (st)) := by
  obtain ⟨⟨hx, hb', -⟩, locs, cells, slots, X, -⟩ := w
  subst hp
  exact K.step fun t q => XS.iloadN X.here hx rfl (hb hb' d) hl q
theorem i_lload (w : Wk p l e R s m args below meth c Z own bytes maxL ret mn n0 h0 ws T h k n) {i : Nat} {z : Int64} (d : decode bytes pc = .ok (.lload i, 2)) (hl : Ls[i]? = some (.val (.long z))) (hp : pc + 2 = pc') (K : Goes p e below P T (mkF m pc' Ls (.long z :: st))) : Goes p e below P T (mkF m pc Ls (st)) := by
  obtain ⟨⟨hx, hb', -⟩, locs, cells, slots, X, -⟩ := w
  subst hp
  exact K.step fun t q => XT.lload X.here hx rfl (hb hb' d) hl q
theorem i_lloadN (w : Wk p l e R s m args below meth c Z own bytes maxL ret mn n0 h0 ws T h k n) {i : Fin 4} {z : Int64} (d : decode bytes pc = .ok (.lload_n i, 1)) (hl : Ls[i.val]? = some (.val (.long z))) (hp : pc + 1 = pc') (K : Goes p e below P T (mkF m pc' Ls (.long z :: st))) : Goes p e below P T (mkF m pc Ls (st)) := by
  obtain ⟨⟨hx, hb', -⟩, locs, cells, slots, X, -⟩ := w
  subst hp
  exact K.step fun t q => XT.lloadN X.here hx rfl (hb hb' d) hl q
theorem i_iconst (w : Wk p l e R s m args below meth c Z own bytes maxL ret mn n0 h0 ws T h k n) {i : Int} {z : Int32} (d : decode bytes pc = .ok (.iconst i, 1)) (hz : Int32.ofInt i = z) (hp : pc + 1 = pc') (K : Goes p e below P T (mkF m pc' Ls (.int z :: st))) : Goes p e below P T (mkF m pc Ls (st)) := by
  obtain ⟨⟨hx, hb', -⟩, locs, cells, slots, X, -⟩ := w
  subst hp
  exact K.step fun t q => XS.iconst X.here hx rfl (hb hb' d) (hz ▸ q)
theorem i_bipush (w : Wk p l e R s m args below meth c Z own bytes maxL ret mn n0 h0 ws T h k n) {i : Int} {z : Int32} (d : decode bytes pc = .ok (.bipush i, 2)) (hz : (Int8.ofInt i).toInt32 = z) (hp : pc + 2 = pc') (K : Goes p e below P T (mkF m pc' Ls (.int z :: st))) : Goes p e below P T (mkF m pc Ls (st)) := by
  obtain ⟨⟨hx, hb', -⟩, locs, cells, slots, X, -⟩ := w
  subst hp
  exact K.step fun t q => XS.bipush X.here hx rfl (hb hb' d) (hz ▸ q)
theorem i_sipush (w : Wk p l e R s m args below meth c Z own bytes maxL ret mn n0 h0 ws T h k n) {i : Int} {z : Int32} (d : decode bytes pc = .ok (.sipush i, 3)) (hz : (Int16.ofInt i).toInt32 = z) (hp : pc + 3 = pc') (K : Goes p e below P T (mkF m pc' Ls (.int z :: st))) : Goes p e below P T (mkF m pc Ls (st)) := by
  obtain ⟨⟨hx, hb', -⟩, locs, cells, slots, X, -⟩ := w
  subst hp
  exact K.step fun t q => XS.sipush X.here hx rfl (hb hb' d) (hz ▸ q)
theorem i_lconst (w : Wk p l e R s m args below meth c Z own bytes maxL ret mn n0 h0 ws T h k n) {i : Fin 2} {z : Int64} (d : decode bytes pc = .ok (.lconst i, 1)) (hz : Int64.ofNat i = z) (hp : pc + 1 = pc') (K : Goes p e below P T (mkF m pc' Ls (.long z :: st))) : Goes p e below P T (mkF m pc Ls (st)) := by
  obtain ⟨⟨hx, hb', -⟩, locs, cells, slots, X, -⟩ := w
  subst hp
  exact K.step fun t q => XT.lconst X.here hx rfl (hb hb' d) (hz ▸ q)
theorem i_aconstNull (w : Wk p l e R s m args below meth c Z own bytes maxL ret mn n0 h0 ws T h k n)  (d : decode bytes pc = .ok (.aconst_null, 1))  (hp : pc + 1 = pc') (K : Goes p e below P T (mkF m pc' Ls (.null :: st))) : Goes p e below P T (mkF m pc Ls (st)) := by
  obtain ⟨⟨hx, hb', -⟩, locs, cells, slots, X, -⟩ := w
  subst hp
  exact K.step fun t q => XS.aconstNull X.here hx rfl (hb hb' d) q
theorem i_iadd (w : Wk p l e R s m args below meth c Z own bytes maxL ret mn n0 h0 ws T h k n) {x y : Int32} (d : decode bytes pc = .ok (.iadd, 1))  (hp : pc + 1 = pc') (K : Goes p e below P T (mkF m pc' Ls (.int (x + y) :: st))) : Goes p e below P T (mkF m pc Ls (.int y :: .int x :: st)) := by
  obtain ⟨⟨hx, hb', -⟩, locs, cells, slots, X, -⟩ := w
  subst hp
  exact K.step fun t q => XS.iadd X.here hx rfl (hb hb' d) rfl q
theorem i_isub (w : Wk p l e R s m args below meth c Z own bytes maxL ret mn n0 h0 ws T h k n) {x y : Int32} (d : decode bytes pc = .ok (.isub, 1))  (hp : pc + 1 = pc') (K : Goes p e below P T (mkF m pc' Ls (.int (x - y) :: st))) : Goes p e below P T (mkF m pc Ls (.int y :: .int x :: st)) := by
  obtain ⟨⟨hx, hb', -⟩, locs, cells, slots, X, -⟩ := w
  subst hp
  exact K.step fun t q => XS.isub X.here hx rfl (hb hb' d) rfl q
theorem i_imul (w : Wk p l e R s m args below meth c Z own bytes maxL ret mn n0 h0 ws T h k n) {x y : Int32} (d : decode bytes pc = .ok (.imul, 1))  (hp : pc + 1 = pc') (K : Goes p e below P T (mkF m pc' Ls (.int (x * y) :: st))) : Goes p e below P T (mkF m pc Ls (.int y :: .int x :: st)) := by
  obtain ⟨⟨hx, hb', -⟩, locs, cells, slots, X, -⟩ := w
  subst hp
  exact K.step fun t q => XS.imul X.here hx rfl (hb hb' d) rfl q
theorem i_iand (w : Wk p l e R s m args below meth c Z own bytes maxL ret mn n0 h0 ws T h k n) {x y : Int32} (d : decode bytes pc = .ok (.iand, 1))  (hp : pc + 1 = pc') (K : Goes p e below P T (mkF m pc' Ls (.int (x &&& y) :: st))) : Goes p e below P T (mkF m pc Ls (.int y :: .int x :: st)) := by
  obtain ⟨⟨hx, hb', -⟩, locs, cells, slots, X, -⟩ := w
  subst hp
  exact K.step fun t q => XS.iand X.here hx rfl (hb hb' d) rfl q
theorem i_ior (w : Wk p l e R s m args below meth c Z own bytes maxL ret mn n0 h0 ws T h k n) {x y : Int32} (d : decode bytes pc = .ok (.ior, 1))  (hp : pc + 1 = pc') (K : Goes p e below P T (mkF m pc' Ls (.int (x ||| y) :: st))) : Goes p e below P T (mkF m pc Ls (.int y :: .int x :: st)) := by
  obtain ⟨⟨hx, hb', -⟩, locs, cells, slots, X, -⟩ := w
  subst hp
  exact K.step fun t q => XT.ior X.here hx rfl (hb hb' d) rfl q
theorem i_ixor (w : Wk p l e R s m args below meth c Z own bytes maxL ret mn n0 h0 ws T h k n) {x y : Int32} (d : decode bytes pc = .ok (.ixor, 1))  (hp : pc + 1 = pc') (K : Goes p e below P T (mkF m pc' Ls (.int (x ^^^ y) :: st))) : Goes p e below P T (mkF m pc Ls (.int y :: .int x :: st)) := by
  obtain ⟨⟨hx, hb', -⟩, locs, cells, slots, X, -⟩ := w
  subst hp
  exact K.step fun t q => XT.ixor X.here hx rfl (hb hb' d) rfl q
theorem i_ishl (w : Wk p l e R s m args below meth c Z own bytes maxL ret mn n0 h0 ws T h k n) {x y : Int32} (d : decode bytes pc = .ok (.ishl, 1))  (hp : pc + 1 = pc') (K : Goes p e below P T (mkF m pc' Ls (.int (x <<< (y &&& 31)) :: st))) : Goes p e below P T (mkF m pc Ls (.int y :: .int x :: st)) := by
  obtain ⟨⟨hx, hb', -⟩, locs, cells, slots, X, -⟩ := w
  subst hp
  exact K.step fun t q => XT.ishl X.here hx rfl (hb hb' d) rfl q
theorem i_ishr (w : Wk p l e R s m args below meth c Z own bytes maxL ret mn n0 h0 ws T h k n) {x y : Int32} (d : decode bytes pc = .ok (.ishr, 1))  (hp : pc + 1 = pc') (K : Goes p e below P T (mkF m pc' Ls (.int (x >>> (y &&& 31)) :: st))) : Goes p e below P T (mkF m pc Ls (.int y :: .int x :: st)) := by
  obtain ⟨⟨hx, hb', -⟩, locs, cells, slots, X, -⟩ := w
  subst hp
  exact K.step fun t q => XT.ishr X.here hx rfl (hb hb' d) rfl q
theorem i_iushr (w : Wk p l e R s m args below meth c Z own bytes maxL ret mn n0 h0 ws T h k n) {x y : Int32} (d : decode bytes pc = .ok (.iushr, 1))  (hp : pc + 1 = pc') (K : Goes p e below P T (mkF m pc' Ls (.int (XT.ushr x y) :: st))) : Goes p e below P T (mkF m pc Ls (.int y :: .int x :: st)) := by
  obtain ⟨⟨hx, hb', -⟩, locs, cells, slots, X, -⟩ := w
  subst hp
  exact K.step fun t q => XT.iushr X.here hx rfl (hb hb' d) rfl q
theorem i_ladd (w : Wk p l e R s m args below meth c Z own bytes maxL ret mn n0 h0 ws T h k n) {x y : Int64} (d : decode bytes pc = .ok (.ladd, 1))  (hp : pc + 1 = pc') (K : Goes p e below P T (mkF m pc' Ls (.long (x + y) :: st))) : Goes p e below P T (mkF m pc Ls (.long y :: .long x :: st)) := by
  obtain ⟨⟨hx, hb', -⟩, locs, cells, slots, X, -⟩ := w
  subst hp
  exact K.step fun t q => XT.ladd X.here hx rfl (hb hb' d) rfl q
theorem i_lsub (w : Wk p l e R s m args below meth c Z own bytes maxL ret mn n0 h0 ws T h k n) {x y : Int64} (d : decode bytes pc = .ok (.lsub, 1))  (hp : pc + 1 = pc') (K : Goes p e below P T (mkF m pc' Ls (.long (x - y) :: st))) : Goes p e below P T (mkF m pc Ls (.long y :: .long x :: st)) := by
  obtain ⟨⟨hx, hb', -⟩, locs, cells, slots, X, -⟩ := w
  subst hp
  exact K.step fun t q => XT.lsub X.here hx rfl (hb hb' d) rfl q
theorem i_lmul (w : Wk p l e R s m args below meth c Z own bytes maxL ret mn n0 h0 ws T h k n) {x y : Int64} (d : decode bytes pc = .ok (.lmul, 1))  (hp : pc + 1 = pc') (K : Goes p e below P T (mkF m pc' Ls (.long (x * y) :: st))) : Goes p e below P T (mkF m pc Ls (.long y :: .long x :: st)) := by
  obtain ⟨⟨hx, hb', -⟩, locs, cells, slots, X, -⟩ := w
  subst hp
  exact K.step fun t q => XT.lmul X.here hx rfl (hb hb' d) rfl q
theorem i_land (w : Wk p l e R s m args below meth c Z own bytes maxL ret mn n0 h0 ws T h k n) {x y : Int64} (d : decode bytes pc = .ok (.land, 1))  (hp : pc + 1 = pc') (K : Goes p e below P T (mkF m pc' Ls (.long (x &&& y) :: st))) : Goes p e below P T (mkF m pc Ls (.long y :: .long x :: st)) := by
  obtain ⟨⟨hx, hb', -⟩, locs, cells, slots, X, -⟩ := w
  subst hp
  exact K.step fun t q => XT.land X.here hx rfl (hb hb' d) rfl q
theorem i_lor (w : Wk p l e R s m args below meth c Z own bytes maxL ret mn n0 h0 ws T h k n) {x y : Int64} (d : decode bytes pc = .ok (.lor, 1))  (hp : pc + 1 = pc') (K : Goes p e below P T (mkF m pc' Ls (.long (x ||| y) :: st))) : Goes p e below P T (mkF m pc Ls (.long y :: .long x :: st)) := by
  obtain ⟨⟨hx, hb', -⟩, locs, cells, slots, X, -⟩ := w
  subst hp
  exact K.step fun t q => XT.lor X.here hx rfl (hb hb' d) rfl q
theorem i_lxor (w : Wk p l e R s m args below meth c Z own bytes maxL ret mn n0 h0 ws T h k n) {x y : Int64} (d : decode bytes pc = .ok (.lxor, 1))  (hp : pc + 1 = pc') (K : Goes p e below P T (mkF m pc' Ls (.long (x ^^^ y) :: st))) : Goes p e below P T (mkF m pc Ls (.long y :: .long x :: st)) := by
  obtain ⟨⟨hx, hb', -⟩, locs, cells, slots, X, -⟩ := w
  subst hp
  exact K.step fun t q => XT.lxor X.here hx rfl (hb hb' d) rfl q
theorem i_lshl (w : Wk p l e R s m args below meth c Z own bytes maxL ret mn n0 h0 ws T h k n) {x : Int64} {y : Int32} (d : decode bytes pc = .ok (.lshl, 1))  (hp : pc + 1 = pc') (K : Goes p e below P T (mkF m pc' Ls (.long (x <<< (y.toInt64 &&& 63)) :: st))) : Goes p e below P T (mkF m pc Ls (.int y :: .long x :: st)) := by
  obtain ⟨⟨hx, hb', -⟩, locs, cells, slots, X, -⟩ := w
  subst hp
  exact K.step fun t q => XT.lshl X.here hx rfl (hb hb' d) rfl q
theorem i_lshr (w : Wk p l e R s m args below meth c Z own bytes maxL ret mn n0 h0 ws T h k n) {x : Int64} {y : Int32} (d : decode bytes pc = .ok (.lshr, 1))  (hp : pc + 1 = pc') (K : Goes p e below P T (mkF m pc' Ls (.long (x >>> (y.toInt64 &&& 63)) :: st))) : Goes p e below P T (mkF m pc Ls (.int y :: .long x :: st)) := by
  obtain ⟨⟨hx, hb', -⟩, locs, cells, slots, X, -⟩ := w
  subst hp
  exact K.step fun t q => XT.lshr X.here hx rfl (hb hb' d) rfl q
theorem i_lushr (w : Wk p l e R s m args below meth c Z own bytes maxL ret mn n0 h0 ws T h k n) {x : Int64} {y : Int32} (d : decode bytes pc = .ok (.lushr, 1))  (hp : pc + 1 = pc') (K : Goes p e below P T (mkF m pc' Ls (.long (XT.ushrL x y) :: st))) : Goes p e below P T (mkF m pc Ls (.int y :: .long x :: st)) := by
  obtain ⟨⟨hx, hb', -⟩, locs, cells, slots, X, -⟩ := w
  subst hp
  exact K.step fun t q => XT.lushr X.here hx rfl (hb hb' d) rfl q
theorem i_idiv (w : Wk p l e R s m args below meth c Z own bytes maxL ret mn n0 h0 ws T h k n) {x y : Int32} (d : decode bytes pc = .ok (.idiv, 1)) (hy : y ≠ 0) (hp : pc + 1 = pc') (K : Goes p e below P T (mkF m pc' Ls (.int (x / y) :: st))) : Goes p e below P T (mkF m pc Ls (.int y :: .int x :: st)) := by
  obtain ⟨⟨hx, hb', -⟩, locs, cells, slots, X, -⟩ := w
  subst hp
  exact K.step fun t q => XS.idiv X.here hx rfl (hb hb' d) rfl hy q
theorem i_irem (w : Wk p l e R s m args below meth c Z own bytes maxL ret mn n0 h0 ws T h k n) {x y : Int32} (d : decode bytes pc = .ok (.irem, 1)) (hy : y ≠ 0) (hp : pc + 1 = pc') (K : Goes p e below P T (mkF m pc' Ls (.int (x % y) :: st))) : Goes p e below P T (mkF m pc Ls (.int y :: .int x :: st)) := by
  obtain ⟨⟨hx, hb', -⟩, locs, cells, slots, X, -⟩ := w
  subst hp
  exact K.step fun t q => iremM X hx rfl (hb hb' d) rfl hy q
theorem i_lrem (w : Wk p l e R s m args below meth c Z own bytes maxL ret mn n0 h0 ws T h k n) {x y : Int64} (d : decode bytes pc = .ok (.lrem, 1)) (hy : y ≠ 0) (hp : pc + 1 = pc') (K : Goes p e below P T (mkF m pc' Ls (.long (x - (x / y) * y) :: st))) : Goes p e below P T (mkF m pc Ls (.long y :: .long x :: st)) := by
  obtain ⟨⟨hx, hb', -⟩, locs, cells, slots, X, -⟩ := w
  subst hp
  exact K.step fun t q => XT.lrem X.here hx rfl (hb hb' d) rfl hy q
theorem i_ineg (w : Wk p l e R s m args below meth c Z own bytes maxL ret mn n0 h0 ws T h k n) {x : Int32} (d : decode bytes pc = .ok (.ineg, 1))  (hp : pc + 1 = pc') (K : Goes p e below P T (mkF m pc' Ls (.int (-x) :: st))) : Goes p e below P T (mkF m pc Ls (.int x :: st)) := by
  obtain ⟨⟨hx, hb', -⟩, locs, cells, slots, X, -⟩ := w
  subst hp
  exact K.step fun t q => XS.ineg X.here hx rfl (hb hb' d) rfl q
theorem i_i2l (w : Wk p l e R s m args below meth c Z own bytes maxL ret mn n0 h0 ws T h k n) {x : Int32} (d : decode bytes pc = .ok (.i2l, 1))  (hp : pc + 1 = pc') (K : Goes p e below P T (mkF m pc' Ls (.long x.toInt64 :: st))) : Goes p e below P T (mkF m pc Ls (.int x :: st)) := by
  obtain ⟨⟨hx, hb', -⟩, locs, cells, slots, X, -⟩ := w
  subst hp
  exact K.step fun t q => XT.i2l X.here hx rfl (hb hb' d) rfl q
theorem i_l2i (w : Wk p l e R s m args below meth c Z own bytes maxL ret mn n0 h0 ws T h k n) {x : Int64} (d : decode bytes pc = .ok (.l2i, 1))  (hp : pc + 1 = pc') (K : Goes p e below P T (mkF m pc' Ls (.int x.toInt32 :: st))) : Goes p e below P T (mkF m pc Ls (.long x :: st)) := by
  obtain ⟨⟨hx, hb', -⟩, locs, cells, slots, X, -⟩ := w
  subst hp
  exact K.step fun t q => XT.l2i X.here hx rfl (hb hb' d) rfl q
theorem i_i2b (w : Wk p l e R s m args below meth c Z own bytes maxL ret mn n0 h0 ws T h k n) {x : Int32} (d : decode bytes pc = .ok (.i2b, 1))  (hp : pc + 1 = pc') (K : Goes p e below P T (mkF m pc' Ls (.int x.toInt8.toInt32 :: st))) : Goes p e below P T (mkF m pc Ls (.int x :: st)) := by
  obtain ⟨⟨hx, hb', -⟩, locs, cells, slots, X, -⟩ := w
  subst hp
  exact K.step fun t q => XT.i2b X.here hx rfl (hb hb' d) rfl q
theorem i_i2c (w : Wk p l e R s m args below meth c Z own bytes maxL ret mn n0 h0 ws T h k n) {x : Int32} (d : decode bytes pc = .ok (.i2c, 1))  (hp : pc + 1 = pc') (K : Goes p e below P T (mkF m pc' Ls (.int (nar .char x) :: st))) : Goes p e below P T (mkF m pc Ls (.int x :: st)) := by
  obtain ⟨⟨hx, hb', -⟩, locs, cells, slots, X, -⟩ := w
  subst hp
  exact K.step fun t q => XT.i2c X.here hx rfl (hb hb' d) rfl q
theorem i_lcmp (w : Wk p l e R s m args below meth c Z own bytes maxL ret mn n0 h0 ws T h k n) {x y : Int64} (d : decode bytes pc = .ok (.lcmp, 1))  (hp : pc + 1 = pc') (K : Goes p e below P T (mkF m pc' Ls (.int (XT.cmpL x y) :: st))) : Goes p e below P T (mkF m pc Ls (.long y :: .long x :: st)) := by
  obtain ⟨⟨hx, hb', -⟩, locs, cells, slots, X, -⟩ := w
  subst hp
  exact K.step fun t q => XT.lcmp X.here hx rfl (hb hb' d) rfl q
theorem i_pop (w : Wk p l e R s m args below meth c Z own bytes maxL ret mn n0 h0 ws T h k n) {x : Value} (d : decode bytes pc = .ok (.pop, 1)) (hc : x.category = 1) (hp : pc + 1 = pc') (K : Goes p e below P T (mkF m pc' Ls (st))) : Goes p e below P T (mkF m pc Ls (x :: st)) := by
  obtain ⟨⟨hx, hb', -⟩, locs, cells, slots, X, -⟩ := w
  subst hp
  exact K.step fun t q => XT.pop X.here hx rfl (hb hb' d) rfl hc q
theorem i_dup (w : Wk p l e R s m args below meth c Z own bytes maxL ret mn n0 h0 ws T h k n) {x : Value} (d : decode bytes pc = .ok (.dup, 1)) (hc : x.category = 1) (hp : pc + 1 = pc') (K : Goes p e below P T (mkF m pc' Ls (x :: x :: st))) : Goes p e below P T (mkF m pc Ls (x :: st)) := by
  obtain ⟨⟨hx, hb', -⟩, locs, cells, slots, X, -⟩ := w
  subst hp
  exact K.step fun t q => XS.dup X.here hx rfl (hb hb' d) rfl hc q
theorem i_dupX1 (w : Wk p l e R s m args below meth c Z own bytes maxL ret mn n0 h0 ws T h k n) {x y : Value} (d : decode bytes pc = .ok (.dup_x1, 1)) (hc : x.category = 1) (hc' : y.category = 1) (hp : pc + 1 = pc') (K : Goes p e below P T (mkF m pc' Ls (x :: y :: x :: st))) : Goes p e below P T (mkF m pc Ls (x :: y :: st)) := by
  obtain ⟨⟨hx, hb', -⟩, locs, cells, slots, X, -⟩ := w
  subst hp
  exact K.step fun t q => XT.dupX1 X.here hx rfl (hb hb' d) rfl hc hc' q
theorem i_dup2 (w : Wk p l e R s m args below meth c Z own bytes maxL ret mn n0 h0 ws T h k n) {x y : Value} (d : decode bytes pc = .ok (.dup2, 1)) (hc : x.category = 1) (hc' : y.category = 1) (hp : pc + 1 = pc') (K : Goes p e below P T (mkF m pc' Ls (x :: y :: x :: y :: st))) : Goes p e below P T (mkF m pc Ls (x :: y :: st)) := by
  obtain ⟨⟨hx, hb', -⟩, locs, cells, slots, X, -⟩ := w
  subst hp
  exact K.step fun t q => XT.dup2 X.here hx rfl (hb hb' d) rfl hc hc' q
theorem i_istore (w : Wk p l e R s m args below meth c Z own bytes maxL ret mn n0 h0 ws T h k n) {i : Nat} {z : Int32} {l' : Array Slot} (d : decode bytes pc = .ok (.istore i, 2)) (hl : storeLocals Ls i (.int z) = some l') (hp : pc + 2 = pc') (K : Goes p e below P T (mkF m pc' l' (st))) : Goes p e below P T (mkF m pc Ls (.int z :: st)) := by
  obtain ⟨⟨hx, hb', -⟩, locs, cells, slots, X, -⟩ := w
  subst hp
  exact K.step fun t q => XS.istore X.here hx rfl (hb hb' d) rfl hl q
theorem i_istoreN (w : Wk p l e R s m args below meth c Z own bytes maxL ret mn n0 h0 ws T h k n) {i : Fin 4} {z : Int32} {l' : Array Slot} (d : decode bytes pc = .ok (.istore_n i, 1)) (hl : storeLocals Ls i.val (.int z) = some l') (hp : pc + 1 = pc') (K : Goes p e below P T (mkF m pc' l' (st))) : Goes p e below P T (mkF m pc Ls (.int z :: st)) := by
  obtain ⟨⟨hx, hb', -⟩, locs, cells, slots, X, -⟩ := w
  subst hp
  exact K.step fun t q => XS.istoreN X.here hx rfl (hb hb' d) rfl hl q
theorem i_lstore (w : Wk p l e R s m args below meth c Z own bytes maxL ret mn n0 h0 ws T h k n) {i : Nat} {z : Int64} {l' : Array Slot} (d : decode bytes pc = .ok (.lstore i, 2)) (hl : storeLocals Ls i (.long z) = some l') (hp : pc + 2 = pc') (K : Goes p e below P T (mkF m pc' l' (st))) : Goes p e below P T (mkF m pc Ls (.long z :: st)) := by
  obtain ⟨⟨hx, hb', -⟩, locs, cells, slots, X, -⟩ := w
  subst hp
  exact K.step fun t q => XT.lstore X.here hx rfl (hb hb' d) rfl hl q
theorem i_lstoreN (w : Wk p l e R s m args below meth c Z own bytes maxL ret mn n0 h0 ws T h k n) {i : Fin 4} {z : Int64} {l' : Array Slot} (d : decode bytes pc = .ok (.lstore_n i, 1)) (hl : storeLocals Ls i.val (.long z) = some l') (hp : pc + 1 = pc') (K : Goes p e below P T (mkF m pc' l' (st))) : Goes p e below P T (mkF m pc Ls (.long z :: st)) := by
  obtain ⟨⟨hx, hb', -⟩, locs, cells, slots, X, -⟩ := w
  subst hp
  exact K.step fun t q => XT.lstoreN X.here hx rfl (hb hb' d) rfl hl q
theorem i_astore (w : Wk p l e R s m args below meth c Z own bytes maxL ret mn n0 h0 ws T h k n) {i : Nat} {v : Value} {l' : Array Slot} (d : decode bytes pc = .ok (.astore i, 2)) (hv : v.isRef = true) (hl : storeLocals Ls i v = some l') (hp : pc + 2 = pc') (K : Goes p e below P T (mkF m pc' l' (st))) : Goes p e below P T (mkF m pc Ls (v :: st)) := by
  obtain ⟨⟨hx, hb', -⟩, locs, cells, slots, X, -⟩ := w
  subst hp
  exact K.step fun t q => XS.astore X.here hx rfl (hb hb' d) rfl hv hl q
theorem i_astoreN (w : Wk p l e R s m args below meth c Z own bytes maxL ret mn n0 h0 ws T h k n) {i : Fin 4} {v : Value} {l' : Array Slot} (d : decode bytes pc = .ok (.astore_n i, 1)) (hv : v.isRef = true) (hl : storeLocals Ls i.val v = some l') (hp : pc + 1 = pc') (K : Goes p e below P T (mkF m pc' l' (st))) : Goes p e below P T (mkF m pc Ls (v :: st)) := by
  obtain ⟨⟨hx, hb', -⟩, locs, cells, slots, X, -⟩ := w
  subst hp
  exact K.step fun t q => XS.astoreN X.here hx rfl (hb hb' d) rfl hv hl q
theorem i_iinc (w : Wk p l e R s m args below meth c Z own bytes maxL ret mn n0 h0 ws T h k n) {i : Nat} {cst : Int} {x z : Int32} {l' : Array Slot} (d : decode bytes pc = .ok (.iinc i cst, 3)) (hl : Ls[i]? = some (.val (.int x))) (hz : x + Int32.ofInt cst = z) (hl' : storeLocals Ls i (.int z) = some l') (hp : pc + 3 = pc') (K : Goes p e below P T (mkF m pc' l' (st))) : Goes p e below P T (mkF m pc Ls (st)) := by
  obtain ⟨⟨hx, hb', -⟩, locs, cells, slots, X, -⟩ := w
  subst hp
  exact K.step fun t q => XS.iinc X.here hx rfl (hb hb' d) hl (by rw [hz]; exact hl') q
theorem i_goto (w : Wk p l e R s m args below meth c Z own bytes maxL ret mn n0 h0 ws T h k n) {o : Int} (d : decode bytes pc = .ok (.goto o, 3)) (hp : (pc : Int) + o = (pc' : Int)) (K : Goes p e below P T (mkF m pc' Ls (st))) : Goes p e below P T (mkF m pc Ls (st)) := by
  obtain ⟨⟨hx, hb', -⟩, locs, cells, slots, X, -⟩ := w
  exact K.step fun t q => XS.goto X.here hx rfl (pc0 := pc) (pc' := pc') rfl (hb hb' d) (by omega) (by omega) q
theorem i_icmp_eq_Y (w : Wk p l e R s m args below meth c Z own bytes maxL ret mn n0 h0 ws T h k n) {x y : Int32} {o : Int} (hc : x = y) (d : decode bytes pc = .ok (.if_icmp .eq o, 3)) (hp : (pc : Int) + o = (pc' : Int)) (K : Goes p e below P T (mkF m pc' Ls (st))) : Goes p e below P T (mkF m pc Ls (.int y :: .int x :: st)) := by
  obtain ⟨⟨hx, hb', -⟩, locs, cells, slots, X, -⟩ := w
  exact K.step fun t q => XS.icmpYes X.here hx rfl (pc0 := pc) (pc' := pc') rfl (hb hb' d) rfl (teq hc).1 (by omega) (by omega) q
theorem i_icmp_eq_N (w : Wk p l e R s m args below meth c Z own bytes maxL ret mn n0 h0 ws T h k n) {x y : Int32} {o : Int} (hc : ¬ x = y) (d : decode bytes pc = .ok (.if_icmp .eq o, 3)) (hp : pc + 3 = pc') (K : Goes p e below P T (mkF m pc' Ls (st))) : Goes p e below P T (mkF m pc Ls (.int y :: .int x :: st)) := by
  obtain ⟨⟨hx, hb', -⟩, locs, cells, slots, X, -⟩ := w
  subst hp
  exact K.step fun t q => XS.icmpNo X.here hx rfl (hb hb' d) rfl (feq hc).1 q
theorem i_icmp_eq (w : Wk p l e R s m args below meth c Z own bytes maxL ret mn n0 h0 ws T h k n) {x y : Int32} {o : Int} {pcY : Nat} (d : decode bytes pc = .ok (.if_icmp .eq o, 3)) (hy : (pc : Int) + o = (pcY : Int)) (hp : pc + 3 = pc') (KY : x = y → Goes p e below P T (mkF m pcY Ls (st))) (KN : ¬ x = y → Goes p e below P T (mkF m pc' Ls (st))) : Goes p e below P T (mkF m pc Ls (.int y :: .int x :: st)) :=
  Decidable.byCases (fun hc : x = y => i_icmp_eq_Y w hc d hy (KY hc)) (fun hc => i_icmp_eq_N w (hc) d hp (KN (hc)))
theorem i_if_eq_Y (w : Wk p l e R s m args below meth c Z own bytes maxL ret mn n0 h0 ws T h k n) {x : Int32} {o : Int} (hc : x = 0) (d : decode bytes pc = .ok (.ifCond .eq o, 3)) (hp : (pc : Int) + o = (pc' : Int)) (K : Goes p e below P T (mkF m pc' Ls (st))) : Goes p e below P T (mkF m pc Ls (.int x :: st)) := by
  obtain ⟨⟨hx, hb', -⟩, locs, cells, slots, X, -⟩ := w
  exact K.step fun t q => XS.ifYes X.here hx rfl (pc0 := pc) (pc' := pc') rfl (hb hb' d) rfl ((if0 _ _).trans (teq hc).1) (by omega) (by omega) q
theorem i_if_eq_N (w : Wk p l e R s m args below meth c Z own bytes maxL ret mn n0 h0 ws T h k n) {x : Int32} {o : Int} (hc : ¬ x = 0) (d : decode bytes pc = .ok (.ifCond .eq o, 3)) (hp : pc + 3 = pc') (K : Goes p e below P T (mkF m pc' Ls (st))) : Goes p e below P T (mkF m pc Ls (.int x :: st)) := by
  obtain ⟨⟨hx, hb', -⟩, locs, cells, slots, X, -⟩ := w
  subst hp
  exact K.step fun t q => XS.ifNo X.here hx rfl (hb hb' d) rfl ((if0 _ _).trans (feq hc).1) q
theorem i_if_eq (w : Wk p l e R s m args below meth c Z own bytes maxL ret mn n0 h0 ws T h k n) {x : Int32} {o : Int} {pcY : Nat} (d : decode bytes pc = .ok (.ifCond .eq o, 3)) (hy : (pc : Int) + o = (pcY : Int)) (hp : pc + 3 = pc') (KY : x = 0 → Goes p e below P T (mkF m pcY Ls (st))) (KN : ¬ x = 0 → Goes p e below P T (mkF m pc' Ls (st))) : Goes p e below P T (mkF m pc Ls (.int x :: st)) :=
  Decidable.byCases (fun hc : x = 0 => i_if_eq_Y w hc d hy (KY hc)) (fun hc => i_if_eq_N w (hc) d hp (KN (hc)))
theorem i_icmp_ne_Y (w : Wk p l e R s m args below meth c Z own bytes maxL ret mn n0 h0 ws T h k n) {x y : Int32} {o : Int} (hc : ¬ x = y) (d : decode bytes pc = .ok (.if_icmp .ne o, 3)) (hp : (pc : Int) + o = (pc' : Int)) (K : Goes p e below P T (mkF m pc' Ls (st))) : Goes p e below P T (mkF m pc Ls (.int y :: .int x :: st)) := by
  obtain ⟨⟨hx, hb', -⟩, locs, cells, slots, X, -⟩ := w
  exact K.step fun t q => XS.icmpYes X.here hx rfl (pc0 := pc) (pc' := pc') rfl (hb hb' d) rfl (feq hc).2 (by omega) (by omega) q
theorem i_icmp_ne_N (w : Wk p l e R s m args below meth c Z own bytes maxL ret mn n0 h0 ws T h k n) {x y : Int32} {o : Int} (hc : x = y) (d : decode bytes pc = .ok (.if_icmp .ne o, 3)) (hp : pc + 3 = pc') (K : Goes p e below P T (mkF m pc' Ls (st))) : Goes p e below P T (mkF m pc Ls (.int y :: .int x :: st)) := by
  obtain ⟨⟨hx, hb', -⟩, locs, cells, slots, X, -⟩ := w
  subst hp
  exact K.step fun t q => XS.icmpNo X.here hx rfl (hb hb' d) rfl (teq hc).2 q
theorem i_icmp_ne (w : Wk p l e R s m args below meth c Z own bytes maxL ret mn n0 h0 ws T h k n) {x y : Int32} {o : Int} {pcY : Nat} (d : decode bytes pc = .ok (.if_icmp .ne o, 3)) (hy : (pc : Int) + o = (pcY : Int)) (hp : pc + 3 = pc') (KY : ¬ x = y → Goes p e below P T (mkF m pcY Ls (st))) (KN : x = y → Goes p e below P T (mkF m pc' Ls (st))) : Goes p e below P T (mkF m pc Ls (.int y :: .int x :: st)) :=
  Decidable.byCases (fun hc : ¬ x = y => i_icmp_ne_Y w hc d hy (KY hc)) (fun hc => i_icmp_ne_N w (Decidable.not_not.mp hc) d hp (KN (Decidable.not_not.mp hc)))
theorem i_if_ne_Y (w : Wk p l e R s m args below meth c Z own bytes maxL ret mn n0 h0 ws T h k n) {x : Int32} {o : Int} (hc : ¬ x = 0) (d : decode bytes pc = .ok (.ifCond .ne o, 3)) (hp : (pc : Int) + o = (pc' : Int)) (K : Goes p e below P T (mkF m pc' Ls (st))) : Goes p e below P T (mkF m pc Ls (.int x :: st)) := by
  obtain ⟨⟨hx, hb', -⟩, locs, cells, slots, X, -⟩ := w
  exact K.step fun t q => XS.ifYes X.here hx rfl (pc0 := pc) (pc' := pc') rfl (hb hb' d) rfl ((if0 _ _).trans (feq hc).2) (by omega) (by omega) q
theorem i_if_ne_N (w : Wk p l e R s m args below meth c Z own bytes maxL ret mn n0 h0 ws T h k n) {x : Int32} {o : Int} (hc : x = 0) (d : decode bytes pc = .ok (.ifCond .ne o, 3)) (hp : pc + 3 = pc') (K : Goes p e below P T (mkF m pc' Ls (st))) : Goes p e below P T (mkF m pc Ls (.int x :: st)) := by
  obtain ⟨⟨hx, hb', -⟩, locs, cells, slots, X, -⟩ := w
  subst hp
  exact K.step fun t q => XS.ifNo X.here hx rfl (hb hb' d) rfl ((if0 _ _).trans (teq hc).2) q
theorem i_if_ne (w : Wk p l e R s m args below meth c Z own bytes maxL ret mn n0 h0 ws T h k n) {x : Int32} {o : Int} {pcY : Nat} (d : decode bytes pc = .ok (.ifCond .ne o, 3)) (hy : (pc : Int) + o = (pcY : Int)) (hp : pc + 3 = pc') (KY : ¬ x = 0 → Goes p e below P T (mkF m pcY Ls (st))) (KN : x = 0 → Goes p e below P T (mkF m pc' Ls (st))) : Goes p e below P T (mkF m pc Ls (.int x :: st)) :=
  Decidable.byCases (fun hc : ¬ x = 0 => i_if_ne_Y w hc d hy (KY hc)) (fun hc => i_if_ne_N w (Decidable.not_not.mp hc) d hp (KN (Decidable.not_not.mp hc)))
theorem i_icmp_lt_Y (w : Wk p l e R s m args below meth c Z own bytes maxL ret mn n0 h0 ws T h k n) {x y : Int32} {o : Int} (hc : x < y) (d : decode bytes pc = .ok (.if_icmp .lt o, 3)) (hp : (pc : Int) + o = (pc' : Int)) (K : Goes p e below P T (mkF m pc' Ls (st))) : Goes p e below P T (mkF m pc Ls (.int y :: .int x :: st)) := by
  obtain ⟨⟨hx, hb', -⟩, locs, cells, slots, X, -⟩ := w
  exact K.step fun t q => XS.icmpYes X.here hx rfl (pc0 := pc) (pc' := pc') rfl (hb hb' d) rfl (tlt hc).1 (by omega) (by omega) q
theorem i_icmp_lt_N (w : Wk p l e R s m args below meth c Z own bytes maxL ret mn n0 h0 ws T h k n) {x y : Int32} {o : Int} (hc : ¬ x < y) (d : decode bytes pc = .ok (.if_icmp .lt o, 3)) (hp : pc + 3 = pc') (K : Goes p e below P T (mkF m pc' Ls (st))) : Goes p e below P T (mkF m pc Ls (.int y :: .int x :: st)) := by
  obtain ⟨⟨hx, hb', -⟩, locs, cells, slots, X, -⟩ := w
  subst hp
  exact K.step fun t q => XS.icmpNo X.here hx rfl (hb hb' d) rfl (flt hc).1 q
theorem i_icmp_lt (w : Wk p l e R s m args below meth c Z own bytes maxL ret mn n0 h0 ws T h k n) {x y : Int32} {o : Int} {pcY : Nat} (d : decode bytes pc = .ok (.if_icmp .lt o, 3)) (hy : (pc : Int) + o = (pcY : Int)) (hp : pc + 3 = pc') (KY : x < y → Goes p e below P T (mkF m pcY Ls (st))) (KN : ¬ x < y → Goes p e below P T (mkF m pc' Ls (st))) : Goes p e below P T (mkF m pc Ls (.int y :: .int x :: st)) :=
  Decidable.byCases (fun hc : x < y => i_icmp_lt_Y w hc d hy (KY hc)) (fun hc => i_icmp_lt_N w (hc) d hp (KN (hc)))
theorem i_if_lt_Y (w : Wk p l e R s m args below meth c Z own bytes maxL ret mn n0 h0 ws T h k n) {x : Int32} {o : Int} (hc : x < 0) (d : decode bytes pc = .ok (.ifCond .lt o, 3)) (hp : (pc : Int) + o = (pc' : Int)) (K : Goes p e below P T (mkF m pc' Ls (st))) : Goes p e below P T (mkF m pc Ls (.int x :: st)) := by
  obtain ⟨⟨hx, hb', -⟩, locs, cells, slots, X, -⟩ := w
  exact K.step fun t q => XS.ifYes X.here hx rfl (pc0 := pc) (pc' := pc') rfl (hb hb' d) rfl ((if0 _ _).trans (tlt hc).1) (by omega) (by omega) q
theorem i_if_lt_N (w : Wk p l e R s m args below meth c Z own bytes maxL ret mn n0 h0 ws T h k n) {x : Int32} {o : Int} (hc : ¬ x < 0) (d : decode bytes pc = .ok (.ifCond .lt o, 3)) (hp : pc + 3 = pc') (K : Goes p e below P T (mkF m pc' Ls (st))) : Goes p e below P T (mkF m pc Ls (.int x :: st)) := by
  obtain ⟨⟨hx, hb', -⟩, locs, cells, slots, X, -⟩ := w
  subst hp
  exact K.step fun t q => XS.ifNo X.here hx rfl (hb hb' d) rfl ((if0 _ _).trans (flt hc).1) q
theorem i_if_lt (w : Wk p l e R s m args below meth c Z own bytes maxL ret mn n0 h0 ws T h k n) {x : Int32} {o : Int} {pcY : Nat} (d : decode bytes pc = .ok (.ifCond .lt o, 3)) (hy : (pc : Int) + o = (pcY : Int)) (hp : pc + 3 = pc') (KY : x < 0 → Goes p e below P T (mkF m pcY Ls (st))) (KN : ¬ x < 0 → Goes p e below P T (mkF m pc' Ls (st))) : Goes p e below P T (mkF m pc Ls (.int x :: st)) :=
  Decidable.byCases (fun hc : x < 0 => i_if_lt_Y w hc d hy (KY hc)) (fun hc => i_if_lt_N w (hc) d hp (KN (hc)))
theorem i_icmp_ge_Y (w : Wk p l e R s m args below meth c Z own bytes maxL ret mn n0 h0 ws T h k n) {x y : Int32} {o : Int} (hc : ¬ x < y) (d : decode bytes pc = .ok (.if_icmp .ge o, 3)) (hp : (pc : Int) + o = (pc' : Int)) (K : Goes p e below P T (mkF m pc' Ls (st))) : Goes p e below P T (mkF m pc Ls (.int y :: .int x :: st)) := by
  obtain ⟨⟨hx, hb', -⟩, locs, cells, slots, X, -⟩ := w
  exact K.step fun t q => XS.icmpYes X.here hx rfl (pc0 := pc) (pc' := pc') rfl (hb hb' d) rfl (flt hc).2.1 (by omega) (by omega) q
theorem i_icmp_ge_N (w : Wk p l e R s m args below meth c Z own bytes maxL ret mn n0 h0 ws T h k n) {x y : Int32} {o : Int} (hc : x < y) (d : decode bytes pc = .ok (.if_icmp .ge o, 3)) (hp : pc + 3 = pc') (K : Goes p e below P T (mkF m pc' Ls (st))) : Goes p e below P T (mkF m pc Ls (.int y :: .int x :: st)) := by
  obtain ⟨⟨hx, hb', -⟩, locs, cells, slots, X, -⟩ := w
  subst hp
  exact K.step fun t q => XS.icmpNo X.here hx rfl (hb hb' d) rfl (tlt hc).2.1 q
theorem i_icmp_ge (w : Wk p l e R s m args below meth c Z own bytes maxL ret mn n0 h0 ws T h k n) {x y : Int32} {o : Int} {pcY : Nat} (d : decode bytes pc = .ok (.if_icmp .ge o, 3)) (hy : (pc : Int) + o = (pcY : Int)) (hp : pc + 3 = pc') (KY : ¬ x < y → Goes p e below P T (mkF m pcY Ls (st))) (KN : x < y → Goes p e below P T (mkF m pc' Ls (st))) : Goes p e below P T (mkF m pc Ls (.int y :: .int x :: st)) :=
  Decidable.byCases (fun hc : ¬ x < y => i_icmp_ge_Y w hc d hy (KY hc)) (fun hc => i_icmp_ge_N w (Decidable.not_not.mp hc) d hp (KN (Decidable.not_not.mp hc)))
theorem i_if_ge_Y (w : Wk p l e R s m args below meth c Z own bytes maxL ret mn n0 h0 ws T h k n) {x : Int32} {o : Int} (hc : ¬ x < 0) (d : decode bytes pc = .ok (.ifCond .ge o, 3)) (hp : (pc : Int) + o = (pc' : Int)) (K : Goes p e below P T (mkF m pc' Ls (st))) : Goes p e below P T (mkF m pc Ls (.int x :: st)) := by
  obtain ⟨⟨hx, hb', -⟩, locs, cells, slots, X, -⟩ := w
  exact K.step fun t q => XS.ifYes X.here hx rfl (pc0 := pc) (pc' := pc') rfl (hb hb' d) rfl ((if0 _ _).trans (flt hc).2.1) (by omega) (by omega) q
theorem i_if_ge_N (w : Wk p l e R s m args below meth c Z own bytes maxL ret mn n0 h0 ws T h k n) {x : Int32} {o : Int} (hc : x < 0) (d : decode bytes pc = .ok (.ifCond .ge o, 3)) (hp : pc + 3 = pc') (K : Goes p e below P T (mkF m pc' Ls (st))) : Goes p e below P T (mkF m pc Ls (.int x :: st)) := by
  obtain ⟨⟨hx, hb', -⟩, locs, cells, slots, X, -⟩ := w
  subst hp
  exact K.step fun t q => XS.ifNo X.here hx rfl (hb hb' d) rfl ((if0 _ _).trans (tlt hc).2.1) q
theorem i_if_ge (w : Wk p l e R s m args below meth c Z own bytes maxL ret mn n0 h0 ws T h k n) {x : Int32} {o : Int} {pcY : Nat} (d : decode bytes pc = .ok (.ifCond .ge o, 3)) (hy : (pc : Int) + o = (pcY : Int)) (hp : pc + 3 = pc') (KY : ¬ x < 0 → Goes p e below P T (mkF m pcY Ls (st))) (KN : x < 0 → Goes p e below P T (mkF m pc' Ls (st))) : Goes p e below P T (mkF m pc Ls (.int x :: st)) :=
  Decidable.byCases (fun hc : ¬ x < 0 => i_if_ge_Y w hc d hy (KY hc)) (fun hc => i_if_ge_N w (Decidable.not_not.mp hc) d hp (KN (Decidable.not_not.mp hc)))
theorem i_icmp_gt_Y (w : Wk p l e R s m args below meth c Z own bytes maxL ret mn n0 h0 ws T h k n) {x y : Int32} {o : Int} (hc : y < x) (d : decode bytes pc = .ok (.if_icmp .gt o, 3)) (hp : (pc : Int) + o = (pc' : Int)) (K : Goes p e below P T (mkF m pc' Ls (st))) : Goes p e below P T (mkF m pc Ls (.int y :: .int x :: st)) := by
  obtain ⟨⟨hx, hb', -⟩, locs, cells, slots, X, -⟩ := w
  exact K.step fun t q => XS.icmpYes X.here hx rfl (pc0 := pc) (pc' := pc') rfl (hb hb' d) rfl (tlt hc).2.2.1 (by omega) (by omega) q
theorem i_icmp_gt_N (w : Wk p l e R s m args below meth c Z own bytes maxL ret mn n0 h0 ws T h k n) {x y : Int32} {o : Int} (hc : ¬ y < x) (d : decode bytes pc = .ok (.if_icmp .gt o, 3)) (hp : pc + 3 = pc') (K : Goes p e below P T (mkF m pc' Ls (st))) : Goes p e below P T (mkF m pc Ls (.int y :: .int x :: st)) := by
  obtain ⟨⟨hx, hb', -⟩, locs, cells, slots, X, -⟩ := w
  subst hp
  exact K.step fun t q => XS.icmpNo X.here hx rfl (hb hb' d) rfl (flt hc).2.2.1 q
theorem i_icmp_gt (w : Wk p l e R s m args below meth c Z own bytes maxL ret mn n0 h0 ws T h k n) {x y : Int32} {o : Int} {pcY : Nat} (d : decode bytes pc = .ok (.if_icmp .gt o, 3)) (hy : (pc : Int) + o = (pcY : Int)) (hp : pc + 3 = pc') (KY : y < x → Goes p e below P T (mkF m pcY Ls (st))) (KN : ¬ y < x → Goes p e below P T (mkF m pc' Ls (st))) : Goes p e below P T (mkF m pc Ls (.int y :: .int x :: st)) :=
  Decidable.byCases (fun hc : y < x => i_icmp_gt_Y w hc d hy (KY hc)) (fun hc => i_icmp_gt_N w (hc) d hp (KN (hc)))
theorem i_if_gt_Y (w : Wk p l e R s m args below meth c Z own bytes maxL ret mn n0 h0 ws T h k n) {x : Int32} {o : Int} (hc : 0 < x) (d : decode bytes pc = .ok (.ifCond .gt o, 3)) (hp : (pc : Int) + o = (pc' : Int)) (K : Goes p e below P T (mkF m pc' Ls (st))) : Goes p e below P T (mkF m pc Ls (.int x :: st)) := by
  obtain ⟨⟨hx, hb', -⟩, locs, cells, slots, X, -⟩ := w
  exact K.step fun t q => XS.ifYes X.here hx rfl (pc0 := pc) (pc' := pc') rfl (hb hb' d) rfl ((if0 _ _).trans (tlt hc).2.2.1) (by omega) (by omega) q
theorem i_if_gt_N (w : Wk p l e R s m args below meth c Z own bytes maxL ret mn n0 h0 ws T h k n) {x : Int32} {o : Int} (hc : ¬ 0 < x) (d : decode bytes pc = .ok (.ifCond .gt o, 3)) (hp : pc + 3 = pc') (K : Goes p e below P T (mkF m pc' Ls (st))) : Goes p e below P T (mkF m pc Ls (.int x :: st)) := by
  obtain ⟨⟨hx, hb', -⟩, locs, cells, slots, X, -⟩ := w
  subst hp
  exact K.step fun t q => XS.ifNo X.here hx rfl (hb hb' d) rfl ((if0 _ _).trans (flt hc).2.2.1) q
theorem i_if_gt (w : Wk p l e R s m args below meth c Z own bytes maxL ret mn n0 h0 ws T h k n) {x : Int32} {o : Int} {pcY : Nat} (d : decode bytes pc = .ok (.ifCond .gt o, 3)) (hy : (pc : Int) + o = (pcY : Int)) (hp : pc + 3 = pc') (KY : 0 < x → Goes p e below P T (mkF m pcY Ls (st))) (KN : ¬ 0 < x → Goes p e below P T (mkF m pc' Ls (st))) : Goes p e below P T (mkF m pc Ls (.int x :: st)) :=
  Decidable.byCases (fun hc : 0 < x => i_if_gt_Y w hc d hy (KY hc)) (fun hc => i_if_gt_N w (hc) d hp (KN (hc)))
theorem i_icmp_le_Y (w : Wk p l e R s m args below meth c Z own bytes maxL ret mn n0 h0 ws T h k n) {x y : Int32} {o : Int} (hc : ¬ y < x) (d : decode bytes pc = .ok (.if_icmp .le o, 3)) (hp : (pc : Int) + o = (pc' : Int)) (K : Goes p e below P T (mkF m pc' Ls (st))) : Goes p e below P T (mkF m pc Ls (.int y :: .int x :: st)) := by
  obtain ⟨⟨hx, hb', -⟩, locs, cells, slots, X, -⟩ := w
  exact K.step fun t q => XS.icmpYes X.here hx rfl (pc0 := pc) (pc' := pc') rfl (hb hb' d) rfl (flt hc).2.2.2 (by omega) (by omega) q
theorem i_icmp_le_N (w : Wk p l e R s m args below meth c Z own bytes maxL ret mn n0 h0 ws T h k n) {x y : Int32} {o : Int} (hc : y < x) (d : decode bytes pc = .ok (.if_icmp .le o, 3)) (hp : pc + 3 = pc') (K : Goes p e below P T (mkF m pc' Ls (st))) : Goes p e below P T (mkF m pc Ls (.int y :: .int x :: st)) := by
  obtain ⟨⟨hx, hb', -⟩, locs, cells, slots, X, -⟩ := w
  subst hp
  exact K.step fun t q => XS.icmpNo X.here hx rfl (hb hb' d) rfl (tlt hc).2.2.2 q
theorem i_icmp_le (w : Wk p l e R s m args below meth c Z own bytes maxL ret mn n0 h0 ws T h k n) {x y : Int32} {o : Int} {pcY : Nat} (d : decode bytes pc = .ok (.if_icmp .le o, 3)) (hy : (pc : Int) + o = (pcY : Int)) (hp : pc + 3 = pc') (KY : ¬ y < x → Goes p e below P T (mkF m pcY Ls (st))) (KN : y < x → Goes p e below P T (mkF m pc' Ls (st))) : Goes p e below P T (mkF m pc Ls (.int y :: .int x :: st)) :=
  Decidable.byCases (fun hc : ¬ y < x => i_icmp_le_Y w hc d hy (KY hc)) (fun hc => i_icmp_le_N w (Decidable.not_not.mp hc) d hp (KN (Decidable.not_not.mp hc)))
theorem i_if_le_Y (w : Wk p l e R s m args below meth c Z own bytes maxL ret mn n0 h0 ws T h k n) {x : Int32} {o : Int} (hc : ¬ 0 < x) (d : decode bytes pc = .ok (.ifCond .le o, 3)) (hp : (pc : Int) + o = (pc' : Int)) (K : Goes p e below P T (mkF m pc' Ls (st))) : Goes p e below P T (mkF m pc Ls (.int x :: st)) := by
  obtain ⟨⟨hx, hb', -⟩, locs, cells, slots, X, -⟩ := w
  exact K.step fun t q => XS.ifYes X.here hx rfl (pc0 := pc) (pc' := pc') rfl (hb hb' d) rfl ((if0 _ _).trans (flt hc).2.2.2) (by omega) (by omega) q
theorem i_if_le_N (w : Wk p l e R s m args below meth c Z own bytes maxL ret mn n0 h0 ws T h k n) {x : Int32} {o : Int} (hc : 0 < x) (d : decode bytes pc = .ok (.ifCond .le o, 3)) (hp : pc + 3 = pc') (K : Goes p e below P T (mkF m pc' Ls (st))) : Goes p e below P T (mkF m pc Ls (.int x :: st)) := by
  obtain ⟨⟨hx, hb', -⟩, locs, cells, slots, X, -⟩ := w
  subst hp
  exact K.step fun t q => XS.ifNo X.here hx rfl (hb hb' d) rfl ((if0 _ _).trans (tlt hc).2.2.2) q
theorem i_if_le (w : Wk p l e R s m args below meth c Z own bytes maxL ret mn n0 h0 ws T h k n) {x : Int32} {o : Int} {pcY : Nat} (d : decode bytes pc = .ok (.ifCond .le o, 3)) (hy : (pc : Int) + o = (pcY : Int)) (hp : pc + 3 = pc') (KY : ¬ 0 < x → Goes p e below P T (mkF m pcY Ls (st))) (KN : 0 < x → Goes p e below P T (mkF m pc' Ls (st))) : Goes p e below P T (mkF m pc Ls (.int x :: st)) :=
  Decidable.byCases (fun hc : ¬ 0 < x => i_if_le_Y w hc d hy (KY hc)) (fun hc => i_if_le_N w (Decidable.not_not.mp hc) d hp (KN (Decidable.not_not.mp hc)))
theorem i_ifnull_Y (w : Wk p l e R s m args below meth c Z own bytes maxL ret mn n0 h0 ws T h k n) {o : Int} {b : Addr} (d : decode bytes pc = .ok (.ifnull o, 3)) (hp : (pc : Int) + o = (pc' : Int)) (K : Goes p e below P T (mkF m pc' Ls (st))) : Goes p e below P T (mkF m pc Ls (.null :: st)) := by
  obtain ⟨⟨hx, hb', -⟩, locs, cells, slots, X, -⟩ := w
  exact K.step fun t q => XS.ifnullYes X.here hx rfl (pc0 := pc) (pc' := pc') rfl (hb hb' d) rfl (by omega) (by omega) q
theorem i_ifnull_N (w : Wk p l e R s m args below meth c Z own bytes maxL ret mn n0 h0 ws T h k n) {o : Int} {b : Addr} (d : decode bytes pc = .ok (.ifnull o, 3)) (hp : pc + 3 = pc') (K : Goes p e below P T (mkF m pc' Ls (st))) : Goes p e below P T (mkF m pc Ls (.ref b :: st)) := by
  obtain ⟨⟨hx, hb', -⟩, locs, cells, slots, X, -⟩ := w
  subst hp
  exact K.step fun t q => XS.ifnullNo X.here hx rfl (hb hb' d) rfl q
theorem i_ifnonnull_Y (w : Wk p l e R s m args below meth c Z own bytes maxL ret mn n0 h0 ws T h k n) {o : Int} {b : Addr} (d : decode bytes pc = .ok (.ifnonnull o, 3)) (hp : (pc : Int) + o = (pc' : Int)) (K : Goes p e below P T (mkF m pc' Ls (st))) : Goes p e below P T (mkF m pc Ls (.ref b :: st)) := by
  obtain ⟨⟨hx, hb', -⟩, locs, cells, slots, X, -⟩ := w
  exact K.step fun t q => XT.ifnonnullYes X.here hx rfl (pc0 := pc) (pc' := pc') rfl (hb hb' d) rfl (by omega) (by omega) q
theorem i_ifnonnull_N (w : Wk p l e R s m args below meth c Z own bytes maxL ret mn n0 h0 ws T h k n) {o : Int} {b : Addr} (d : decode bytes pc = .ok (.ifnonnull o, 3)) (hp : pc + 3 = pc') (K : Goes p e below P T (mkF m pc' Ls (st))) : Goes p e below P T (mkF m pc Ls (.null :: st)) := by
  obtain ⟨⟨hx, hb', -⟩, locs, cells, slots, X, -⟩ := w
  subst hp
  exact K.step fun t q => XT.ifnonnullNo X.here hx rfl (hb hb' d) rfl q
theorem i_acmp_eq_Y (w : Wk p l e R s m args below meth c Z own bytes maxL ret mn n0 h0 ws T h k n) {o : Int} {x y : Value} (hx1 : x.isRef = true) (hy1 : y.isRef = true) (hc : XT.acmp .eq x y = true) (d : decode bytes pc = .ok (.if_acmp .eq o, 3)) (hp : (pc : Int) + o = (pc' : Int)) (K : Goes p e below P T (mkF m pc' Ls (st))) : Goes p e below P T (mkF m pc Ls (y :: x :: st)) := by
  obtain ⟨⟨hx, hb', -⟩, locs, cells, slots, X, -⟩ := w
  exact K.step fun t q => XT.acmpYes X.here hx rfl (pc0 := pc) (pc' := pc') rfl (hb hb' d) rfl hx1 hy1 hc (by omega) (by omega) q
theorem i_acmp_eq_N (w : Wk p l e R s m args below meth c Z own bytes maxL ret mn n0 h0 ws T h k n) {o : Int} {x y : Value} (hx1 : x.isRef = true) (hy1 : y.isRef = true) (hc : XT.acmp .eq x y = false) (d : decode bytes pc = .ok (.if_acmp .eq o, 3)) (hp : pc + 3 = pc') (K : Goes p e below P T (mkF m pc' Ls (st))) : Goes p e below P T (mkF m pc Ls (y :: x :: st)) := by
  obtain ⟨⟨hx, hb', -⟩, locs, cells, slots, X, -⟩ := w
  subst hp
  exact K.step fun t q => XT.acmpNo X.here hx rfl (hb hb' d) rfl hx1 hy1 hc q
theorem i_acmp_ne_Y (w : Wk p l e R s m args below meth c Z own bytes maxL ret mn n0 h0 ws T h k n) {o : Int} {x y : Value} (hx1 : x.isRef = true) (hy1 : y.isRef = true) (hc : XT.acmp .ne x y = true) (d : decode bytes pc = .ok (.if_acmp .ne o, 3)) (hp : (pc : Int) + o = (pc' : Int)) (K : Goes p e below P T (mkF m pc' Ls (st))) : Goes p e below P T (mkF m pc Ls (y :: x :: st)) := by
  obtain ⟨⟨hx, hb', -⟩, locs, cells, slots, X, -⟩ := w
  exact K.step fun t q => XT.acmpYes X.here hx rfl (pc0 := pc) (pc' := pc') rfl (hb hb' d) rfl hx1 hy1 hc (by omega) (by omega) q
theorem i_acmp_ne_N (w : Wk p l e R s m args below meth c Z own bytes maxL ret mn n0 h0 ws T h k n) {o : Int} {x y : Value} (hx1 : x.isRef = true) (hy1 : y.isRef = true) (hc : XT.acmp .ne x y = false) (d : decode bytes pc = .ok (.if_acmp .ne o, 3)) (hp : pc + 3 = pc') (K : Goes p e below P T (mkF m pc' Ls (st))) : Goes p e below P T (mkF m pc Ls (y :: x :: st)) := by
  obtain ⟨⟨hx, hb', -⟩, locs, cells, slots, X, -⟩ := w
  subst hp
  exact K.step fun t q => XT.acmpNo X.here hx rfl (hb hb' d) rfl hx1 hy1 hc q
theorem i_ldcI (w : Wk p l e R s m args below meth c Z own bytes maxL ret mn n0 h0 ws T h k n) {index : Nat} {z : Int32} (w1 : (Cond.constant own index z).before a0 Z = true) (d : decode bytes pc = .ok (.ldc index, 2)) (hp : pc + 2 = pc') (K : Goes p e below P T (mkF m pc' Ls (.int z :: st))) : Goes p e below P T (mkF m pc Ls (st)) := by
  obtain ⟨⟨hx, hb', hml, hZ, hown, -⟩, locs, cells, slots, X, -⟩ := w
  subst hp
  exact K.step fun t q => X.ldcInt hx hown (mvT hZ w1) (g := mkF m pc Ls st) rfl (hb hb' d) t q
theorem i_ldc2 (w : Wk p l e R s m args below meth c Z own bytes maxL ret mn n0 h0 ws T h k n) {index : Nat} {z : Int64} (w1 : (Cond.constantLong own index z).before a0 Z = true) (d : decode bytes pc = .ok (.ldc2_w index, 3)) (hp : pc + 3 = pc') (K : Goes p e below P T (mkF m pc' Ls (.long z :: st))) : Goes p e below P T (mkF m pc Ls (st)) := by
  obtain ⟨⟨hx, hb', hml, hZ, hown, -⟩, locs, cells, slots, X, -⟩ := w
  subst hp
  exact K.step fun t q => X.ldc2Long hx hown (mvT hZ w1) (g := mkF m pc Ls st) rfl (hb hb' d) t q
theorem i_getF (w : Wk p l e R s m args below meth c Z own bytes maxL ret mn n0 h0 ws T h k n) {index : Nat} {O nm ds : String} {a : Addr} {v : Value} (d : decode bytes pc = .ok (.getfield index, 3)) (w1 : (Cond.fieldLink own index O nm ds).before a0 Z = true) (F : Fld Z h a O nm ds v) (hp : pc + 3 = pc') (K : ∀ T', Wk p l e R s m args below meth c Z own bytes maxL ret mn n0 h0 ws T' h k n → Goes p e below P T' (mkF m pc' Ls (v :: st))) : Goes p e below P T (mkF m pc Ls (.ref a :: st)) := by
  obtain ⟨cx, locs, cells, slots, X, e1, r⟩ := w
  obtain ⟨hx, hb', hml, hZ, hown, cr⟩ := id cx
  subst hp
  obtain ⟨T', X', e', stp⟩ := getF X hx hZ hown (host := "") (Or.inl w1) Via.refl e1 F (g := mkF m pc Ls (.ref a :: st)) rfl rfl (hb hb' d)
  exact (K T' ⟨cx, locs, cells, slots, X', e', r⟩).step stp
theorem i_getS (w : Wk p l e R s m args below meth c Z own bytes maxL ret mn n0 h0 ws T h k n) {index : Nat} {O nm ds : String} {v : Value} (d : decode bytes pc = .ok (.getstatic index, 3)) (w1 : (Cond.fieldLink own index O nm ds).before a0 Z = true) (S : Sta Z Z.heap O nm ds v) (hp : pc + 3 = pc') (K : ∀ T', Wk p l e R s m args below meth c Z own bytes maxL ret mn n0 h0 ws T' h k n → Goes p e below P T' (mkF m pc' Ls (v :: st))) : Goes p e below P T (mkF m pc Ls (st)) := by
  have S' := w.sta S
  obtain ⟨cx, locs, cells, slots, X, e1, r⟩ := w
  obtain ⟨hx, hb', hml, hZ, hown, cr⟩ := id cx
  subst hp
  obtain ⟨T', X', e', stp⟩ := getS X hx hZ hown (host := "") w1 Via.refl e1 S' (g := mkF m pc Ls st) rfl (hb hb' d)
  exact (K T' ⟨cx, locs, cells, slots, X', e', r⟩).step stp
theorem i_putF (w : Wk p l e R s m args below meth c Z own bytes maxL ret mn n0 h0 ws T h k n) {index kk : Nat} {O nm ds C : String} {ty : FieldType} {a : Addr} {v old : Value} (d : decode bytes pc = .ok (.putfield index, 3)) (w1 : (Cond.fieldLink own index O nm ds).before a0 Z = true) (F : Fld Z h a O nm ds old) (E : Exa Z h a C)
    (L : (Cond.lays C O nm ds).before a0 Z = true ∨ ((Cond.laysFinal C O nm ds).before a0 Z = true ∧ own = O ∧ mn = "<init>")) (wi : (Cond.instantiable C kk).before a0 Z = true) (hty : parseFieldDescriptor ds = some ty) (hn : narrow ty v = v) (hf : fits ty v = true) (ha : a ∈ ws ∨ h0.size ≤ a) (hp : pc + 3 = pc')
    (K : ∀ T' h', Wk p l e R s m args below meth c Z own bytes maxL ret mn n0 h0 ws T' h' k n → Wr h h' a (Jvm.RoadKit.slotOf Z O nm ds) v → Goes p e below P T' (mkF m pc' Ls (st))) : Goes p e below P T (mkF m pc Ls (v :: .ref a :: st)) := by
  have hna := w.wsn ha
  obtain ⟨cx, locs, cells, slots, X, e1, N, b1, b2, O1, K1⟩ := w
  obtain ⟨hx, hb', hml, hZ, hown, hret, hlk, hmn, cr⟩ := id cx
  subst hp
  obtain ⟨T', h', X', e', W, stp⟩ := putF X hx hZ hown (host := "") (Or.inl w1) Via.refl e1 F E (L.imp id fun q => ⟨q.1, q.2.1, hmn.trans q.2.2⟩) wi hty hn hf (g := mkF m pc Ls (v :: .ref a :: st)) rfl rfl (hb hb' d)
  exact (K T' h' ⟨cx, _, cells, slots, X', e', Fr.snoc X' N hna, b1, b2, O1.wr W hna, K1.wr W ha⟩ W).step stp
theorem i_new (w : Wk p l e R s m args below meth c Z own bytes maxL ret mn n0 h0 ws T h k n) {index sz : Nat} {C : String} (d : decode bytes pc = .ok (.new index, 3)) (w1 : (Cond.classLink own index C).before a0 Z = true) (w2 : (Cond.instantiable C sz).before a0 Z = true) (w3 : (Cond.initialized C).before a0 Z = true) (hc : k + 1 ≤ R.cells) (hs : n + sz ≤ R.slots) (hp : pc + 3 = pc')
    (K : ∀ a T' h', a = h.size → Wk p l e R s m args below meth c Z own bytes maxL ret mn n0 h0 ws T' h' (k + 1) (n + sz) → h0.size ≤ a → Ext h h' → Exa Z h' a C → (∀ {O nm ds : String} {ty : FieldType}, Laid Z a0 C O nm ds → parseFieldDescriptor ds = some ty → Fld Z h' a O nm ds (defaultValue ty)) → Goes p e below P T' (mkF m pc' Ls (.ref a :: st))) : Goes p e below P T (mkF m pc Ls (st)) := by
  obtain ⟨cx, locs, cells, slots, X, e1, N, b1, b2, O1, K1⟩ := w
  obtain ⟨hx, hb', hml, hZ, hown, cr⟩ := id cx
  subst hp
  obtain ⟨T', h', X', e', E, A, D, -, stp⟩ := newO X hx hZ hown w1 w2 w3 e1 (g := mkF m pc Ls st) rfl (hb hb' d) (by omega) (by omega)
  exact (K h.size T' h' rfl ⟨cx, locs, _, _, X', e', N, by omega, by omega, O1.ext E, K1.ext E⟩ K1.1 E A D).step stp
/-- the array at a holds just vs -/
def Ary (Z : State) (h : Heap) (a : Addr) (ca : ClassId) (ty : FieldType) (vs : List Value) : Prop := vs.length < 2147483648 ∧ Arv Z h a ca ty (Int32.ofNat vs.length) vs (defaultValue ty)
theorem Ary.lt {Z : State} {h : Heap} {a : Addr} {ca : ClassId} {ty : FieldType} {vs : List Value} (F : Ary Z h a ca ty vs) : a < h.size := F.2.lt
theorem Ary.ext {Z : State} {h h' : Heap} {a : Addr} {ca : ClassId} {ty : FieldType} {vs : List Value} (E : Ext h h') (F : Ary Z h a ca ty vs) : Ary Z h' a ca ty vs := ⟨F.1, F.2.ext E⟩
theorem Ary.keep {Z : State} {h h' : Heap} {a : Addr} {ca : ClassId} {ty : FieldType} {vs : List Value} {ws : List Addr} (F : Ary Z h a ca ty vs) (K : Keep h h' ws) (q : a ∉ ws) : Ary Z h' a ca ty vs := ⟨F.1, F.2.keep K q⟩
theorem Ary.other {Z : State} {h h' : Heap} {a b : Addr} {ca : ClassId} {ty : FieldType} {vs : List Value} {sl : Nat} {v : Value} (F : Ary Z h b ca ty vs) (W : Wr h h' a sl v) (q : b ≠ a) : Ary Z h' b ca ty vs := ⟨F.1, F.2.other W q⟩
theorem clamp_ofNat {i : Nat} (h : i < 2147483648) : (Int32.ofNat i).toNatClampNeg = i := by
  have e : (Int32.ofNat i).toInt = i := Int32.toInt_ofNat_small h
  show (Int32.ofNat i).toInt.toNat = i
  rw [e]; rfl
theorem nonneg_ofNat {i : Nat} (h : i < 2147483648) : ¬ Int32.ofNat i < 0 := by
  rw [Int32.lt_iff_toInt_lt, Int32.toInt_ofNat_small h]; show ¬ (i : Int) < 0; omega
theorem Ary.in {Z : State} {h : Heap} {a : Addr} {ca : ClassId} {ty : FieldType} {vs : List Value} {i : Nat} {cl : Cell} (hv : vs.length < 2147483648) (S : cl.slots.size = (Int32.ofNat vs.length).toNatClampNeg) (hi : i < vs.length) : ¬ (Int32.ofNat i < 0 ∨ cl.slots.size ≤ (Int32.ofNat i).toNatClampNeg) := by
  rw [S, clamp_ofNat hv, clamp_ofNat (by omega)]
  exact fun q => q.elim (nonneg_ofNat (by omega)) (by omega)
theorem i_newP (w : Wk p l e R s m args below meth c Z own bytes maxL ret mn n0 h0 ws T h k n) {aty : ArrayType} {N : Nat} {z : Int32} (d : decode bytes pc = .ok (.newarray aty, 2)) (w1 : (Cond.arrayClass (newarray.typeOf aty)).before a0 Z = true) (hz : z = Int32.ofNat N) (hN : N ≤ 65536) {cap : Nat} (hcap : N ≤ cap) (hcap' : cap ≤ 65536) (hc : k + 1 ≤ R.cells) (hs : n + cap ≤ R.slots) (hp : pc + 2 = pc')
    (K : ∀ a T' h' ca, a = h.size → Wk p l e R s m args below meth c Z own bytes maxL ret mn n0 h0 ws T' h' (k + 1) (n + cap) → h0.size ≤ a → Ext h h' → Ary Z h' a ca (newarray.typeOf aty) (List.replicate N (defaultValue (newarray.typeOf aty))) → Goes p e below P T' (mkF m pc' Ls (.ref a :: st))) : Goes p e below P T (mkF m pc Ls (.int z :: st)) := by
  obtain ⟨cx, locs, cells, slots, X, e1, N1, b1, b2, O1, K1⟩ := w
  obtain ⟨hx, hb', hml, hZ, hown, cr⟩ := id cx
  subst hp hz
  have cl := clamp_ofNat (i := N) (by omega)
  obtain ⟨T', h', cA, X', e', E, A, stp⟩ := newP X hx hZ w1 e1 (g := mkF m pc Ls (.int (Int32.ofNat N) :: st)) rfl (hb hb' d) rfl (nonneg_ofNat (by omega)) (cap := cap) (by rw [cl]; exact hcap) (by omega) (by omega) (by omega)
  refine (K h.size T' h' cA rfl ⟨cx, locs, _, _, X', e', N1, by omega, by omega, O1.ext E, K1.ext E⟩ K1.1 E ⟨by simp; omega, ?_⟩).step stp
  rw [List.length_replicate]
  exact (Arv.new A (nonneg_ofNat (by omega))).pad (by simpa using pad_rep [] (defaultValue (newarray.typeOf aty)) N)
theorem i_iaload (w : Wk p l e R s m args below meth c Z own bytes maxL ret mn n0 h0 ws T h k n) {a : Addr} {ca : ClassId} {vs : List Value} {i : Nat} {j z : Int32} (d : decode bytes pc = .ok (.iaload, 1)) (A : Ary Z h a ca .int vs) (hj : j = Int32.ofNat i) (hv : vs[i]? = some (.int z)) (hp : pc + 1 = pc') (K : Goes p e below P T (mkF m pc' Ls (.int z :: st))) : Goes p e below P T (mkF m pc Ls (.int j :: .ref a :: st)) := by
  obtain ⟨⟨hx, hb', hml, hZ, cr⟩, locs, cells, slots, X, e1, r⟩ := w
  subst hp hj
  obtain ⟨hl, cl, Ar, q, S, M, H, U⟩ := A
  obtain ⟨hi, hv'⟩ := List.getElem?_eq_some_iff.mp hv
  have hin := Ary.in (Z := Z) (h := h) (a := a) (ca := ca) (ty := .int) hl S hi
  exact K.step fun t q' => X.iaload hx (j := Int32.ofNat i) (v := .int z) (by rw [e1]; exact Ar.1) (State.isArrayOf_alike hZ.alike Ar.2.1) Ar.2.2 hin (Has.at H hin (by rw [clamp_ofNat (by omega), List.getD_eq_getElem?_getD, hv]; rfl)) (g := mkF m pc Ls (.int (Int32.ofNat i) :: .ref a :: st)) rfl rfl (hb hb' d) t q'
theorem i_caload (w : Wk p l e R s m args below meth c Z own bytes maxL ret mn n0 h0 ws T h k n) {a : Addr} {ca : ClassId} {vs : List Value} {i : Nat} {j z : Int32} (d : decode bytes pc = .ok (.caload, 1)) (A : Ary Z h a ca .char vs) (hj : j = Int32.ofNat i) (hv : vs[i]? = some (.int z)) (hp : pc + 1 = pc') (K : Goes p e below P T (mkF m pc' Ls (.int z :: st))) : Goes p e below P T (mkF m pc Ls (.int j :: .ref a :: st)) := by
  obtain ⟨⟨hx, hb', hml, hZ, cr⟩, locs, cells, slots, X, e1, r⟩ := w
  subst hp hj
  obtain ⟨hl, cl, Ar, q, S, M, H, U⟩ := A
  obtain ⟨hi, hv'⟩ := List.getElem?_eq_some_iff.mp hv
  have hin := Ary.in (Z := Z) (h := h) (a := a) (ca := ca) (ty := .char) hl S hi
  exact K.step fun t q' => X.caload hx (j := Int32.ofNat i) (v := .int z) (by rw [e1]; exact Ar.1) (State.isArrayOf_alike hZ.alike Ar.2.1) Ar.2.2 hin (Has.at H hin (by rw [clamp_ofNat (by omega), List.getD_eq_getElem?_getD, hv]; rfl)) (g := mkF m pc Ls (.int (Int32.ofNat i) :: .ref a :: st)) rfl rfl (hb hb' d) t q'
theorem i_baload (w : Wk p l e R s m args below meth c Z own bytes maxL ret mn n0 h0 ws T h k n) {a : Addr} {ca : ClassId} {vs : List Value} {i : Nat} {j z : Int32} (d : decode bytes pc = .ok (.baload, 1)) (A : Ary Z h a ca .byte vs) (hj : j = Int32.ofNat i) (hv : vs[i]? = some (.int z)) (hp : pc + 1 = pc') (K : Goes p e below P T (mkF m pc' Ls (.int z :: st))) : Goes p e below P T (mkF m pc Ls (.int j :: .ref a :: st)) := by
  obtain ⟨⟨hx, hb', hml, hZ, cr⟩, locs, cells, slots, X, e1, r⟩ := w
  subst hp hj
  obtain ⟨hl, cl, Ar, q, S, M, H, U⟩ := A
  obtain ⟨hi, hv'⟩ := List.getElem?_eq_some_iff.mp hv
  have hin := Ary.in (Z := Z) (h := h) (a := a) (ca := ca) (ty := .byte) hl S hi
  exact K.step fun t q' => X.baloadBytes hx (j := Int32.ofNat i) (v := .int z) (by rw [e1]; exact Ar.1) (State.isArrayOf_alike hZ.alike Ar.2.1) Ar.2.2 hin (Has.at H hin (by rw [clamp_ofNat (by omega), List.getD_eq_getElem?_getD, hv]; rfl)) (g := mkF m pc Ls (.int (Int32.ofNat i) :: .ref a :: st)) rfl rfl (hb hb' d) t q'
theorem i_aaload (w : Wk p l e R s m args below meth c Z own bytes maxL ret mn n0 h0 ws T h k n) {a : Addr} {ca : ClassId} {vs : List Value} {i : Nat} {j : Int32} {v : Value} {ty : FieldType} (d : decode bytes pc = .ok (.aaload, 1)) (A : Ary Z h a ca ty vs) (hty : ty.isReference = true) (hj : j = Int32.ofNat i) (hv : vs[i]? = some v) (hp : pc + 1 = pc') (K : Goes p e below P T (mkF m pc' Ls (v :: st))) : Goes p e below P T (mkF m pc Ls (.int j :: .ref a :: st)) := by
  obtain ⟨⟨hx, hb', hml, hZ, cr⟩, locs, cells, slots, X, e1, r⟩ := w
  subst hp hj
  obtain ⟨hl, cl, Ar, q, S, M, H, U⟩ := A
  obtain ⟨hi, hv'⟩ := List.getElem?_eq_some_iff.mp hv
  have hin := Ary.in (Z := Z) (h := h) (a := a) (ca := ca) (ty := ty) hl S hi
  exact K.step fun t q' => X.aaload hx (j := Int32.ofNat i) (v := v) (by rw [e1]; exact Ar.1) (State.isArrayOf_alike hZ.alike Ar.2.1) hty Ar.2.2 hin (Has.at H hin (by rw [clamp_ofNat (by omega), List.getD_eq_getElem?_getD, hv]; rfl)) (g := mkF m pc Ls (.int (Int32.ofNat i) :: .ref a :: st)) rfl rfl (hb hb' d) t q'
theorem i_iastore (w : Wk p l e R s m args below meth c Z own bytes maxL ret mn n0 h0 ws T h k n) {a : Addr} {ca : ClassId} {vs : List Value} {i : Nat} {j x : Int32} (d : decode bytes pc = .ok (.iastore, 1)) (A : Ary Z h a ca .int vs) (hj : j = Int32.ofNat i) (hi : i < vs.length) (ha : a ∈ ws ∨ h0.size ≤ a) (hp : pc + 1 = pc')
    (K : ∀ T' h', Wk p l e R s m args below meth c Z own bytes maxL ret mn n0 h0 ws T' h' k n → Keep h h' [a] → Ary Z h' a ca .int (vs.set i (.int x)) → Goes p e below P T' (mkF m pc' Ls (st))) : Goes p e below P T (mkF m pc Ls (.int x :: .int j :: .ref a :: st)) := by
  have hna := w.wsn ha
  obtain ⟨cx, locs, cells, slots, X, e1, N, b1, b2, O1, K1⟩ := w
  obtain ⟨hx, hb', hml, hZ, cr⟩ := id cx
  subst hp hj
  obtain ⟨hl, cl, Ar, q, S, M, H, U⟩ := A
  have hin := Ary.in (Z := Z) (h := h) (a := a) (ca := ca) (ty := .int) hl S hi
  obtain ⟨T', h', X', e', W, stp⟩ := stI X hx hZ e1 Ar (j := Int32.ofNat i) hin (g := mkF m pc Ls (.int x :: .int (Int32.ofNat i) :: .ref a :: st)) rfl rfl (hb hb' d)
  refine (K T' h' ⟨cx, _, cells, slots, X', e', Fr.snoc X' N hna, b1, b2, O1.wr W hna, K1.wr W ha⟩ (Keep.of_wr W) ⟨by simpa using hl, ?_⟩).step stp
  rw [List.length_set]
  exact Arv.set Ar q S M H U rfl W i (clamp_ofNat (by omega)) hi
theorem i_castore (w : Wk p l e R s m args below meth c Z own bytes maxL ret mn n0 h0 ws T h k n) {a : Addr} {ca : ClassId} {vs : List Value} {i : Nat} {j x : Int32} (d : decode bytes pc = .ok (.castore, 1)) (A : Ary Z h a ca .char vs) (hj : j = Int32.ofNat i) (hi : i < vs.length) (ha : a ∈ ws ∨ h0.size ≤ a) (hp : pc + 1 = pc')
    (K : ∀ T' h', Wk p l e R s m args below meth c Z own bytes maxL ret mn n0 h0 ws T' h' k n → Keep h h' [a] → Ary Z h' a ca .char (vs.set i (.int (nar .char x))) → Goes p e below P T' (mkF m pc' Ls (st))) : Goes p e below P T (mkF m pc Ls (.int x :: .int j :: .ref a :: st)) := by
  have hna := w.wsn ha
  obtain ⟨cx, locs, cells, slots, X, e1, N, b1, b2, O1, K1⟩ := w
  obtain ⟨hx, hb', hml, hZ, cr⟩ := id cx
  subst hp hj
  obtain ⟨hl, cl, Ar, q, S, M, H, U⟩ := A
  have hin := Ary.in (Z := Z) (h := h) (a := a) (ca := ca) (ty := .char) hl S hi
  obtain ⟨T', h', X', e', W, stp⟩ := stC X hx hZ e1 Ar (j := Int32.ofNat i) hin (g := mkF m pc Ls (.int x :: .int (Int32.ofNat i) :: .ref a :: st)) rfl rfl (hb hb' d)
  refine (K T' h' ⟨cx, _, cells, slots, X', e', Fr.snoc X' N hna, b1, b2, O1.wr W hna, K1.wr W ha⟩ (Keep.of_wr W) ⟨by simpa using hl, ?_⟩).step stp
  rw [List.length_set]
  exact Arv.set Ar q S M H U (fits_nar_char x) W i (clamp_ofNat (by omega)) hi
theorem i_bastore (w : Wk p l e R s m args below meth c Z own bytes maxL ret mn n0 h0 ws T h k n) {a : Addr} {ca : ClassId} {vs : List Value} {i : Nat} {j x : Int32} (d : decode bytes pc = .ok (.bastore, 1)) (A : Ary Z h a ca .byte vs) (hj : j = Int32.ofNat i) (hi : i < vs.length) (ha : a ∈ ws ∨ h0.size ≤ a) (hp : pc + 1 = pc')
    (K : ∀ T' h', Wk p l e R s m args below meth c Z own bytes maxL ret mn n0 h0 ws T' h' k n → Keep h h' [a] → Ary Z h' a ca .byte (vs.set i (.int (nar .byte x))) → Goes p e below P T' (mkF m pc' Ls (st))) : Goes p e below P T (mkF m pc Ls (.int x :: .int j :: .ref a :: st)) := by
  have hna := w.wsn ha
  obtain ⟨cx, locs, cells, slots, X, e1, N, b1, b2, O1, K1⟩ := w
  obtain ⟨hx, hb', hml, hZ, cr⟩ := id cx
  subst hp hj
  obtain ⟨hl, cl, Ar, q, S, M, H, U⟩ := A
  have hin := Ary.in (Z := Z) (h := h) (a := a) (ca := ca) (ty := .byte) hl S hi
  obtain ⟨T', h', X', e', W, stp⟩ := stB X hx hZ e1 Ar (j := Int32.ofNat i) hin (g := mkF m pc Ls (.int x :: .int (Int32.ofNat i) :: .ref a :: st)) rfl rfl (hb hb' d)
  refine (K T' h' ⟨cx, _, cells, slots, X', e', Fr.snoc X' N hna, b1, b2, O1.wr W hna, K1.wr W ha⟩ (Keep.of_wr W) ⟨by simpa using hl, ?_⟩).step stp
  rw [List.length_set]
  exact Arv.set Ar q S M H U (fits_nar_byte x) W i (clamp_ofNat (by omega)) hi
theorem i_len (w : Wk p l e R s m args below meth c Z own bytes maxL ret mn n0 h0 ws T h k n) {a : Addr} {ca : ClassId} {vs : List Value} {ty : FieldType} {z : Int32} (d : decode bytes pc = .ok (.arraylength, 1)) (A : Ary Z h a ca ty vs) (hz : Int32.ofNat vs.length = z) (hp : pc + 1 = pc') (K : Goes p e below P T (mkF m pc' Ls (.int z :: st))) : Goes p e below P T (mkF m pc Ls (.ref a :: st)) := by
  obtain ⟨⟨hx, hb', hml, hZ, cr⟩, locs, cells, slots, X, e1, r⟩ := w
  subst hp hz
  obtain ⟨hl, cl, Ar, q, S, M, H, U⟩ := A
  exact K.step fun t q' => X.arraylength hx (by rw [e1]; exact Ar.1) (State.isArrayOf_alike hZ.alike Ar.2.1) (g := mkF m pc Ls (.ref a :: st)) rfl rfl (hb hb' d) t (by rw [len_of S M]; exact q')
theorem i_initO (w : Wk p l e R s m args below meth c Z own bytes maxL ret mn n0 h0 ws T h k n) {index : Nat} {a : Addr} (d : decode bytes pc = .ok (.invokespecial index, 3)) (w1 : (Cond.methodLink own index Lib.objectInit).before a0 Z = true) (w2 : (Cond.instanceMethod Lib.objectInit).before a0 Z = true) (w3 : (Cond.code Lib.objectInit ⟨#[0xb1]⟩ 1 none).before a0 Z = true) (hsz : Ls.size = maxL) (hf : 1 ≤ R.frames) {W : Nat} (hW : (st.map fun v => v.category).sum ≤ W) (hl : W + 12 ≤ R.locals) (hp : pc + 3 = pc')
    (K : ∀ T', Wk p l e R s m args below meth c Z own bytes maxL ret mn n0 h0 ws T' h k n → Goes p e below P T' (mkF m pc' Ls (st))) : Goes p e below P T (mkF m pc Ls (.ref a :: st)) := by
  obtain ⟨cx, locs, cells, slots, X, e1, r⟩ := w
  obtain ⟨hx, hb', hml, hZ, hown, cr⟩ := id cx
  subst hp
  obtain ⟨T', X', e', stp⟩ := initO X hx hZ hown w1 w2 w3 e1 (g := mkF m pc Ls (.ref a :: st)) rfl (hsz.trans hml.symm) rfl (hb hb' d) hf (W := W) (by show 2 * 0 + _ ≤ _; omega) hl
  exact (K T' ⟨cx, locs, cells, slots, X', e', r⟩).step stp
end Steps
/-- the end: narrow -/
def PN (s : State) (n0 : Nat) (h0 : Heap) (ws : List Addr) (Q : Option Value → Heap → Prop) (kc ns : Nat) (o : Outcome) (t : State) : Prop := ∃ v L, o = .returned v ∧ (Q v t.heap ∧ Fr n0 L ∧ Keep h0 t.heap ws) ∧ FrameEnd s o t L kc ns
/-- the end: wide (the walk may have interned) -/
def PW (s : State) (n0 : Nat) (h0 : Heap) (ws : List Addr) (Q : Option Value → Heap → Prop) (kc ns : Nat) (o : Outcome) (t : State) : Prop := ∃ v L, o = .returned v ∧ (Q v t.heap ∧ Fr n0 L ∧ Keep h0 t.heap ws) ∧ ReturnedEndW s o t L kc ns
/-- **A CONTRACT**, narrow -/
def Ctr (l : Launch) (Z : State) (n0 : Nat) (y : MethodName) (bytes : ByteArray) (maxL : Nat) (ret : Option FieldType) (cs : List Jvm.Cond) (rm : Room) (as' : Array Value) (h0 : Heap) (ws : List Addr) (Q : Option Value → Heap → Prop) : Prop :=
  MetFree l y (head1 (Cond.code y bytes maxL ret :: cs) rm) (fun a U => a = as' ∧ Z.Warmed39 U.vm ∧ U.heap = h0) (fun _ _ _ _ _ => True) (fun _ U o U' => PN U n0 h0 ws Q rm.cells rm.slots o U')
def CtrW (l : Launch) (Z : State) (n0 : Nat) (y : MethodName) (bytes : ByteArray) (maxL : Nat) (ret : Option FieldType) (cs : List Jvm.Cond) (rm : Room) (as' : Array Value) (h0 : Heap) (ws : List Addr) (Q : Option Value → Heap → Prop) : Prop :=
  MetFree l y (head1 (Cond.code y bytes maxL ret :: cs) rm) (fun a U => a = as' ∧ Z.Warmed39 U.vm ∧ U.heap = h0) (fun _ _ _ _ _ => True) (fun _ U o U' => PW U n0 h0 ws Q rm.cells rm.slots o U')
section Ends
variable {p : Program} {l : Launch} {e : Env} {R : Room} {s : State} {m : MethodId} {args : Array Value} {below : List Frame} {meth : Method} {c : Code} {Z : State} {own : String} {bytes : ByteArray} {maxL : Nat} {ret : Option FieldType} {mn : String} {n0 : Nat} {h0 : Heap} {ws : List Addr} {T : State} {h : Heap} {k n : Nat} {P : Outcome → State → Prop} {Ls : Array Slot} {st : List Value} {pc pc' : Nat} {a0 : Array Value} {Q : Option Value → Heap → Prop} {kc ns : Nat}
theorem i_retI (w : Wk p l e R s m args below meth c Z own bytes maxL ret mn n0 h0 ws T h k n) {z : Int32} (d : decode bytes pc = .ok (.ireturn, 1)) (hr : ret = some .int) (q : Q (some (.int z)) h) (hk : k ≤ kc) (hn : n ≤ ns) : Goes p e below (PN s n0 h0 ws Q kc ns) T (mkF m pc Ls (.int z :: st)) := by
  obtain ⟨⟨hx, hb', hml, hZ, hown, hret, hlk, cr⟩, locs, cells, slots, X, e1, N, b1, b2, O1, K1⟩ := w
  obtain ⟨fs, hl, hrun, hended, hW, hsame⟩ := X.leave (v := some (.int z)) (fun h => by first | rfl | (rw [hret, hr] at h; cases h)) hlk
  exact ⟨_, _, retOut X hx (t := .int) (i := .ireturn) (hret.trans hr) rfl (Or.inl ⟨rfl, by simp, z, rfl⟩) (hb hb' d) hl, hrun, hended, _, _, rfl, ⟨by show Q _ T.heap; rw [e1]; exact q, N, by show Keep h0 T.heap ws; rw [e1]; exact K1⟩, ⟨_, rfl⟩, hW, hsame.mono (by omega) (by omega)⟩
theorem i_retIW {s0 : State} {vm0 : Vm} (w : Wk p l e R (s0.setVm vm0) m args below meth c Z own bytes maxL ret mn n0 h0 ws T h k n) {k0 : Nat} (hS : s0.Since vm0 k0) (hk0 : k0 ≤ h.size) {z : Int32} (d : decode bytes pc = .ok (.ireturn, 1)) (hr : ret = some .int) (q : Q (some (.int z)) h) (hk : k ≤ kc) (hn : n ≤ ns) : Goes p e below (PW s0 n0 h0 ws Q kc ns) T (mkF m pc Ls (.int z :: st)) := by
  obtain ⟨⟨hx, hb', hml, hZ, hown, hret, hlk, cr⟩, locs, cells, slots, X, e1, N, b1, b2, O1, K1⟩ := w
  obtain ⟨fs, hl, hrun, hended, hE1, hE2, hE3, hE4⟩ := X.leaveW hS (by rw [e1]; exact hk0) (v := some (.int z)) (fun h => by first | rfl | (rw [hret, hr] at h; cases h)) hlk
  exact ⟨_, _, retOut X hx (t := .int) (i := .ireturn) (hret.trans hr) rfl (Or.inl ⟨rfl, by simp, z, rfl⟩) (hb hb' d) hl, hrun, hended, _, _, rfl, ⟨by show Q _ T.heap; rw [e1]; exact q, N, by show Keep h0 T.heap ws; rw [e1]; exact K1⟩, hE1, hE2, hE3, hE4.mono (by omega) (by omega)⟩
theorem i_retN (w : Wk p l e R s m args below meth c Z own bytes maxL ret mn n0 h0 ws T h k n) {z : Int32} {t : FieldType} (d : decode bytes pc = .ok (.ireturn, 1)) (hr : ret = some t) (ht : t = .boolean ∨ t = .byte ∨ t = .char ∨ t = .short) (q : Q (some (.int (nar t z))) h) (hk : k ≤ kc) (hn : n ≤ ns) : Goes p e below (PN s n0 h0 ws Q kc ns) T (mkF m pc Ls (.int z :: st)) := by
  obtain ⟨⟨hx, hb', hml, hZ, hown, hret, hlk, cr⟩, locs, cells, slots, X, e1, N, b1, b2, O1, K1⟩ := w
  obtain ⟨fs, hl, hrun, hended, hW, hsame⟩ := X.leave (v := some (.int (nar t z))) (fun h => by first | rfl | (rw [hret, hr] at h; cases h)) hlk
  exact ⟨_, _, retN X hx (hret.trans hr) ht (hb hb' d) hl, hrun, hended, _, _, rfl, ⟨by show Q _ T.heap; rw [e1]; exact q, N, by show Keep h0 T.heap ws; rw [e1]; exact K1⟩, ⟨_, rfl⟩, hW, hsame.mono (by omega) (by omega)⟩
theorem i_retNW {s0 : State} {vm0 : Vm} (w : Wk p l e R (s0.setVm vm0) m args below meth c Z own bytes maxL ret mn n0 h0 ws T h k n) {k0 : Nat} (hS : s0.Since vm0 k0) (hk0 : k0 ≤ h.size) {z : Int32} {t : FieldType} (d : decode bytes pc = .ok (.ireturn, 1)) (hr : ret = some t) (ht : t = .boolean ∨ t = .byte ∨ t = .char ∨ t = .short) (q : Q (some (.int (nar t z))) h) (hk : k ≤ kc) (hn : n ≤ ns) : Goes p e below (PW s0 n0 h0 ws Q kc ns) T (mkF m pc Ls (.int z :: st)) := by
  obtain ⟨⟨hx, hb', hml, hZ, hown, hret, hlk, cr⟩, locs, cells, slots, X, e1, N, b1, b2, O1, K1⟩ := w
  obtain ⟨fs, hl, hrun, hended, hE1, hE2, hE3, hE4⟩ := X.leaveW hS (by rw [e1]; exact hk0) (v := some (.int (nar t z))) (fun h => by first | rfl | (rw [hret, hr] at h; cases h)) hlk
  exact ⟨_, _, retN X hx (hret.trans hr) ht (hb hb' d) hl, hrun, hended, _, _, rfl, ⟨by show Q _ T.heap; rw [e1]; exact q, N, by show Keep h0 T.heap ws; rw [e1]; exact K1⟩, hE1, hE2, hE3, hE4.mono (by omega) (by omega)⟩
theorem i_retA (w : Wk p l e R s m args below meth c Z own bytes maxL ret mn n0 h0 ws T h k n) {v : Value} {t : FieldType} (d : decode bytes pc = .ok (.areturn, 1)) (hr : ret = some t) (ht : t.isReference = true) (hv : v.isRef = true) (q : Q (some v) h) (hk : k ≤ kc) (hn : n ≤ ns) : Goes p e below (PN s n0 h0 ws Q kc ns) T (mkF m pc Ls (v :: st)) := by
  obtain ⟨⟨hx, hb', hml, hZ, hown, hret, hlk, cr⟩, locs, cells, slots, X, e1, N, b1, b2, O1, K1⟩ := w
  obtain ⟨fs, hl, hrun, hended, hW, hsame⟩ := X.leave (v := some v) (fun h => by first | rfl | (rw [hret, hr] at h; cases h)) hlk
  exact ⟨_, _, retOut X hx (hret.trans hr) (by cases t <;> cases v <;> simp_all [narrow, Value.isRef]) (Or.inr (Or.inr (Or.inr (Or.inr ⟨rfl, ht, hv⟩)))) (hb hb' d) hl, hrun, hended, _, _, rfl, ⟨by show Q _ T.heap; rw [e1]; exact q, N, by show Keep h0 T.heap ws; rw [e1]; exact K1⟩, ⟨_, rfl⟩, hW, hsame.mono (by omega) (by omega)⟩
theorem i_retAW {s0 : State} {vm0 : Vm} (w : Wk p l e R (s0.setVm vm0) m args below meth c Z own bytes maxL ret mn n0 h0 ws T h k n) {k0 : Nat} (hS : s0.Since vm0 k0) (hk0 : k0 ≤ h.size) {v : Value} {t : FieldType} (d : decode bytes pc = .ok (.areturn, 1)) (hr : ret = some t) (ht : t.isReference = true) (hv : v.isRef = true) (q : Q (some v) h) (hk : k ≤ kc) (hn : n ≤ ns) : Goes p e below (PW s0 n0 h0 ws Q kc ns) T (mkF m pc Ls (v :: st)) := by
  obtain ⟨⟨hx, hb', hml, hZ, hown, hret, hlk, cr⟩, locs, cells, slots, X, e1, N, b1, b2, O1, K1⟩ := w
  obtain ⟨fs, hl, hrun, hended, hE1, hE2, hE3, hE4⟩ := X.leaveW hS (by rw [e1]; exact hk0) (v := some v) (fun h => by first | rfl | (rw [hret, hr] at h; cases h)) hlk
  exact ⟨_, _, retOut X hx (hret.trans hr) (by cases t <;> cases v <;> simp_all [narrow, Value.isRef]) (Or.inr (Or.inr (Or.inr (Or.inr ⟨rfl, ht, hv⟩)))) (hb hb' d) hl, hrun, hended, _, _, rfl, ⟨by show Q _ T.heap; rw [e1]; exact q, N, by show Keep h0 T.heap ws; rw [e1]; exact K1⟩, hE1, hE2, hE3, hE4.mono (by omega) (by omega)⟩
theorem i_ret0 (w : Wk p l e R s m args below meth c Z own bytes maxL ret mn n0 h0 ws T h k n) (d : decode bytes pc = .ok (.return_, 1)) (hr : ret = none) (q : Q (none) h) (hk : k ≤ kc) (hn : n ≤ ns) : Goes p e below (PN s n0 h0 ws Q kc ns) T (mkF m pc Ls ([])) := by
  obtain ⟨⟨hx, hb', hml, hZ, hown, hret, hlk, cr⟩, locs, cells, slots, X, e1, N, b1, b2, O1, K1⟩ := w
  obtain ⟨fs, hl, hrun, hended, hW, hsame⟩ := X.leave (v := none) (fun h => by first | rfl | (rw [hret, hr] at h; cases h)) hlk
  exact ⟨_, _, X.returnOut hx (hret.trans hr) (hb hb' d) hl, hrun, hended, _, _, rfl, ⟨by show Q _ T.heap; rw [e1]; exact q, N, by show Keep h0 T.heap ws; rw [e1]; exact K1⟩, ⟨_, rfl⟩, hW, hsame.mono (by omega) (by omega)⟩
theorem i_ret0W {s0 : State} {vm0 : Vm} (w : Wk p l e R (s0.setVm vm0) m args below meth c Z own bytes maxL ret mn n0 h0 ws T h k n) {k0 : Nat} (hS : s0.Since vm0 k0) (hk0 : k0 ≤ h.size) (d : decode bytes pc = .ok (.return_, 1)) (hr : ret = none) (q : Q (none) h) (hk : k ≤ kc) (hn : n ≤ ns) : Goes p e below (PW s0 n0 h0 ws Q kc ns) T (mkF m pc Ls ([])) := by
  obtain ⟨⟨hx, hb', hml, hZ, hown, hret, hlk, cr⟩, locs, cells, slots, X, e1, N, b1, b2, O1, K1⟩ := w
  obtain ⟨fs, hl, hrun, hended, hE1, hE2, hE3, hE4⟩ := X.leaveW hS (by rw [e1]; exact hk0) (v := none) (fun h => by first | rfl | (rw [hret, hr] at h; cases h)) hlk
  exact ⟨_, _, X.returnOut hx (hret.trans hr) (hb hb' d) hl, hrun, hended, _, _, rfl, ⟨by show Q _ T.heap; rw [e1]; exact q, N, by show Keep h0 T.heap ws; rw [e1]; exact K1⟩, hE1, hE2, hE3, hE4.mono (by omega) (by omega)⟩
end Ends
theorem enter {l : Launch} {Z : State} {n0 : Nat} {y : MethodName} {bytes : ByteArray} {maxL : Nat} {ret : Option FieldType} {cs : List Jvm.Cond} {rm : Room} {as' : Array Value} {h0 : Heap} {ws : List Addr} {Q : Option Value → Heap → Prop} {Ls : Array Slot}
    (pn : plainFor y = true) (ef : ∀ m, entryFrame m as' maxL = mkF m 0 Ls []) (O : Old Z n0 h0) (hws : ∀ x ∈ ws, n0 ≤ x)
    (body : ∀ p e s m below meth c T, Wk p l e rm s m as' below meth c Z y.cls bytes maxL ret y.name n0 h0 ws T h0 0 0 → Goes p e below (PN s n0 h0 ws Q rm.cells rm.slots) T (mkF m 0 Ls [])) :
    Ctr l Z n0 y bytes maxL ret cs rm as' h0 ws Q := by
  refine MetFree.of_bodySF pn hisR ?_
  intro p e s m args below meth c s₁ Bd hml0 hP hK
  obtain ⟨rfl, hZ, hh⟩ := hP
  rw [ef m]
  exact body p e s m below meth c s₁ ⟨⟨Bd.exec, Bd.bytes, hml0, hZ, findClass_of_methodNamed Bd.named, Bd.returns, Bd.notSynchronized, (name_of_methodNamed Bd.named Bd.method).1, hws, Nat.le_trans (Nat.le_of_eq O.1.symm) O.2.1⟩,
    [], 0, 0, Stand.of_body Bd, by rw [← hh, Bd.state]; rfl, Fr.nil n0, Nat.le_refl _, Nat.le_refl _, O, Keep.refl _ _⟩
theorem enterW {l : Launch} {Z : State} {n0 : Nat} {y : MethodName} {bytes : ByteArray} {maxL : Nat} {ret : Option FieldType} {cs : List Jvm.Cond} {rm : Room} {as' : Array Value} {h0 : Heap} {ws : List Addr} {Q : Option Value → Heap → Prop} {Ls : Array Slot}
    (pn : plainFor y = true) (ef : ∀ m, entryFrame m as' maxL = mkF m 0 Ls []) (O : Old Z n0 h0) (hws : ∀ x ∈ ws, n0 ≤ x)
    (body : ∀ p e s m below meth c T, Wk p l e rm (s.setVm s.vm) m as' below meth c Z y.cls bytes maxL ret y.name n0 h0 ws T h0 0 0 → s.Since s.vm h0.size → Goes p e below (PW s n0 h0 ws Q rm.cells rm.slots) T (mkF m 0 Ls [])) :
    CtrW l Z n0 y bytes maxL ret cs rm as' h0 ws Q := by
  refine MetFree.of_bodySF pn hisR ?_
  intro p e s m args below meth c s₁ Bd hml0 hP hK
  obtain ⟨rfl, hZ, hh⟩ := hP
  rw [ef m]
  exact body p e s m below meth c s₁ ⟨⟨Bd.exec, Bd.bytes, hml0, hZ, findClass_of_methodNamed Bd.named, Bd.returns, Bd.notSynchronized, (name_of_methodNamed Bd.named Bd.method).1, hws, Nat.le_trans (Nat.le_of_eq O.1.symm) O.2.1⟩,
    [], 0, 0, Stand.of_body Bd, by rw [← hh, Bd.state]; rfl, Fr.nil n0, Nat.le_refl _, Nat.le_refl _, O, Keep.refl _ _⟩ ⟨State.Warmed39.refl s, fun j p hj hp => absurd (Array.getElem?_eq_some_iff.mp hp).1 (Nat.not_lt.mpr hj)⟩
section Calls
variable {p : Program} {l : Launch} {e : Env} {R : Room} {s : State} {m : MethodId} {args : Array Value} {below : List Frame} {meth : Method} {c : Code} {Z : State} {own : String} {bytes : ByteArray} {maxL : Nat} {ret : Option FieldType} {mn : String} {n0 : Nat} {h0 : Heap} {ws : List Addr} {T : State} {h : Heap} {k n : Nat} {P : Outcome → State → Prop} {Ls : Array Slot} {st : List Value} {pc pc' : Nat} {a0 : Array Value}
theorem c_static (w : Wk p l e R s m args below meth c Z own bytes maxL ret mn n0 h0 ws T h k n) {index : Nat} {y : MethodName} {bytes' : ByteArray} {maxL' : Nat} {ret' : Option FieldType} {rm : Room} {ws' : List Addr} {Q : Option Value → Heap → Prop} {argsL : List Value} {sg : MethodDescriptor} (d : decode bytes pc = .ok (.invokestatic index, 3)) (w1 : (Cond.methodLink own index y).before a0 Z = true) (w2 : (Cond.static y).before a0 Z = true) (w3 : (Cond.initialized y.cls).before a0 Z = true) (w4 : (Cond.code y bytes' maxL' ret').before a0 Z = true) (hy : y.cls ≠ "java/lang/invoke/MethodHandle" ∧ y.cls ≠ "java/lang/invoke/VarHandle") (pd : parseMethodDescriptor y.desc = some sg) (ha : argsL.length = sg.parameters.length)
    (C : Ctr l Z n0 y bytes' maxL' ret' [] rm argsL.toArray h ws' Q) (hsz : Ls.size = maxL) (hf : rm.frames + 1 ≤ R.frames) {W : Nat} (hW : (st.map fun v => v.category).sum ≤ W) (hl : W + (maxL' + 11) + rm.locals ≤ R.locals) (hc : k + rm.cells ≤ R.cells) (hs : n + rm.slots ≤ R.slots) (hws : ∀ x ∈ ws', x ∈ ws ∨ h0.size ≤ x) (hp : pc + 3 = pc') (K : ∀ v T' h', Wk p l e R s m args below meth c Z own bytes maxL ret mn n0 h0 ws T' h' (k + rm.cells) (n + rm.slots) → Keep h h' ws' → Q v h' → Goes p e below P T' (mkF m pc' Ls (v.toList ++ st))) : Goes p e below P T (mkF m pc Ls (argsL.reverse ++ st)) := by
  obtain ⟨cx, locs, cells, slots, X, e1, N, b1, b2, O1, K1⟩ := w
  obtain ⟨hx, hb', hml, hZ, hown, hret, hlk, hmn, hw0, hn0⟩ := id cx
  subst hp
  obtain ⟨_, _, ⟨T', L', k', n'⟩, -, X', ⟨Lc, ⟨q1, N', K'⟩, l1, y1, z1⟩, stp⟩ := Jvm.LawKit.callS X hx (y := y) hown (mvT hZ w1) (mvT hZ w2) (mvT hZ w3) (mvT hZ w4) hy (backOf (W := W) (Q := fun v t L => Q v t ∧ Fr n0 L ∧ Keep h t ws') C hZ w4 w3 hf hl) (g := mkF m pc Ls (argsL.reverse ++ st)) rfl (hsz.trans hml.symm) (argsL := argsL) (rest := st) (fun sig h => by rw [pd] at h; cases h; exact ha) rfl (by show 2 * 0 + _ ≤ _; omega) (hb hb' d) (fun _ _ => ⟨rfl, e1, by show cells + _ ≤ _; omega, by show slots + _ ≤ _; omega⟩)
  dsimp only [Pt.U, Pt.locs, Pt.cells, Pt.slots] at X' l1 y1 z1 stp q1 K'
  subst l1 y1 z1
  refine (K _ T' T'.heap ⟨cx, _, _, _, X', rfl, Fr.app N N', by omega, by omega, O1.keep K' (fun x hx => (hws x hx).elim (hw0 x) (Nat.le_trans hn0)), K1.trans K' hws⟩ K' q1).step stp
theorem c_special (w : Wk p l e R s m args below meth c Z own bytes maxL ret mn n0 h0 ws T h k n) {index : Nat} {y : MethodName} {bytes' : ByteArray} {maxL' : Nat} {rm : Room} {ws' : List Addr} {Q : Option Value → Heap → Prop} {argsL : List Value} {a : Addr} {sg : MethodDescriptor} (d : decode bytes pc = .ok (.invokespecial index, 3)) (hi : y.name = "<init>") (w1 : (Cond.methodLink own index y).before a0 Z = true) (w2 : (Cond.instanceMethod y).before a0 Z = true) (w3 : (Cond.initialized y.cls).before a0 Z = true) (w4 : (Cond.code y bytes' maxL' none).before a0 Z = true) (hy : y.cls ≠ "java/lang/invoke/MethodHandle" ∧ y.cls ≠ "java/lang/invoke/VarHandle") (pd : parseMethodDescriptor y.desc = some sg) (ha : argsL.length = sg.parameters.length)
    (C : Ctr l Z n0 y bytes' maxL' none [] rm (.ref a :: argsL).toArray h ws' Q) (hsz : Ls.size = maxL) (hf : rm.frames + 1 ≤ R.frames) {W : Nat} (hW : (st.map fun v => v.category).sum ≤ W) (hl : W + (maxL' + 11) + rm.locals ≤ R.locals) (hc : k + rm.cells ≤ R.cells) (hs : n + rm.slots ≤ R.slots) (hws : ∀ x ∈ ws', x ∈ ws ∨ h0.size ≤ x) (hp : pc + 3 = pc') (K : ∀ v T' h', Wk p l e R s m args below meth c Z own bytes maxL ret mn n0 h0 ws T' h' (k + rm.cells) (n + rm.slots) → Keep h h' ws' → Q v h' → Goes p e below P T' (mkF m pc' Ls (v.toList ++ st))) : Goes p e below P T (mkF m pc Ls (argsL.reverse ++ .ref a :: st)) := by
  obtain ⟨cx, locs, cells, slots, X, e1, N, b1, b2, O1, K1⟩ := w
  obtain ⟨hx, hb', hml, hZ, hown, hret, hlk, hmn, hw0, hn0⟩ := id cx
  subst hp
  obtain ⟨_, _, ⟨T', L', k', n'⟩, -, X', ⟨Lc, ⟨q1, N', K'⟩, l1, y1, z1⟩, stp⟩ := X.specialBack hx (y := y) hi hown (mvT hZ w1) (mvT hZ w2) (mvT hZ w4) hy (backOf (W := W) (Q := fun v t L => Q v t ∧ Fr n0 L ∧ Keep h t ws') C hZ w4 w3 hf hl) (g := mkF m pc Ls (argsL.reverse ++ .ref a :: st)) rfl (hsz.trans hml.symm) (Steps.refl _) (a := a) (argsL := argsL) (rest := st) (fun sig h => by rw [pd] at h; cases h; exact ha) rfl (by show 2 * 0 + _ ≤ _; omega) (hb hb' d) (fun _ _ => ⟨rfl, e1, by show cells + _ ≤ _; omega, by show slots + _ ≤ _; omega⟩)
  dsimp only [Pt.U, Pt.locs, Pt.cells, Pt.slots] at X' l1 y1 z1 stp q1 K'
  subst l1 y1 z1
  refine (K _ T' T'.heap ⟨cx, _, _, _, X', rfl, Fr.app N N', by omega, by omega, O1.keep K' (fun x hx => (hws x hx).elim (hw0 x) (Nat.le_trans hn0)), K1.trans K' hws⟩ K' q1).step (fun t q => stp.trans q)
theorem c_virtual (w : Wk p l e R s m args below meth c Z own bytes maxL ret mn n0 h0 ws T h k n) {index : Nat} {C : String} {y : MethodName} {bytes' : ByteArray} {maxL' : Nat} {ret' : Option FieldType} {rm : Room} {ws' : List Addr} {Q : Option Value → Heap → Prop} {argsL : List Value} {a : Addr} {sg : MethodDescriptor} (d : decode bytes pc = .ok (.invokevirtual index, 3)) (w1 : (Cond.methodLink own index y).before a0 Z = true) (w2 : (Cond.declares y).before a0 Z = true) (w3 : (Cond.selects C y y).before a0 Z = true) (w4 : (Cond.instanceMethod y).before a0 Z = true) (w5 : (Cond.code y bytes' maxL' ret').before a0 Z = true) (w6 : (Cond.initialized y.cls).before a0 Z = true) (hy : y.cls ≠ "java/lang/invoke/MethodHandle" ∧ y.cls ≠ "java/lang/invoke/VarHandle") (pd : parseMethodDescriptor y.desc = some sg) (ha : argsL.length = sg.parameters.length) (E : Exa Z h a C)
    (C' : Ctr l Z n0 y bytes' maxL' ret' [] rm (.ref a :: argsL).toArray h ws' Q) (hsz : Ls.size = maxL) (hf : rm.frames + 1 ≤ R.frames) {W : Nat} (hW : (st.map fun v => v.category).sum ≤ W) (hl : W + (maxL' + 11) + rm.locals ≤ R.locals) (hc : k + rm.cells ≤ R.cells) (hs : n + rm.slots ≤ R.slots) (hws : ∀ x ∈ ws', x ∈ ws ∨ h0.size ≤ x) (hp : pc + 3 = pc') (K : ∀ v T' h', Wk p l e R s m args below meth c Z own bytes maxL ret mn n0 h0 ws T' h' (k + rm.cells) (n + rm.slots) → Keep h h' ws' → Q v h' → Goes p e below P T' (mkF m pc' Ls (v.toList ++ st))) : Goes p e below P T (mkF m pc Ls (argsL.reverse ++ .ref a :: st)) := by
  obtain ⟨cx, locs, cells, slots, X, e1, N, b1, b2, O1, K1⟩ := w
  obtain ⟨hx, hb', hml, hZ, hown, hret, hlk, hmn, hw0, hn0⟩ := id cx
  subst hp
  obtain ⟨cq, kq, qa, qb, qc⟩ := isOf (T := T) hZ e1 E
  obtain ⟨_, _, ⟨T', L', k', n'⟩, -, X', ⟨Lc, ⟨q1, N', K'⟩, l1, y1, z1⟩, stp⟩ := X.virtualBack hx (y := y) (z := y) hown (mvT hZ w1) (mvT hZ w2) (notFace_of_selects (args := #[]) (mvT hZ w3)) (mvT hZ w3) (mvT hZ w4) hy (backOf (W := W) (Q := fun v t L => Q v t ∧ Fr n0 L ∧ Keep h t ws') C' hZ w5 w6 hf hl) qa qc (g := mkF m pc Ls (argsL.reverse ++ .ref a :: st)) rfl (hsz.trans hml.symm) (Steps.refl _) (argsL := argsL) (rest := st) (fun sig h => by rw [pd] at h; cases h; exact ha) rfl (by show 2 * 0 + _ ≤ _; omega) (hb hb' d) (fun _ _ => ⟨rfl, e1, by show cells + _ ≤ _; omega, by show slots + _ ≤ _; omega⟩)
  dsimp only [Pt.U, Pt.locs, Pt.cells, Pt.slots] at X' l1 y1 z1 stp q1 K'
  subst l1 y1 z1
  refine (K _ T' T'.heap ⟨cx, _, _, _, X', rfl, Fr.app N N', by omega, by omega, O1.keep K' (fun x hx => (hws x hx).elim (hw0 x) (Nat.le_trans hn0)), K1.trans K' hws⟩ K' q1).step (fun t q => stp.trans q)
/-- a payer in this kit's shape -/
def Pays (l : Launch) (R : Room) (p : Program) (e : Env) (below : List Frame) (s : State) (args : Array Value) (y : MethodName) (W : Nat) (as' : Array Value) (n0 : Nat) (h : Heap) (kc ns : Nat) (ws' : List Addr) (Q : Option Value → Heap → Prop) : Prop :=
  Back l R p e below s args y 3 W (fun A a => a = as' ∧ A.U.heap = h ∧ A.cells + kc ≤ R.cells ∧ A.slots + ns ≤ R.slots) (fun A _ v B => ∃ L, (Q v B.U.heap ∧ Fr n0 L ∧ Keep h B.U.heap ws') ∧ B.locs = A.locs ++ L ∧ B.cells = A.cells + kc ∧ B.slots = A.slots + ns)
theorem b_special (w : Wk p l e R s m args below meth c Z own bytes maxL ret mn n0 h0 ws T h k n) {index : Nat} {y : MethodName} {W : Nat} {kc ns : Nat} {ws' : List Addr} {Q : Option Value → Heap → Prop} {bytes' : ByteArray} {maxL' : Nat} {argsL : List Value} {a : Addr} {sg : MethodDescriptor} (d : decode bytes pc = .ok (.invokespecial index, 3)) (hi : y.name = "<init>") (w1 : (Cond.methodLink own index y).before a0 Z = true) (w2 : (Cond.instanceMethod y).before a0 Z = true) (w4 : (Cond.code y bytes' maxL' none).before a0 Z = true) (hy : y.cls ≠ "java/lang/invoke/MethodHandle" ∧ y.cls ≠ "java/lang/invoke/VarHandle") (pd : parseMethodDescriptor y.desc = some sg) (ha : argsL.length = sg.parameters.length)
    (C : Pays l R p e below s args y W (.ref a :: argsL).toArray n0 h kc ns ws' Q) (hsz : Ls.size = maxL) (hW : (st.map fun v => v.category).sum ≤ W) (hc : k + kc ≤ R.cells) (hs : n + ns ≤ R.slots) (hws : ∀ x ∈ ws', x ∈ ws ∨ h0.size ≤ x) (hp : pc + 3 = pc') (K : ∀ v T' h', Wk p l e R s m args below meth c Z own bytes maxL ret mn n0 h0 ws T' h' (k + kc) (n + ns) → Keep h h' ws' → Q v h' → Goes p e below P T' (mkF m pc' Ls (v.toList ++ st))) : Goes p e below P T (mkF m pc Ls (argsL.reverse ++ .ref a :: st)) := by
  obtain ⟨cx, locs, cells, slots, X, e1, N, b1, b2, O1, K1⟩ := w
  obtain ⟨hx, hb', hml, hZ, hown, hret, hlk, hmn, hw0, hn0⟩ := id cx
  subst hp
  obtain ⟨_, _, ⟨T', L', k', n'⟩, -, X', ⟨Lc, ⟨q1, N', K'⟩, l1, y1, z1⟩, stp⟩ := X.specialBack hx (y := y) hi hown (mvT hZ w1) (mvT hZ w2) (mvT hZ w4) hy C (g := mkF m pc Ls (argsL.reverse ++ .ref a :: st)) rfl (hsz.trans hml.symm) (Steps.refl _) (a := a) (argsL := argsL) (rest := st) (fun sig h => by rw [pd] at h; cases h; exact ha) rfl (by show 2 * 0 + _ ≤ _; omega) (hb hb' d) (fun _ _ => ⟨rfl, e1, by show cells + _ ≤ _; omega, by show slots + _ ≤ _; omega⟩)
  dsimp only [Pt.U, Pt.locs, Pt.cells, Pt.slots] at X' l1 y1 z1 stp q1 K'
  subst l1 y1 z1
  refine (K _ T' T'.heap ⟨cx, _, _, _, X', rfl, Fr.app N N', by omega, by omega, O1.keep K' (fun x hx => (hws x hx).elim (hw0 x) (Nat.le_trans hn0)), K1.trans K' hws⟩ K' q1).step (fun t q => stp.trans q)
theorem b_virtual (w : Wk p l e R s m args below meth c Z own bytes maxL ret mn n0 h0 ws T h k n) {index : Nat} {C : String} {y : MethodName} {W : Nat} {kc ns : Nat} {ws' : List Addr} {Q : Option Value → Heap → Prop} {argsL : List Value} {a : Addr} {sg : MethodDescriptor} (d : decode bytes pc = .ok (.invokevirtual index, 3)) (w1 : (Cond.methodLink own index y).before a0 Z = true) (w2 : (Cond.declares y).before a0 Z = true) (w3 : (Cond.selects C y y).before a0 Z = true) (w4 : (Cond.instanceMethod y).before a0 Z = true) (hy : y.cls ≠ "java/lang/invoke/MethodHandle" ∧ y.cls ≠ "java/lang/invoke/VarHandle") (pd : parseMethodDescriptor y.desc = some sg) (ha : argsL.length = sg.parameters.length) (E : Exa Z h a C)
    (C' : Pays l R p e below s args y W (.ref a :: argsL).toArray n0 h kc ns ws' Q) (hsz : Ls.size = maxL) (hW : (st.map fun v => v.category).sum ≤ W) (hc : k + kc ≤ R.cells) (hs : n + ns ≤ R.slots) (hws : ∀ x ∈ ws', x ∈ ws ∨ h0.size ≤ x) (hp : pc + 3 = pc') (K : ∀ v T' h', Wk p l e R s m args below meth c Z own bytes maxL ret mn n0 h0 ws T' h' (k + kc) (n + ns) → Keep h h' ws' → Q v h' → Goes p e below P T' (mkF m pc' Ls (v.toList ++ st))) : Goes p e below P T (mkF m pc Ls (argsL.reverse ++ .ref a :: st)) := by
  obtain ⟨cx, locs, cells, slots, X, e1, N, b1, b2, O1, K1⟩ := w
  obtain ⟨hx, hb', hml, hZ, hown, hret, hlk, hmn, hw0, hn0⟩ := id cx
  subst hp
  obtain ⟨cq, kq, qa, qb, qc⟩ := isOf (T := T) hZ e1 E
  obtain ⟨_, _, ⟨T', L', k', n'⟩, -, X', ⟨Lc, ⟨q1, N', K'⟩, l1, y1, z1⟩, stp⟩ := X.virtualBack hx (y := y) (z := y) hown (mvT hZ w1) (mvT hZ w2) (notFace_of_selects (args := #[]) (mvT hZ w3)) (mvT hZ w3) (mvT hZ w4) hy C' qa qc (g := mkF m pc Ls (argsL.reverse ++ .ref a :: st)) rfl (hsz.trans hml.symm) (Steps.refl _) (argsL := argsL) (rest := st) (fun sig h => by rw [pd] at h; cases h; exact ha) rfl (by show 2 * 0 + _ ≤ _; omega) (hb hb' d) (fun _ _ => ⟨rfl, e1, by show cells + _ ≤ _; omega, by show slots + _ ≤ _; omega⟩)
  dsimp only [Pt.U, Pt.locs, Pt.cells, Pt.slots] at X' l1 y1 z1 stp q1 K'
  subst l1 y1 z1
  refine (K _ T' T'.heap ⟨cx, _, _, _, X', rfl, Fr.app N N', by omega, by omega, O1.keep K' (fun x hx => (hws x hx).elim (hw0 x) (Nat.le_trans hn0)), K1.trans K' hws⟩ K' q1).step (fun t q => stp.trans q)
theorem b_static (w : Wk p l e R s m args below meth c Z own bytes maxL ret mn n0 h0 ws T h k n) {index : Nat} {y : MethodName} {W : Nat} {kc ns : Nat} {ws' : List Addr} {Q : Option Value → Heap → Prop} {bytes' : ByteArray} {maxL' : Nat} {ret' : Option FieldType} {argsL : List Value} {sg : MethodDescriptor} (d : decode bytes pc = .ok (.invokestatic index, 3)) (w1 : (Cond.methodLink own index y).before a0 Z = true) (w2 : (Cond.static y).before a0 Z = true) (w3 : (Cond.initialized y.cls).before a0 Z = true) (w4 : (Cond.code y bytes' maxL' ret').before a0 Z = true) (hy : y.cls ≠ "java/lang/invoke/MethodHandle" ∧ y.cls ≠ "java/lang/invoke/VarHandle") (pd : parseMethodDescriptor y.desc = some sg) (ha : argsL.length = sg.parameters.length)
    (C : Pays l R p e below s args y W argsL.toArray n0 h kc ns ws' Q) (hsz : Ls.size = maxL) (hW : (st.map fun v => v.category).sum ≤ W) (hc : k + kc ≤ R.cells) (hs : n + ns ≤ R.slots) (hws : ∀ x ∈ ws', x ∈ ws ∨ h0.size ≤ x) (hp : pc + 3 = pc') (K : ∀ v T' h', Wk p l e R s m args below meth c Z own bytes maxL ret mn n0 h0 ws T' h' (k + kc) (n + ns) → Keep h h' ws' → Q v h' → Goes p e below P T' (mkF m pc' Ls (v.toList ++ st))) : Goes p e below P T (mkF m pc Ls (argsL.reverse ++ st)) := by
  obtain ⟨cx, locs, cells, slots, X, e1, N, b1, b2, O1, K1⟩ := w
  obtain ⟨hx, hb', hml, hZ, hown, hret, hlk, hmn, hw0, hn0⟩ := id cx
  subst hp
  obtain ⟨_, _, ⟨T', L', k', n'⟩, -, X', ⟨Lc, ⟨q1, N', K'⟩, l1, y1, z1⟩, stp⟩ := Jvm.LawKit.callS X hx (y := y) hown (mvT hZ w1) (mvT hZ w2) (mvT hZ w3) (mvT hZ w4) hy C (g := mkF m pc Ls (argsL.reverse ++ st)) rfl (hsz.trans hml.symm) (argsL := argsL) (rest := st) (fun sig h => by rw [pd] at h; cases h; exact ha) rfl (by show 2 * 0 + _ ≤ _; omega) (hb hb' d) (fun _ _ => ⟨rfl, e1, by show cells + _ ≤ _; omega, by show slots + _ ≤ _; omega⟩)
  dsimp only [Pt.U, Pt.locs, Pt.cells, Pt.slots] at X' l1 y1 z1 stp q1 K'
  subst l1 y1 z1
  refine (K _ T' T'.heap ⟨cx, _, _, _, X', rfl, Fr.app N N', by omega, by omega, O1.keep K' (fun x hx => (hws x hx).elim (hw0 x) (Nat.le_trans hn0)), K1.trans K' hws⟩ K' q1).step stp
theorem c_staticW {s0 : State} {vm0 : Vm} (w : Wk p l e R (s0.setVm vm0) m args below meth c Z own bytes maxL ret mn n0 h0 ws T h k n) {k0 : Nat} (hS : s0.Since vm0 k0) (hk0 : k0 ≤ h.size) {index : Nat} {y : MethodName} {bytes' : ByteArray} {maxL' : Nat} {ret' : Option FieldType} {rm : Room} {ws' : List Addr} {Q : Option Value → Heap → Prop} {argsL : List Value} {sg : MethodDescriptor} (d : decode bytes pc = .ok (.invokestatic index, 3)) (w1 : (Cond.methodLink own index y).before a0 Z = true) (w2 : (Cond.static y).before a0 Z = true) (w3 : (Cond.initialized y.cls).before a0 Z = true) (w4 : (Cond.code y bytes' maxL' ret').before a0 Z = true) (hy : y.cls ≠ "java/lang/invoke/MethodHandle" ∧ y.cls ≠ "java/lang/invoke/VarHandle") (pd : parseMethodDescriptor y.desc = some sg) (ha : argsL.length = sg.parameters.length)
    (C : CtrW l Z n0 y bytes' maxL' ret' [] rm argsL.toArray h ws' Q) (hsz : Ls.size = maxL) (hf : rm.frames + 1 ≤ R.frames) {W : Nat} (hW : (st.map fun v => v.category).sum ≤ W) (hl : W + (maxL' + 11) + rm.locals ≤ R.locals) (hc : k + rm.cells ≤ R.cells) (hs : n + rm.slots ≤ R.slots) (hws : ∀ x ∈ ws', x ∈ ws ∨ h0.size ≤ x) (hp : pc + 3 = pc') (K : ∀ v T' h' vm1, Wk p l e R (s0.setVm vm1) m args below meth c Z own bytes maxL ret mn n0 h0 ws T' h' (k + rm.cells) (n + rm.slots) → s0.Since vm1 h'.size → Keep h h' ws' → Q v h' → Goes p e below P T' (mkF m pc' Ls (v.toList ++ st))) : Goes p e below P T (mkF m pc Ls (argsL.reverse ++ st)) := by
  obtain ⟨cx, locs, cells, slots, X, e1, N, b1, b2, O1, K1⟩ := w
  obtain ⟨hx, hb', hml, hZ, hown, hret, hlk, hmn, hw0, hn0⟩ := id cx
  subst hp
  obtain ⟨_, _, ⟨T', L', k', n'⟩, -, X', hS', hgr, ⟨Lc, ⟨q1, N', K'⟩, l1, y1, z1⟩, stp⟩ := callSS X hx (y := y) hown (mvT hZ w1) (mvT hZ w2) (mvT hZ w3) (mvT hZ w4) hy (backOfS (W := W) (Q := fun v t L => Q v t ∧ Fr n0 L ∧ Keep h t ws') C hZ w4 w3 hf hl) (g := mkF m pc Ls (argsL.reverse ++ st)) rfl (hsz.trans hml.symm) (argsL := argsL) (rest := st) (fun sig h => by rw [pd] at h; cases h; exact ha) rfl (by show 2 * 0 + _ ≤ _; omega) (hb hb' d) (fun _ _ => ⟨rfl, e1, by show cells + _ ≤ _; omega, by show slots + _ ≤ _; omega⟩)
  dsimp only [Pt.U, Pt.locs, Pt.cells, Pt.slots] at X' hS' hgr l1 y1 z1 stp q1 K'
  subst l1 y1 z1
  have hS2 : s0.Since T'.vm T'.heap.size := hS.trans hS' (Nat.le_trans hk0 (by rw [← e1]; exact hgr))
  refine (K _ T' T'.heap T'.vm ⟨⟨hx, hb', hml, State.Warmed39.trans (t := s0.setVm vm0) hZ hS'.1, by rw [show (s0.setVm T'.vm).vm = T'.vm from rfl, hS'.1.alike.findClass]; exact hown, hret, hlk, hmn, hw0, hn0⟩, _, _, _, X', rfl, Fr.app N N', by omega, by omega, O1.keep K' (fun x hx => (hws x hx).elim (hw0 x) (Nat.le_trans hn0)), K1.trans K' hws⟩ hS2 K' q1).step (fun t q => stp.trans q)
theorem c_virtualW {s0 : State} {vm0 : Vm} (w : Wk p l e R (s0.setVm vm0) m args below meth c Z own bytes maxL ret mn n0 h0 ws T h k n) {k0 : Nat} (hS : s0.Since vm0 k0) (hk0 : k0 ≤ h.size) {index : Nat} {C : String} {y : MethodName} {bytes' : ByteArray} {maxL' : Nat} {ret' : Option FieldType} {rm : Room} {ws' : List Addr} {Q : Option Value → Heap → Prop} {argsL : List Value} {a : Addr} {sg : MethodDescriptor} (d : decode bytes pc = .ok (.invokevirtual index, 3)) (w1 : (Cond.methodLink own index y).before a0 Z = true) (w2 : (Cond.declares y).before a0 Z = true) (w3 : (Cond.selects C y y).before a0 Z = true) (w4 : (Cond.instanceMethod y).before a0 Z = true) (w5 : (Cond.code y bytes' maxL' ret').before a0 Z = true) (w6 : (Cond.initialized y.cls).before a0 Z = true) (hy : y.cls ≠ "java/lang/invoke/MethodHandle" ∧ y.cls ≠ "java/lang/invoke/VarHandle") (pd : parseMethodDescriptor y.desc = some sg) (ha : argsL.length = sg.parameters.length) (E : Exa Z h a C)
    (C' : CtrW l Z n0 y bytes' maxL' ret' [] rm (.ref a :: argsL).toArray h ws' Q) (hsz : Ls.size = maxL) (hf : rm.frames + 1 ≤ R.frames) {W : Nat} (hW : (st.map fun v => v.category).sum ≤ W) (hl : W + (maxL' + 11) + rm.locals ≤ R.locals) (hc : k + rm.cells ≤ R.cells) (hs : n + rm.slots ≤ R.slots) (hws : ∀ x ∈ ws', x ∈ ws ∨ h0.size ≤ x) (hp : pc + 3 = pc') (K : ∀ v T' h' vm1, Wk p l e R (s0.setVm vm1) m args below meth c Z own bytes maxL ret mn n0 h0 ws T' h' (k + rm.cells) (n + rm.slots) → s0.Since vm1 h'.size → Keep h h' ws' → Q v h' → Goes p e below P T' (mkF m pc' Ls (v.toList ++ st))) : Goes p e below P T (mkF m pc Ls (argsL.reverse ++ .ref a :: st)) := by
  obtain ⟨cx, locs, cells, slots, X, e1, N, b1, b2, O1, K1⟩ := w
  obtain ⟨hx, hb', hml, hZ, hown, hret, hlk, hmn, hw0, hn0⟩ := id cx
  subst hp
  obtain ⟨cq, kq, qa, qb, qc⟩ := isOf (T := T) hZ e1 E
  obtain ⟨_, _, ⟨T', L', k', n'⟩, -, X', hS', hgr, ⟨Lc, ⟨q1, N', K'⟩, l1, y1, z1⟩, stp⟩ := X.virtualBackS hx (y := y) (z := y) hown (mvT hZ w1) (mvT hZ w2) (notFace_of_selects (args := #[]) (mvT hZ w3)) (mvT hZ w3) (mvT hZ w4) hy (backOfS (W := W) (Q := fun v t L => Q v t ∧ Fr n0 L ∧ Keep h t ws') C' hZ w5 w6 hf hl) qa qc (g := mkF m pc Ls (argsL.reverse ++ .ref a :: st)) rfl (hsz.trans hml.symm) (Steps.refl _) (argsL := argsL) (rest := st) (fun sig h => by rw [pd] at h; cases h; exact ha) rfl (by show 2 * 0 + _ ≤ _; omega) (hb hb' d) (fun _ _ => ⟨rfl, e1, by show cells + _ ≤ _; omega, by show slots + _ ≤ _; omega⟩)
  dsimp only [Pt.U, Pt.locs, Pt.cells, Pt.slots] at X' hS' hgr l1 y1 z1 stp q1 K'
  subst l1 y1 z1
  have hS2 : s0.Since T'.vm T'.heap.size := hS.trans hS' (Nat.le_trans hk0 (by rw [← e1]; exact hgr))
  refine (K _ T' T'.heap T'.vm ⟨⟨hx, hb', hml, State.Warmed39.trans (t := s0.setVm vm0) hZ hS'.1, by rw [show (s0.setVm T'.vm).vm = T'.vm from rfl, hS'.1.alike.findClass]; exact hown, hret, hlk, hmn, hw0, hn0⟩, _, _, _, X', rfl, Fr.app N N', by omega, by omega, O1.keep K' (fun x hx => (hws x hx).elim (hw0 x) (Nat.le_trans hn0)), K1.trans K' hws⟩ hS2 K' q1).step (fun t q => stp.trans q)
theorem c_specialW {s0 : State} {vm0 : Vm} (w : Wk p l e R (s0.setVm vm0) m args below meth c Z own bytes maxL ret mn n0 h0 ws T h k n) {k0 : Nat} (hS : s0.Since vm0 k0) (hk0 : k0 ≤ h.size) {index : Nat} {y : MethodName} {bytes' : ByteArray} {maxL' : Nat} {rm : Room} {ws' : List Addr} {Q : Option Value → Heap → Prop} {argsL : List Value} {a : Addr} {sg : MethodDescriptor} (d : decode bytes pc = .ok (.invokespecial index, 3)) (hi : y.name = "<init>") (w1 : (Cond.methodLink own index y).before a0 Z = true) (w2 : (Cond.instanceMethod y).before a0 Z = true) (w3 : (Cond.initialized y.cls).before a0 Z = true) (w4 : (Cond.code y bytes' maxL' none).before a0 Z = true) (hy : y.cls ≠ "java/lang/invoke/MethodHandle" ∧ y.cls ≠ "java/lang/invoke/VarHandle") (pd : parseMethodDescriptor y.desc = some sg) (ha : argsL.length = sg.parameters.length)
    (C : CtrW l Z n0 y bytes' maxL' none [] rm (.ref a :: argsL).toArray h ws' Q) (hsz : Ls.size = maxL) (hf : rm.frames + 1 ≤ R.frames) {W : Nat} (hW : (st.map fun v => v.category).sum ≤ W) (hl : W + (maxL' + 11) + rm.locals ≤ R.locals) (hc : k + rm.cells ≤ R.cells) (hs : n + rm.slots ≤ R.slots) (hws : ∀ x ∈ ws', x ∈ ws ∨ h0.size ≤ x) (hp : pc + 3 = pc') (K : ∀ v T' h' vm1, Wk p l e R (s0.setVm vm1) m args below meth c Z own bytes maxL ret mn n0 h0 ws T' h' (k + rm.cells) (n + rm.slots) → s0.Since vm1 h'.size → Keep h h' ws' → Q v h' → Goes p e below P T' (mkF m pc' Ls (v.toList ++ st))) : Goes p e below P T (mkF m pc Ls (argsL.reverse ++ .ref a :: st)) := by
  obtain ⟨cx, locs, cells, slots, X, e1, N, b1, b2, O1, K1⟩ := w
  obtain ⟨hx, hb', hml, hZ, hown, hret, hlk, hmn, hw0, hn0⟩ := id cx
  subst hp
  obtain ⟨_, _, ⟨T', L', k', n'⟩, -, X', hS', hgr, ⟨Lc, ⟨q1, N', K'⟩, l1, y1, z1⟩, stp⟩ := X.specialBackS hx (y := y) hi hown (mvT hZ w1) (mvT hZ w2) (mvT hZ w4) hy (backOfS (W := W) (Q := fun v t L => Q v t ∧ Fr n0 L ∧ Keep h t ws') C hZ w4 w3 hf hl) (g := mkF m pc Ls (argsL.reverse ++ .ref a :: st)) rfl (hsz.trans hml.symm) (Steps.refl _) (a := a) (argsL := argsL) (rest := st) (fun sig h => by rw [pd] at h; cases h; exact ha) rfl (by show 2 * 0 + _ ≤ _; omega) (hb hb' d) (fun _ _ => ⟨rfl, e1, by show cells + _ ≤ _; omega, by show slots + _ ≤ _; omega⟩)
  dsimp only [Pt.U, Pt.locs, Pt.cells, Pt.slots] at X' hS' hgr l1 y1 z1 stp q1 K'
  subst l1 y1 z1
  have hS2 : s0.Since T'.vm T'.heap.size := hS.trans hS' (Nat.le_trans hk0 (by rw [← e1]; exact hgr))
  refine (K _ T' T'.heap T'.vm ⟨⟨hx, hb', hml, State.Warmed39.trans (t := s0.setVm vm0) hZ hS'.1, by rw [show (s0.setVm T'.vm).vm = T'.vm from rfl, hS'.1.alike.findClass]; exact hown, hret, hlk, hmn, hw0, hn0⟩, _, _, _, X', rfl, Fr.app N N', by omega, by omega, O1.keep K' (fun x hx => (hws x hx).elim (hw0 x) (Nat.le_trans hn0)), K1.trans K' hws⟩ hS2 K' q1).step (fun t q => stp.trans q)
theorem i_ldcS {s0 : State} {vm0 : Vm} (w : Wk p l e R (s0.setVm vm0) m args below meth c Z own bytes maxL ret mn n0 h0 ws T h k n) {k0 : Nat} (hS : s0.Since vm0 k0) (hk0 : k0 ≤ h.size) {index N : Nat} {text : String} (d : decode bytes pc = .ok (.ldc index, 2)) (w1 : (Cond.stringLink own index text).before a0 Z = true) (wS : ∀ a ∈ Bundle.stringAtoms, a.before a0 Z = true) (hN : 4 * text.toList.length ≤ N) (hbig : N ≤ 536870912) (hc : k + 2 ≤ R.cells) (hs : n + (N + 4) ≤ R.slots) (hp : pc + 2 = pc')
    (K : ∀ a T' h' vm1, Wk p l e R (s0.setVm vm1) m args below meth c Z own bytes maxL ret mn n0 h0 ws T' h' (k + 2) (n + (N + 4)) → s0.Since vm1 h'.size → Ext h h' → Goes p e below P T' (mkF m pc' Ls (.ref a :: st))) : Goes p e below P T (mkF m pc Ls (st)) := by
  obtain ⟨cx, locs, cells, slots, X, e1, N1, b1, b2, O1, K1⟩ := w
  obtain ⟨hx, hb', hml, hZ, hown, cr⟩ := id cx
  subst hp
  obtain ⟨a, T', h', k1, X', e', E, hS', hk1, hZ', hown', stp⟩ := ldcS X hx hZ hown w1 wS e1 hS hk0 (g := mkF m pc Ls st) rfl (hb hb' d) hN hbig (by omega) (by omega)
  exact (K a T' h' T'.vm ⟨⟨hx, hb', hml, hZ', hown', cr⟩, locs, _, _, X', e', N1, by omega, by omega, O1.ext E, K1.ext E⟩ ⟨hS'.1, hS'.2.mono hk1⟩ E).step stp
theorem i_acopy (w : Wk p l e R s m args below meth c Z own bytes maxL ret mn n0 h0 ws T h k n) {index : Nat} {a b : Addr} {ca cb : ClassId} {ty : FieldType} {vs vd : List Value} {sp dp nn : Nat} (d : decode bytes pc = .ok (.invokestatic index, 3)) (w1 : (Cond.methodLink own index Jvm.Stand.acN).before a0 Z = true) (w2 : (Cond.native Jvm.Stand.acN).before a0 Z = true) (w3 : (Cond.static Jvm.Stand.acN).before a0 Z = true) (w4 : (Cond.initialized "java/lang/System").before a0 Z = true)
    (A : Ary Z h a ca ty vs) (B : Ary Z h b cb ty vd) (hty : refKind ty = false) (h4 : sp + nn ≤ vs.length) (h5 : dp + nn ≤ vd.length) (hb : b ∈ ws ∨ h0.size ≤ b) (hsz : Ls.size = maxL) (hf : 1 ≤ R.frames) {W : Nat} (hW : (st.map fun v => v.category).sum ≤ W) (hl : W + 18 ≤ R.locals) (hp : pc + 3 = pc')
    (K : ∀ T' h', Wk p l e R s m args below meth c Z own bytes maxL ret mn n0 h0 ws T' h' k n → Keep h h' [b] → Ary Z h' b cb ty (vd.take dp ++ (vs.drop sp).take nn ++ vd.drop (dp + nn)) → Goes p e below P T' (mkF m pc' Ls (st))) : Goes p e below P T (mkF m pc Ls (.int (Int32.ofNat nn) :: .int (Int32.ofNat dp) :: .ref b :: .int (Int32.ofNat sp) :: .ref a :: st)) := by
  have hna := w.wsn hb
  obtain ⟨cx, locs, cells, slots, X, e1, N, b1, b2, O1, K1⟩ := w
  obtain ⟨hx, hb', hml, hZ, hown, cr⟩ := id cx
  subst hp
  have lA := A.1
  have lB := B.1
  have us : (List.range nn).map (fun i => vs.getD (sp + i) (defaultValue ty)) = (vs.drop sp).take nn := by
    apply List.ext_getElem?
    intro i
    rw [List.getElem?_map, List.getElem?_take]
    by_cases hi : i < nn
    · rw [if_pos hi, List.getElem?_range hi, List.getElem?_drop, List.getElem?_eq_getElem (by omega)]
      simp [List.getD_eq_getElem?_getD, List.getElem?_eq_getElem (show sp + i < vs.length by omega)]
    · rw [if_neg hi, List.getElem?_eq_none (by simp; omega)]; rfl
  obtain ⟨T', h', L, X', e', N', K', B', stp⟩ := cpA X hx hZ hown w1 w2 w3 w4 e1 A.2 B.2 (sp := Int32.ofNat sp) (dp := Int32.ofNat dp) (nn := Int32.ofNat nn) (us := (vs.drop sp).take nn) (Or.inl ⟨rfl, hty⟩) (nonneg_ofNat (by omega)) (nonneg_ofNat (by omega)) (nonneg_ofNat (by omega))
    (by rw [clamp_ofNat (by omega), clamp_ofNat (by omega), clamp_ofNat (by omega)]; exact h4) (by rw [clamp_ofNat (by omega), clamp_ofNat (by omega), clamp_ofNat (by omega)]; exact h5) (by rw [clamp_ofNat (by omega), clamp_ofNat (by omega)]; exact us.symm) (by rw [clamp_ofNat (by omega), clamp_ofNat (by omega)]; exact h5) N hna
    (g := mkF m pc Ls (.int (Int32.ofNat nn) :: .int (Int32.ofNat dp) :: .ref b :: .int (Int32.ofNat sp) :: .ref a :: st)) rfl (hsz.trans hml.symm) rfl (Jvm.hb hb' d) hf (W := W) (by show 2 * 0 + _ ≤ _; omega) (by show W + (nativeFrameWords "java/lang/System" "arraycopy" 5 + 11) ≤ _; exact hl)
  rw [clamp_ofNat (show dp < 2147483648 by omega), clamp_ofNat (show nn < 2147483648 by omega)] at B'
  have ll : (vd.take dp ++ (vs.drop sp).take nn ++ vd.drop (dp + nn)).length = vd.length := by simp; omega
  exact (K T' h' ⟨cx, _, cells, slots, X', e', N', b1, b2, O1.keep K' (allS hna all0), K1.trans K' (allS hb all0)⟩ K' ⟨by rw [ll]; exact lB, by rw [ll]; exact B'⟩).step stp
end Calls
end Jvm.OwnKit
namespace Jvm.OwnKit
open Jvm Jvm.ClassFile Sem Op Lib Jvm.Free Jvm.Stand Jvm.LawKit Jvm.RoadKit
theorem cat1 {v : Value} (h : v.isRef = true) : v.category = 1 := by cases v <;> simp [Value.isRef, Value.category] at h ⊢
theorem toInt_small {k : Nat} (h : k < 2147483648) : (Int32.ofNat k).toInt = k := Int32.toInt_ofNat_small h
theorem nat_of_nonneg {x : Int32} (h : ¬ x < 0) : ∃ k, k < 2147483648 ∧ x = Int32.ofNat k ∧ x.toInt = k := by
  rw [Int32.lt_iff_toInt_lt] at h
  have e0 : (0 : Int32).toInt = 0 := rfl
  have b := x.toInt_lt
  refine ⟨x.toInt.toNat, by omega, ?_, by omega⟩
  apply Int32.toInt_inj.mp
  rw [toInt_small (by omega)]; omega
theorem lt_nat {a b : Nat} (ha : a < 2147483648) (hb : b < 2147483648) : Int32.ofNat a < Int32.ofNat b ↔ a < b := by
  rw [Int32.lt_iff_toInt_lt, toInt_small ha, toInt_small hb]; omega
theorem eq_nat {a b : Nat} (ha : a < 2147483648) (hb : b < 2147483648) : Int32.ofNat a = Int32.ofNat b ↔ a = b := by
  rw [← Int32.toInt_inj, toInt_small ha, toInt_small hb]; omega
theorem tbv (k : Nat) : (Int32.ofNat k).toBitVec = BitVec.ofNat 32 k := rfl
theorem tnat {k : Nat} (h : k < 4294967296) : (Int32.ofNat k).toBitVec.toNat = k := by rw [tbv, BitVec.toNat_ofNat]; omega
theorem i32_ext {x y : Int32} (h : x.toBitVec.toNat = y.toBitVec.toNat) : x = y := Int32.toBitVec_inj.mp (BitVec.eq_of_toNat_eq h)
theorem add_nat (a b : Nat) : Int32.ofNat a + Int32.ofNat b = Int32.ofNat (a + b) := by
  apply i32_ext; rw [Int32.toBitVec_add, BitVec.toNat_add, tbv, tbv, tbv]; simp
theorem sub_nat {a b : Nat} (h : b ≤ a) : Int32.ofNat a - Int32.ofNat b = Int32.ofNat (a - b) := by
  have e : Int32.ofNat a = Int32.ofNat (a - b) + Int32.ofNat b := by rw [add_nat]; congr 1; omega
  rw [e]
  apply Int32.toBitVec_inj.mp
  rw [Int32.toBitVec_sub, Int32.toBitVec_add, BitVec.add_sub_cancel]
theorem and_nat (a b : Nat) : Int32.ofNat a &&& Int32.ofNat b = Int32.ofNat (a &&& b) := by
  apply i32_ext
  rw [Int32.toBitVec_and, BitVec.toNat_and, tbv, tbv, tbv]
  simp [Nat.and_mod_two_pow]
theorem or_nat (a b : Nat) : Int32.ofNat a ||| Int32.ofNat b = Int32.ofNat (a ||| b) := by
  apply i32_ext
  rw [Int32.toBitVec_or, BitVec.toNat_or, tbv, tbv, tbv]
  simp [Nat.or_mod_two_pow]
theorem shl_nat {a j : Nat} (hj : j < 32) : Int32.ofNat a <<< (Int32.ofNat j &&& 31) = Int32.ofNat (a * 2 ^ j) := by
  have e : (Int32.ofNat j &&& 31) = Int32.ofNat j := by
    have q : (31 : Int32) = Int32.ofNat 31 := rfl
    rw [q, and_nat]; congr 1
    have := Nat.and_two_pow_sub_one_eq_mod j 5
    simp at this; rw [this]; omega
  rw [e]
  apply i32_ext
  rw [Int32.toBitVec_shiftLeft]
  have s : ((Int32.ofNat j).toBitVec.smod 32) = BitVec.ofNat 32 j := by
    rw [tbv]
    have t : ∀ k : Fin 32, (BitVec.ofNat 32 k.val).smod 32 = BitVec.ofNat 32 k.val := by decide
    exact t ⟨j, hj⟩
  rw [s, tbv, tbv, BitVec.shiftLeft_eq', BitVec.toNat_shiftLeft, BitVec.toNat_ofNat, BitVec.toNat_ofNat, BitVec.toNat_ofNat, Nat.mod_eq_of_lt (show j < 2 ^ 32 by omega), Nat.shiftLeft_eq, Nat.mod_mul_mod]
theorem shr_nat {a j : Nat} (ha : a < 2147483648) (hj : j < 32) : Int32.ofNat a >>> (Int32.ofNat j &&& 31) = Int32.ofNat (a / 2 ^ j) := by
  have e : (Int32.ofNat j &&& 31) = Int32.ofNat j := by
    have q : (31 : Int32) = Int32.ofNat 31 := rfl
    rw [q, and_nat]; congr 1
    have := Nat.and_two_pow_sub_one_eq_mod j 5
    simp at this; rw [this]; omega
  rw [e]
  apply i32_ext
  rw [Int32.toBitVec_shiftRight]
  have s : ((Int32.ofNat j).toBitVec.smod 32) = BitVec.ofNat 32 j := by
    rw [tbv]
    have t : ∀ k : Fin 32, (BitVec.ofNat 32 k.val).smod 32 = BitVec.ofNat 32 k.val := by decide
    exact t ⟨j, hj⟩
  have hm : (BitVec.ofNat 32 a).toNat = a := by rw [BitVec.toNat_ofNat]; omega
  rw [s, tbv, tbv, BitVec.sshiftRight_eq', BitVec.toNat_ofNat, Nat.mod_eq_of_lt (show j < 2 ^ 32 by omega), BitVec.toNat_sshiftRight_of_msb_false (by rw [BitVec.msb_eq_false_iff_two_mul_lt, hm]; omega), hm, Nat.shiftRight_eq_div_pow, BitVec.toNat_ofNat]
  have : a / 2 ^ j ≤ a := Nat.div_le_self _ _
  exact (Nat.mod_eq_of_lt (by generalize a / 2 ^ j = q at *; omega)).symm
theorem shr_zero (x : Int32) : x >>> ((0 : Int32) &&& 31) = x := by
  have e : ((0 : Int32) &&& 31) = 0 := by decide
  rw [e]
  apply Int32.toBitVec_inj.mp
  rw [Int32.toBitVec_shiftRight]
  have e1 : ((0 : Int32).toBitVec.smod 32) = 0#32 := by decide
  rw [e1, BitVec.sshiftRight_eq']
  exact BitVec.sshiftRight_zero
theorem char_nat (x : Int32) : ∃ k, k < 65536 ∧ nar .char x = Int32.ofNat k := by
  have f := fits_nar_char x
  simp only [fits, Bool.and_eq_true, decide_eq_true_eq] at f
  obtain ⟨f1, f2⟩ := f
  obtain ⟨k, h1, h2, h3⟩ := nat_of_nonneg (Int32.not_lt.mpr f1)
  refine ⟨k, ?_, h2⟩
  rw [Int32.le_iff_toInt_le, h3] at f2
  have e : (65535 : Int32).toInt = 65535 := rfl
  omega
theorem char_of_nat {k : Nat} (h : k < 65536) : nar .char (Int32.ofNat k) = Int32.ofNat k := by
  apply i32_ext
  show BitVec.toNat (((Int32.ofNat k).toBitVec.setWidth 16).setWidth 32) = _
  rw [BitVec.toNat_setWidth, BitVec.toNat_setWidth, tnat (by omega)]; omega
theorem char_idem (x : Int32) : nar .char (nar .char x) = nar .char x := by obtain ⟨k, h, e⟩ := char_nat x; rw [e, char_of_nat h]
theorem and_lt {x : Int32} {j : Nat} (hj : j < 31) : ∃ k, k < 2 ^ j ∧ x &&& Int32.ofNat (2 ^ j - 1) = Int32.ofNat k := by
  refine ⟨x.toBitVec.toNat % 2 ^ j, Nat.mod_lt _ (Nat.two_pow_pos _), ?_⟩
  have hp : 2 ^ j ≤ 2 ^ 31 := Nat.pow_le_pow_right (by omega) (by omega)
  have hm := Nat.mod_lt x.toBitVec.toNat (Nat.two_pow_pos j)
  apply i32_ext
  rw [Int32.toBitVec_and, BitVec.toNat_and, tnat (by omega), tnat (by omega), Nat.and_two_pow_sub_one_eq_mod]
theorem and31 (x : Int32) : ∃ k, k < 2147483648 ∧ x &&& 2147483647 = Int32.ofNat k := by
  refine ⟨x.toBitVec.toNat % 2 ^ 31, Nat.mod_lt _ (Nat.two_pow_pos _), ?_⟩
  have hm := Nat.mod_lt x.toBitVec.toNat (Nat.two_pow_pos 31)
  apply i32_ext
  rw [show (2147483647 : Int32) = Int32.ofNat (2 ^ 31 - 1) from rfl, Int32.toBitVec_and, BitVec.toNat_and, tnat (by omega), tnat (by omega), Nat.and_two_pow_sub_one_eq_mod]
theorem rem_nat {a b : Nat} (ha : a < 2147483648) (hb : b < 2147483648) (h : 0 < b) : Int32.ofNat a % Int32.ofNat b = Int32.ofNat (a % b) := by
  have hm := Nat.mod_lt a h
  apply Int32.toInt_inj.mp
  rw [Int32.toInt_mod, toInt_small ha, toInt_small hb, toInt_small (by omega)]
  rfl
theorem own_sta {s : State} {a0 : Array Value} {C nm d : String} {z : Int32} (w : (Cond.eq (Term.static C nm d) (Term.int z)).before a0 s = true) (wi : (Cond.initializedFor C nm d).before a0 s = true) : Sta s s.heap C nm d (.int z) := by
  have w' := Cond.before_iff.mp w
  obtain ⟨x, y, e1, e2, k1, k2⟩ := cmp_v (Or.inl w')
  cases (Term.int_eval z).symm.trans e2
  obtain ⟨z', rfl⟩ := k2
  have := gotT (Cond.eq_ints e1 (Term.int_eval z)) w'
  subst this
  exact Sta.start e1 (Or.inl wi)
/-- the byte of a char's code, as the array holds it -/
def bv (k : Nat) : Int32 := (Int32.ofNat k).toInt8.toInt32
theorem byte_idem (x : Int32) : nar .byte x.toInt8.toInt32 = x.toInt8.toInt32 := by
  show (x.toInt8.toInt32).toInt8.toInt32 = _
  rw [Int8.toInt8_toInt32]
theorem bv_mask (k : Nat) : bv k &&& 255 = Int32.ofNat (k % 256) := by
  apply i32_ext
  have h : (bv k).toBitVec = ((BitVec.ofNat 32 k).signExtend 8).signExtend 32 := by rw [bv, Int8.toBitVec_toInt32, Int32.toBitVec_toInt8, tbv]
  rw [Int32.toBitVec_and, BitVec.toNat_and, h, tnat (by omega)]
  have e : (((BitVec.ofNat 32 k).signExtend 8).signExtend 32).toNat % 256 = k % 256 := by
    rw [BitVec.toNat_signExtend]
    have hlt := (BitVec.ofNat 32 k).isLt
    simp only [BitVec.toNat_setWidth, BitVec.toNat_signExtend, BitVec.toNat_ofNat] at hlt ⊢
    split <;> split <;> omega
  rw [← e]
  exact Nat.and_two_pow_sub_one_eq_mod _ 8
theorem bv_char {k : Nat} (h : k < 256) : nar .char (bv k &&& 255) = Int32.ofNat k := by
  rw [bv_mask, Nat.mod_eq_of_lt h, char_of_nat (by omega)]
/-- StringUTF16.getChar's two bytes -/
theorem pair_char {k : Nat} (h : k < 65536) : nar .char (((bv k &&& 255) <<< ((0 : Int32) &&& 31)) ||| ((bv (k / 256) &&& 255) <<< ((8 : Int32) &&& 31))) = Int32.ofNat k := by
  rw [bv_mask, bv_mask]
  have e0 : (0 : Int32) = Int32.ofNat 0 := rfl
  have e8 : (8 : Int32) = Int32.ofNat 8 := rfl
  rw [e0, e8, shl_nat (by omega), shl_nat (by omega), or_nat, Nat.mod_eq_of_lt (show k / 256 < 256 by omega)]
  have : k % 256 * 2 ^ 0 ||| k / 256 * 2 ^ 8 = k := by
    rw [Nat.or_comm, Nat.pow_zero, Nat.mul_one, ← Nat.shiftLeft_eq, ← Nat.shiftLeft_add_eq_or_of_lt (by omega), Nat.shiftLeft_eq]; omega
  rw [this, char_of_nat h]
theorem bv_hi {k : Nat} (h : k < 65536) : (Int32.ofNat k >>> ((8 : Int32) &&& 31)).toInt8.toInt32 = bv (k / 256) := by
  have e8 : (8 : Int32) = Int32.ofNat 8 := rfl
  rw [e8, shr_nat (by omega) (by omega)]; rfl
theorem fits_bv (k : Nat) : fits .byte (.int (bv k)) = true := fits_nar_byte _
end Jvm.OwnKit
namespace Jvm.OwnKit
open Jvm Jvm.ClassFile Sem Op Lib Jvm.Free Jvm.Stand Jvm.LawKit Jvm.RoadKit
abbrev ST : String := "java/lang/String"
/-- chars as a char[] holds them -/
def chs (cs : List Nat) : List Value := cs.map fun c => .int (Int32.ofNat c)
/-- .. as a Latin-1 byte[] does -/
def lat (cs : List Nat) : List Value := cs.map fun c => .int (bv c)
/-- .. as a UTF-16 byte[] does, low before high -/
def wid : List Nat → List Value
  | [] => []
  | c :: cs => .int (bv c) :: .int (bv (c / 256)) :: wid cs
theorem chs_len (cs : List Nat) : (chs cs).length = cs.length := by simp [chs]
theorem lat_len (cs : List Nat) : (lat cs).length = cs.length := by simp [lat]
theorem wid_len : ∀ cs : List Nat, (wid cs).length = 2 * cs.length
  | [] => rfl
  | c :: cs => by simp [wid, wid_len cs]; omega
theorem chs_at {cs : List Nat} {i c : Nat} (h : cs[i]? = some c) : (chs cs)[i]? = some (.int (Int32.ofNat c)) := by simp [chs, h]
theorem lat_at {cs : List Nat} {i c : Nat} (h : cs[i]? = some c) : (lat cs)[i]? = some (.int (bv c)) := by simp [lat, h]
theorem wid_lo : ∀ {cs : List Nat} {i c : Nat}, cs[i]? = some c → (wid cs)[2 * i]? = some (.int (bv c))
  | x :: cs, 0, c, h => by simp at h; subst h; rfl
  | x :: cs, i + 1, c, h => by rw [show 2 * (i + 1) = 2 * i + 1 + 1 by omega]; simp [wid]; exact wid_lo (by simpa using h)
theorem wid_hi : ∀ {cs : List Nat} {i c : Nat}, cs[i]? = some c → (wid cs)[2 * i + 1]? = some (.int (bv (c / 256)))
  | x :: cs, 0, c, h => by simp at h; subst h; rfl
  | x :: cs, i + 1, c, h => by rw [show 2 * (i + 1) + 1 = 2 * i + 1 + 1 + 1 by omega]; simp [wid]; exact wid_hi (by simpa using h)
theorem inc_nat (i : Nat) : Int32.ofNat i + Int32.ofInt 1 = Int32.ofNat (i + 1) := add_nat i 1
theorem take_succ_some {α : Type} {cs : List α} {i : Nat} {c : α} (h : cs[i]? = some c) : cs.take (i + 1) = cs.take i ++ [c] := by rw [List.take_add_one, h]; rfl
theorem lat_step {cs : List Nat} {bs : List Value} {i ci : Nat} (hl : bs.length = cs.length) (hci : cs[i]? = some ci) (ht : bs.take i = lat (cs.take i)) : (bs.set i (.int (nar .byte (Int32.ofNat ci).toInt8.toInt32))).take (i + 1) = lat (cs.take (i + 1)) := by
  obtain ⟨hi, -⟩ := List.getElem?_eq_some_iff.mp hci
  rw [take_succ_some hci, take_succ_some (c := .int (nar .byte (Int32.ofNat ci).toInt8.toInt32)) (by rw [List.getElem?_set_self (by omega)]), List.take_set_of_le (Nat.le_refl _), ht, byte_idem]
  simp [lat, bv]
theorem all_step {cs : List Nat} {i ci : Nat} (hci : cs[i]? = some ci) (hs : ∀ c ∈ cs.take i, c < 256) (h : ci < 256) : ∀ c ∈ cs.take (i + 1), c < 256 := by
  rw [take_succ_some hci]; intro c hc; rcases List.mem_append.mp hc with q | q
  · exact hs c q
  · simp at q; omega
theorem le255 {c : Nat} (h : c < 65536) : ¬ (255 : Int32) < Int32.ofNat c ↔ c < 256 := by
  rw [show (255 : Int32) = Int32.ofNat 255 from rfl, lt_nat (by omega) (by omega)]; omega
theorem gt255 {c : Nat} (h : c < 65536) : (255 : Int32) < Int32.ofNat c ↔ 256 ≤ c := by
  rw [show (255 : Int32) = Int32.ofNat 255 from rfl, lt_nat (by omega) (by omega)]; omega
theorem ofNat_ne0 {n : Nat} (h : 0 < n) (h' : n < 2147483648) : ¬ Int32.ofNat n = 0 := by
  rw [show (0 : Int32) = Int32.ofNat 0 from rfl, eq_nat h' (by omega)]; omega
theorem shl1 (i : Nat) : Int32.ofNat i <<< ((1 : Int32) &&& 31) = Int32.ofNat (2 * i) := by
  rw [show (1 : Int32) = Int32.ofNat 1 from rfl, shl_nat (by omega), Nat.mul_comm]
theorem shr1 {i : Nat} (h : i < 2147483648) : Int32.ofNat i >>> ((1 : Int32) &&& 31) = Int32.ofNat (i / 2) := by
  rw [show (1 : Int32) = Int32.ofNat 1 from rfl, shr_nat h (by omega)]
theorem ushr31 {x : Int32} (h : x < 0) : XT.ushr x 31 = 1 := by
  rw [Int32.lt_iff_toInt_lt] at h
  have e0 : (0 : Int32).toInt = 0 := rfl
  rw [e0] at h
  apply i32_ext
  have hb : 2147483648 ≤ x.toBitVec.toNat := by
    have e : x.toInt = x.toBitVec.toInt := rfl
    rw [e, BitVec.toInt_eq_toNat_cond] at h
    split at h <;> omega
  have hl := x.toBitVec.isLt
  show BitVec.toNat (x.toBitVec >>> (BitVec.ofNat 32 31 % 32)) = 1
  rw [show (BitVec.ofNat 32 31 % 32) = 31#32 by decide, BitVec.ushiftRight_eq', BitVec.toNat_ushiftRight, show (31#32).toNat = 31 by decide, Nat.shiftRight_eq_div_pow]
  omega
theorem cod1 {n : Nat} (h : 0 < n) (h' : n < 1000000) : (XT.ushr (Int32.ofNat n - Int32.ofNat (2 * n)) 31).toInt8.toInt32 = 1 := by
  rw [ushr31 (by
    rw [Int32.lt_iff_toInt_lt, Int32.toInt_sub, toInt_small (by omega), toInt_small (by omega)]
    show Int.bmod _ _ < 0
    rw [Int.bmod_eq_of_le (by omega) (by omega)]; omega)]
  decide
theorem cod0 (x : Int32) : (XT.ushr (x - x) 31).toInt8.toInt32 = 0 := by
  have e : x - x = 0 := by apply Int32.toBitVec_inj.mp; rw [Int32.toBitVec_sub, BitVec.sub_self]; rfl
  rw [e]; decide
theorem wid_step {cs : List Nat} {bs : List Value} {i ci : Nat} (hl : bs.length = 2 * cs.length) (hci : cs[i]? = some ci) (ht : bs.take (2 * i) = wid (cs.take i)) : ((bs.set (2 * i) (.int (bv ci))).set (2 * i + 1) (.int (bv (ci / 256)))).take (2 * (i + 1)) = wid (cs.take (i + 1)) := by
  obtain ⟨hi, -⟩ := List.getElem?_eq_some_iff.mp hci
  have w2 : ∀ (xs : List Nat) (x : Nat), wid (xs ++ [x]) = wid xs ++ [.int (bv x), .int (bv (x / 256))] := by
    intro xs x; induction xs with
    | nil => rfl
    | cons y ys ih => simp [wid, ih]
  rw [show 2 * (i + 1) = 2 * i + 1 + 1 by omega, take_succ_some (c := .int (bv (ci / 256))) (by rw [List.getElem?_set_self (by simp; omega)]), List.take_set_of_le (Nat.le_refl _), take_succ_some (c := .int (bv ci)) (by rw [List.getElem?_set_self (by omega)]), List.take_set_of_le (Nat.le_refl _), ht, take_succ_some hci, w2]
  simp
/-- the first place of c in cs, from i on -/
def ixN (c : Nat) : List Nat → Nat → Option Nat
  | [], _ => none
  | x :: xs, i => if x = c then some i else ixN c xs (i + 1)
def ixv (c : Nat) (cs : List Nat) (i : Nat) : Int32 := match ixN c (cs.drop i) i with | some j => Int32.ofNat j | none => -1
theorem ixv_end {c : Nat} {cs : List Nat} {i : Nat} (h : cs.length ≤ i) : ixv c cs i = -1 := by rw [ixv, List.drop_of_length_le h]; rfl
theorem ixv_hit {c : Nat} {cs : List Nat} {i : Nat} (h : cs[i]? = some c) : ixv c cs i = Int32.ofNat i := by
  obtain ⟨hi, e⟩ := List.getElem?_eq_some_iff.mp h
  rw [ixv, List.drop_eq_getElem_cons hi, e]; simp [ixN]
theorem ixv_miss {c x : Nat} {cs : List Nat} {i : Nat} (h : cs[i]? = some x) (hx : ¬ x = c) : ixv c cs i = ixv c cs (i + 1) := by
  obtain ⟨hi, e⟩ := List.getElem?_eq_some_iff.mp h
  rw [ixv, List.drop_eq_getElem_cons hi, e]; simp [ixN, hx, ixv]
theorem bv_inj {x y : Nat} (hx : x < 256) (hy : y < 256) (h : bv x = bv y) : x = y := by
  have := bv_char hx; rw [h, bv_char hy] at this
  exact ((eq_nat (by omega) (by omega)).mp this).symm
theorem lat_take_drop (cs : List Nat) (b n : Nat) : ((lat cs).drop b).take n = lat ((cs.drop b).take n) := by simp [lat, List.map_drop, List.map_take]
/-- the String at a, Latin-1, its array at t -/
def StrL (Z : State) (h : Heap) (a t : Addr) (ca : ClassId) (cs : List Nat) : Prop := Exa Z h a ST ∧ Fld Z h a ST "value" "[B" (.ref t) ∧ Fld Z h a ST "coder" "B" (.int 0) ∧ Ary Z h t ca .byte (lat cs) ∧ ∀ c ∈ cs, c < 256
/-- .. UTF-16 -/
def StrW (Z : State) (h : Heap) (a t : Addr) (ca : ClassId) (cs : List Nat) : Prop := Exa Z h a ST ∧ Fld Z h a ST "value" "[B" (.ref t) ∧ Fld Z h a ST "coder" "B" (.int 1) ∧ Ary Z h t ca .byte (wid cs) ∧ (∀ c ∈ cs, c < 65536) ∧ ∃ c ∈ cs, 256 ≤ c
def Str (Z : State) (h : Heap) (a t : Addr) (ca : ClassId) (cs : List Nat) : Prop := StrL Z h a t ca cs ∨ StrW Z h a t ca cs
section
variable {Z : State} {h h' : Heap} {a t : Addr} {ca : ClassId} {cs : List Nat} {ws : List Addr}
theorem StrL.ext (E : Ext h h') (S : StrL Z h a t ca cs) : StrL Z h' a t ca cs := ⟨S.1.ext E, S.2.1.ext E, S.2.2.1.ext E, S.2.2.2.1.ext E, S.2.2.2.2⟩
theorem StrL.keep (S : StrL Z h a t ca cs) (K : Keep h h' ws) (q : a ∉ ws) (r : t ∉ ws) : StrL Z h' a t ca cs := ⟨S.1.keep K, S.2.1.keep K q, S.2.2.1.keep K q, S.2.2.2.1.keep K r, S.2.2.2.2⟩
theorem StrW.ext (E : Ext h h') (S : StrW Z h a t ca cs) : StrW Z h' a t ca cs := ⟨S.1.ext E, S.2.1.ext E, S.2.2.1.ext E, S.2.2.2.1.ext E, S.2.2.2.2⟩
theorem StrW.keep (S : StrW Z h a t ca cs) (K : Keep h h' ws) (q : a ∉ ws) (r : t ∉ ws) : StrW Z h' a t ca cs := ⟨S.1.keep K, S.2.1.keep K q, S.2.2.1.keep K q, S.2.2.2.1.keep K r, S.2.2.2.2⟩
theorem StrL.lt (S : StrL Z h a t ca cs) : a < h.size := S.1.lt
theorem StrL.ltT (S : StrL Z h a t ca cs) : t < h.size := S.2.2.2.1.lt
theorem StrW.lt (S : StrW Z h a t ca cs) : a < h.size := S.1.lt
theorem StrW.ltT (S : StrW Z h a t ca cs) : t < h.size := S.2.2.2.1.lt
theorem Str.lt (S : Str Z h a t ca cs) : a < h.size := S.elim (·.lt) (·.lt)
theorem Str.ltT (S : Str Z h a t ca cs) : t < h.size := S.elim (·.ltT) (·.ltT)
theorem Str.ext (E : Ext h h') (S : Str Z h a t ca cs) : Str Z h' a t ca cs := S.imp (·.ext E) (·.ext E)
theorem Str.keep (S : Str Z h a t ca cs) (K : Keep h h' ws) (q : a ∉ ws) (r : t ∉ ws) : Str Z h' a t ca cs := S.imp (·.keep K q r) (·.keep K q r)
theorem Str.exa (S : Str Z h a t ca cs) : Exa Z h a ST := S.elim (·.1) (·.1)
theorem Str.val (S : Str Z h a t ca cs) : Fld Z h a ST "value" "[B" (.ref t) := S.elim (·.2.1) (·.2.1)
theorem Str.raw (S : Str Z h a t ca cs) : ∃ vs cd, Fld Z h a ST "coder" "B" (.int cd) ∧ Ary Z h t ca .byte vs ∧ (cd = 0 ∨ cd = 1) ∧ Int32.ofNat vs.length >>> (cd &&& 31) = Int32.ofNat cs.length ∧ (vs.length = 0 ↔ cs.length = 0) ∧ ((cd = 0 ∧ vs = lat cs ∧ ∀ c ∈ cs, c < 256) ∨ (cd = 1 ∧ vs = wid cs)) := by
  rcases S with ⟨h1, h2, h3, h4, h5⟩ | ⟨h1, h2, h3, h4, h5, h6⟩
  · exact ⟨_, 0, h3, h4, Or.inl rfl, by rw [shr_zero, lat_len], by rw [lat_len], Or.inl ⟨rfl, rfl, h5⟩⟩
  · exact ⟨_, 1, h3, h4, Or.inr rfl, by have := h4.1; rw [wid_len] at this ⊢; rw [shr1 this]; congr 1; omega, by rw [wid_len]; omega, Or.inr ⟨rfl, rfl⟩⟩
theorem Str.c16 (S : Str Z h a t ca cs) : ∀ c ∈ cs, c < 65536 := S.elim (fun q c hc => Nat.lt_trans (q.2.2.2.2 c hc) (by omega)) (·.2.2.2.2.1)
end
end Jvm.OwnKit
namespace Jvm.Pilot.@@N@@
open Jvm Jvm.ClassFile Sem Op Lib Jvm.Free Jvm.Stand Jvm.LawKit Jvm.RoadKit Bundle Jvm.Pilot.@@N@@.Jvm.D Jvm.OwnKit
theorem own_ch8 (x : Int32) : ∃ k, k < 256 ∧ nar .char (x &&& (255 : Int32)) = Int32.ofNat k := by
  obtain ⟨k, h, e⟩ := and_lt (x := x) (j := 8) (by omega)
  refine ⟨k, h, ?_⟩
  rw [show (255 : Int32) = Int32.ofNat (2 ^ 8 - 1) from rfl, e, char_of_nat (by omega)]
theorem own_three (x : Int32) : (1 : Int32) + (x &&& (2147483647 : Int32)) % (3 : Int32) = 1 ∨ (1 : Int32) + (x &&& (2147483647 : Int32)) % (3 : Int32) = 2 ∨ (1 : Int32) + (x &&& (2147483647 : Int32)) % (3 : Int32) = 3 := by
  obtain ⟨k, hk, e⟩ := and31 x
  rw [e, show (3 : Int32) = Int32.ofNat 3 from rfl, rem_nat hk (by omega) (by omega), show (1 : Int32) = Int32.ofNat 1 from rfl, add_nat]
  have := Nat.mod_lt k (show 0 < 3 by omega)
  obtain h | h | h : k % 3 = 0 ∨ k % 3 = 1 ∨ k % 3 = 2 := by omega
  · rw [h]; exact Or.inl rfl
  · rw [h]; exact Or.inr (Or.inl rfl)
  · rw [h]; exact Or.inr (Or.inr rfl)
theorem own_d8_0 : decode jdk_43_method_3_code 0 = .ok (.iload_n 0, 1) := by decide +kernel
theorem own_d8_1 : decode jdk_43_method_3_code 1 = .ok (.sipush 255, 3) := by decide +kernel
theorem own_d8_4 : decode jdk_43_method_3_code 4 = .ok (.if_icmp .gt 7, 3) := by decide +kernel
theorem own_d8_7 : decode jdk_43_method_3_code 7 = .ok (.iconst 1, 1) := by decide +kernel
theorem own_d8_8 : decode jdk_43_method_3_code 8 = .ok (.goto 4, 3) := by decide +kernel
theorem own_d8_11 : decode jdk_43_method_3_code 11 = .ok (.iconst 0, 1) := by decide +kernel
theorem own_d8_12 : decode jdk_43_method_3_code 12 = .ok (.ireturn, 1) := by decide +kernel
theorem own_pn_java_lang_StringLatin1 : plainName "java/lang/StringLatin1" = true := by first | (simp [plainName, overriddenIn]; done) | decide +kernel
theorem own_pd_pCqZ : parseMethodDescriptor "(C)Z" = some ⟨[.char], some .boolean⟩ := by decide +kernel
theorem own_ef_own_d8 (m : MethodId) (x0 : Int32) : entryFrame m #[(.int x0)] 1 = mkF m 0 #[.val (.int x0)] [] := by
  first | (simp [entryFrame, mkF, argsToLocals, Value.category]; done) | rfl
set_option maxRecDepth 65536 in
set_option maxHeartbeats 40000000 in
theorem own_canEncC (l : Launch) (Z : State) (a0 : Array Value) (hw : ∀ d ∈ tables_1, d.before a0 Z = true) (x : Int32) (h0 : Heap) (n0 : Nat) (O : Old Z n0 h0)  :
    Ctr l Z n0 (⟨"java/lang/StringLatin1", "canEncode", "(C)Z"⟩ : MethodName) jdk_43_method_3_code 1 (some .boolean) [] ({ frames := 0, cells := 0, slots := 0, locals := 0 } : Room) #[(.int x)] h0 [] (fun v h => v = some (.int (if (255 : Int32) < x then 0 else 1)) ∧ h0 = h) := by
  refine enter (plainFor_of_name own_pn_java_lang_StringLatin1) (fun m => own_ef_own_d8 m x) O (fun _ q => nomatch q) ?_
  intro p e s m below meth c T w
  refine i_iloadN w own_d8_0 rfl (pc' := 1) rfl ?_
  refine i_sipush w own_d8_1 (z := (255 : Int32)) (by decide) (pc' := 4) rfl ?_
  refine i_icmp_gt w own_d8_4 (pcY := 11) (by decide) (pc' := 7) rfl (fun hc4 => ?_) (fun hc4 => ?_)
  ·
    refine i_iconst w own_d8_11 (z := (0 : Int32)) (by decide) (pc' := 12) rfl ?_
    exact i_retN w own_d8_12 rfl (by simp) ⟨by rw [if_pos hc4]; rfl, rfl⟩ (by decide) (by decide)
  ·
    refine i_iconst w own_d8_7 (z := (1 : Int32)) (by decide) (pc' := 8) rfl ?_
    refine i_goto w own_d8_8 (pc' := 12) (by decide) ?_
    exact i_retN w own_d8_12 rfl (by simp) ⟨by rw [if_neg hc4]; rfl, rfl⟩ (by decide) (by decide)
theorem own_d9_0 : decode jdk_43_method_46_code 0 = .ok (.iconst 1, 1) := by decide +kernel
theorem own_d9_1 : decode jdk_43_method_46_code 1 = .ok (.newarray .byte, 2) := by decide +kernel
theorem own_d9_3 : decode jdk_43_method_46_code 3 = .ok (.dup, 1) := by decide +kernel
theorem own_d9_4 : decode jdk_43_method_46_code 4 = .ok (.iconst 0, 1) := by decide +kernel
theorem own_d9_5 : decode jdk_43_method_46_code 5 = .ok (.iload_n 0, 1) := by decide +kernel
theorem own_d9_6 : decode jdk_43_method_46_code 6 = .ok (.i2b, 1) := by decide +kernel
theorem own_d9_7 : decode jdk_43_method_46_code 7 = .ok (.bastore, 1) := by decide +kernel
theorem own_d9_8 : decode jdk_43_method_46_code 8 = .ok (.areturn, 1) := by decide +kernel
theorem own_pd_pCqAB : parseMethodDescriptor "(C)[B" = some ⟨[.char], some (.array .byte)⟩ := by decide +kernel
theorem own_ef_own_d9 (m : MethodId) (x0 : Int32) : entryFrame m #[(.int x0)] 1 = mkF m 0 #[.val (.int x0)] [] := by
  first | (simp [entryFrame, mkF, argsToLocals, Value.category]; done) | rfl
set_option maxRecDepth 65536 in
set_option maxHeartbeats 40000000 in
theorem own_toBytesC (l : Launch) (Z : State) (a0 : Array Value) (hw : ∀ d ∈ tables_1, d.before a0 Z = true) (x : Int32) (h0 : Heap) (n0 : Nat) (O : Old Z n0 h0)  :
    Ctr l Z n0 (⟨"java/lang/StringLatin1", "toBytes", "(C)[B"⟩ : MethodName) jdk_43_method_46_code 1 (some (.array .byte)) [] ({ frames := 0, cells := 1, slots := 1, locals := 0 } : Room) #[(.int x)] h0 [] (fun v h => ∃ t ca, v = some (.ref t) ∧ h0.size ≤ t ∧ Ary Z h t ca .byte [.int x.toInt8.toInt32]) := by
  refine enter (plainFor_of_name own_pn_java_lang_StringLatin1) (fun m => own_ef_own_d9 m x) O (fun _ q => nomatch q) ?_
  intro p e s m below meth c T w
  refine i_iconst w own_d9_0 (z := (1 : Int32)) (by decide) (pc' := 1) rfl ?_
  refine i_newP w own_d9_1 (hw _ (List.mem_of_getElem? (i := 21) rfl)) (N := 1) rfl (by decide) (cap := 1) (by decide) (by decide) (by decide) (by decide) (pc' := 3) rfl ?_
  intro b T1 h1 ca_b g_b w1 z_b E1 A_b
  show Goes p e below _ T1 (mkF m 3 #[.val (.int x)] [(.ref b)])
  refine i_dup w1 own_d9_3 rfl (pc' := 4) rfl ?_
  refine i_iconst w1 own_d9_4 (z := (0 : Int32)) (by decide) (pc' := 5) rfl ?_
  refine i_iloadN w1 own_d9_5 rfl (pc' := 6) rfl ?_
  refine i_i2b w1 own_d9_6 (pc' := 7) rfl ?_
  refine i_bastore w1 own_d9_7 A_b (i := 0) rfl (by decide) (Or.inr z_b) (pc' := 8) rfl ?_
  intro T3 h3 w3 K3 A3
  show Goes p e below _ T3 (mkF m 8 #[.val (.int x)] [(.ref b)])
  exact i_retA w3 own_d9_8 rfl rfl rfl ⟨b, ca_b, rfl, z_b, by simpa only [List.replicate, List.set, byte_idem] using A3⟩ (by decide) (by decide)
theorem own_d10_0 : decode jdk_42_method_151_code 0 = .ok (.aload_n 0, 1) := by decide +kernel
theorem own_d10_1 : decode jdk_42_method_151_code 1 = .ok (.invokespecial 1, 3) := by decide +kernel
theorem own_d10_4 : decode jdk_42_method_151_code 4 = .ok (.aload_n 0, 1) := by decide +kernel
theorem own_d10_5 : decode jdk_42_method_151_code 5 = .ok (.aload_n 1, 1) := by decide +kernel
theorem own_d10_6 : decode jdk_42_method_151_code 6 = .ok (.putfield 9, 3) := by decide +kernel
theorem own_d10_9 : decode jdk_42_method_151_code 9 = .ok (.aload_n 0, 1) := by decide +kernel
theorem own_d10_10 : decode jdk_42_method_151_code 10 = .ok (.iload_n 2, 1) := by decide +kernel
theorem own_d10_11 : decode jdk_42_method_151_code 11 = .ok (.putfield 15, 3) := by decide +kernel
theorem own_d10_14 : decode jdk_42_method_151_code 14 = .ok (.return_, 1) := by decide +kernel
theorem own_pn_java_lang_String : plainName "java/lang/String" = true := by first | (simp [plainName, overriddenIn]; done) | decide +kernel
theorem own_pd_pABBqV : parseMethodDescriptor "([BB)V" = some ⟨[(.array .byte), .byte], none⟩ := by decide +kernel
theorem own_ef_own_d10 (m : MethodId) (x0 : Addr) (x1 : Addr) (x2 : Int32) : entryFrame m #[(.ref x0), (.ref x1), (.int x2)] 3 = mkF m 0 #[.val (.ref x0), .val (.ref x1), .val (.int x2)] [] := by
  first | (simp [entryFrame, mkF, argsToLocals, Value.category]; done) | rfl
set_option maxRecDepth 65536 in
set_option maxHeartbeats 40000000 in
theorem own_initBB (l : Launch) (Z : State) (a0 : Array Value) (hw : ∀ d ∈ tables_1, d.before a0 Z = true) (a t : Addr) (cd : Int32) {v0 c0 : Value} (h0 : Heap) (n0 : Nat) (O : Old Z n0 h0) (ha : n0 ≤ a) (Ea : Exa Z h0 a ST) (Fv : Fld Z h0 a ST "value" "[B" v0) (Fc : Fld Z h0 a ST "coder" "B" c0) (hnb : narrow .byte (.int cd) = .int cd) (hfb : fits .byte (.int cd) = true) :
    Ctr l Z n0 (⟨"java/lang/String", "<init>", "([BB)V"⟩ : MethodName) jdk_42_method_151_code 3 none [] ({ frames := 1, cells := 0, slots := 0, locals := 12 } : Room) #[(.ref a), (.ref t), (.int cd)] h0 [a] (fun v h => v = none ∧ Exa Z h a ST ∧ Fld Z h a ST "value" "[B" (.ref t) ∧ Fld Z h a ST "coder" "B" (.int cd)) := by
  refine enter (plainFor_of_name own_pn_java_lang_String) (fun m => own_ef_own_d10 m a t cd) O (allS ha all0) ?_
  intro p e s m below meth c T w
  refine i_aloadN w own_d10_0 rfl rfl (pc' := 1) rfl ?_
  refine i_initO w own_d10_1 (hw _ (List.mem_of_getElem? (i := 13) rfl)) (hw _ (List.mem_of_getElem? (i := 14) rfl)) (hw _ (List.mem_of_getElem? (i := 15) rfl)) rfl (by decide) (W := 0) (Nat.le_of_eq rfl) (by decide) (pc' := 4) rfl ?_
  intro T4 w4
  show Goes p e below _ T4 (mkF m 4 #[.val (.ref a), .val (.ref t), .val (.int cd)] [])
  refine i_aloadN w4 own_d10_4 rfl rfl (pc' := 5) rfl ?_
  refine i_aloadN w4 own_d10_5 rfl rfl (pc' := 6) rfl ?_
  refine i_putF w4 own_d10_6 (hw _ (List.mem_of_getElem? (i := 30) rfl)) Fv Ea (Or.inr ⟨(hw _ (List.mem_of_getElem? (i := 31) rfl)), rfl, rfl⟩) (hw _ (List.mem_of_getElem? (i := 4) rfl)) (ty := (.array .byte)) (by decide) rfl rfl (Or.inl (List.mem_singleton.mpr rfl)) (pc' := 9) rfl ?_
  intro T5 h5 w5 W5
  show Goes p e below _ T5 (mkF m 9 #[.val (.ref a), .val (.ref t), .val (.int cd)] [])
  have Fv1 := Fld.same W5 Fv
  have Fc1 := Fc.other W5 (Or.inr (slot_ne (Or.inr (hw _ (List.mem_of_getElem? (i := 29) rfl))) (Or.inr (hw _ (List.mem_of_getElem? (i := 31) rfl))) (by decide) (t := .byte) (t' := (.array .byte)) (by decide) (by decide)))
  have Ea1 := Ea.wr W5
  refine i_aloadN w5 own_d10_9 rfl rfl (pc' := 10) rfl ?_
  refine i_iloadN w5 own_d10_10 rfl (pc' := 11) rfl ?_
  refine i_putF w5 own_d10_11 (hw _ (List.mem_of_getElem? (i := 28) rfl)) Fc1 Ea1 (Or.inr ⟨(hw _ (List.mem_of_getElem? (i := 29) rfl)), rfl, rfl⟩) (hw _ (List.mem_of_getElem? (i := 4) rfl)) (ty := .byte) (by decide) hnb hfb (Or.inl (List.mem_singleton.mpr rfl)) (pc' := 14) rfl ?_
  intro T6 h6 w6 W6
  show Goes p e below _ T6 (mkF m 14 #[.val (.ref a), .val (.ref t), .val (.int cd)] [])
  have Fc2 := Fld.same W6 Fc1
  have Fv2 := Fv1.other W6 (Or.inr (slot_ne (Or.inr (hw _ (List.mem_of_getElem? (i := 31) rfl))) (Or.inr (hw _ (List.mem_of_getElem? (i := 29) rfl))) (by decide) (t := (.array .byte)) (t' := .byte) (by decide) (by decide)))
  have Ea2 := Ea1.wr W6
  exact i_ret0 w6 own_d10_14 rfl ⟨rfl, Ea2, Fv2, Fc2⟩ (by decide) (by decide)
theorem own_d7_0 : decode jdk_42_method_139_code 0 = .ok (.getstatic 38, 3) := by decide +kernel
theorem own_d7_3 : decode jdk_42_method_139_code 3 = .ok (.ifCond .eq 23, 3) := by decide +kernel
theorem own_d7_6 : decode jdk_42_method_139_code 6 = .ok (.iload_n 0, 1) := by decide +kernel
theorem own_d7_7 : decode jdk_42_method_139_code 7 = .ok (.invokestatic 1015, 3) := by decide +kernel
theorem own_d7_10 : decode jdk_42_method_139_code 10 = .ok (.ifCond .eq 16, 3) := by decide +kernel
theorem own_d7_13 : decode jdk_42_method_139_code 13 = .ok (.new 10, 3) := by decide +kernel
theorem own_d7_16 : decode jdk_42_method_139_code 16 = .ok (.dup, 1) := by decide +kernel
theorem own_d7_17 : decode jdk_42_method_139_code 17 = .ok (.iload_n 0, 1) := by decide +kernel
theorem own_d7_18 : decode jdk_42_method_139_code 18 = .ok (.invokestatic 1018, 3) := by decide +kernel
theorem own_d7_21 : decode jdk_42_method_139_code 21 = .ok (.iconst 0, 1) := by decide +kernel
theorem own_d7_22 : decode jdk_42_method_139_code 22 = .ok (.invokespecial 209, 3) := by decide +kernel
theorem own_d7_25 : decode jdk_42_method_139_code 25 = .ok (.areturn, 1) := by decide +kernel
theorem own_d7_26 : decode jdk_42_method_139_code 26 = .ok (.new 10, 3) := by decide +kernel
theorem own_d7_29 : decode jdk_42_method_139_code 29 = .ok (.dup, 1) := by decide +kernel
theorem own_d7_30 : decode jdk_42_method_139_code 30 = .ok (.iload_n 0, 1) := by decide +kernel
theorem own_d7_31 : decode jdk_42_method_139_code 31 = .ok (.invokestatic 1021, 3) := by decide +kernel
theorem own_d7_34 : decode jdk_42_method_139_code 34 = .ok (.iconst 1, 1) := by decide +kernel
theorem own_d7_35 : decode jdk_42_method_139_code 35 = .ok (.invokespecial 209, 3) := by decide +kernel
theorem own_d7_38 : decode jdk_42_method_139_code 38 = .ok (.areturn, 1) := by decide +kernel
theorem own_pd_pCqLjava_lang_Stringe : parseMethodDescriptor "(C)Ljava/lang/String;" = some ⟨[.char], some (.object "java/lang/String")⟩ := by decide +kernel
theorem own_ef_own_d7 (m : MethodId) (x0 : Int32) : entryFrame m #[(.int x0)] 1 = mkF m 0 #[.val (.int x0)] [] := by
  first | (simp [entryFrame, mkF, argsToLocals, Value.category]; done) | rfl
set_option maxRecDepth 65536 in
set_option maxHeartbeats 40000000 in
theorem own_valueOfC (l : Launch) (Z : State) (a0 : Array Value) (hw : ∀ d ∈ tables_1, d.before a0 Z = true) (x : Nat) (G1 : Int32) (hG : ¬ G1 = 0) (SG : Sta Z Z.heap "java/lang/String" "COMPACT_STRINGS" "Z" (.int G1)) (h0 : Heap) (n0 : Nat) (O : Old Z n0 h0) (hx : x < 256) :
    Ctr l Z n0 (⟨"java/lang/String", "valueOf", "(C)Ljava/lang/String;"⟩ : MethodName) jdk_42_method_139_code 1 (some (.object "java/lang/String")) [] ({ frames := 2, cells := 2, slots := 5, locals := 27 } : Room) #[(.int (Int32.ofNat x))] h0 [] (fun v h => ∃ a t ca, v = some (.ref a) ∧ h0.size ≤ a ∧ a < t ∧ StrL Z h a t ca [x]) := by
  refine enter (plainFor_of_name own_pn_java_lang_String) (fun m => own_ef_own_d7 m (Int32.ofNat x)) O (fun _ q => nomatch q) ?_
  intro p e s m below meth c T w
  have hx255 : ¬ (255 : Int32) < Int32.ofNat x := (le255 (by omega)).mpr hx
  refine i_getS w own_d7_0 (hw _ (List.mem_of_getElem? (i := 16) rfl)) SG (pc' := 3) rfl ?_
  intro T7 w7
  refine i_if_eq_N w7 hG own_d7_3 (pc' := 6) rfl ?_
  refine i_iloadN w7 own_d7_6 rfl (pc' := 7) rfl ?_
  refine c_static w7 (y := (⟨"java/lang/StringLatin1", "canEncode", "(C)Z"⟩ : MethodName)) (argsL := [(.int (Int32.ofNat x))]) (st := []) own_d7_7 (hw _ (List.mem_of_getElem? (i := 35) rfl)) (hw _ (List.mem_of_getElem? (i := 36) rfl)) (hw _ (List.mem_of_getElem? (i := 37) rfl)) (hw _ (List.mem_of_getElem? (i := 38) rfl)) (by decide) own_pd_pCqZ rfl (own_canEncC l Z a0 hw (Int32.ofNat x) h0 n0 w7.old ) rfl (by decide) (W := 0) (Nat.le_of_eq rfl) (by decide) (by decide) (by decide) (fun _ q => nomatch q) (pc' := 10) rfl ?_
  intro v8 T8 h8 w8 K8 q8
  obtain ⟨rfl, rfl⟩ := q8
  show Goes p e below _ T8 (mkF m 10 #[.val (.int (Int32.ofNat x))] [(.int (if (255 : Int32) < (Int32.ofNat x) then 0 else 1))])
  rw [if_neg hx255]
  show Goes p e below _ T8 (mkF m 10 #[.val (.int (Int32.ofNat x))] [(.int (1 : Int32))])
  refine i_if_eq_N w8 (by decide) own_d7_10 (pc' := 13) rfl ?_
  refine i_new w8 own_d7_13 (hw _ (List.mem_of_getElem? (i := 39) rfl)) (hw _ (List.mem_of_getElem? (i := 4) rfl)) (hw _ (List.mem_of_getElem? (i := 5) rfl)) (by decide) (by decide) (pc' := 16) rfl ?_
  intro a T9 h9 g_a w9 z_a E9 A_a D_a
  show Goes p e below _ T9 (mkF m 16 #[.val (.int (Int32.ofNat x))] [(.ref a)])
  have Fv : Fld Z h9 a ST "value" "[B" .null := D_a (Or.inr (hw _ (List.mem_of_getElem? (i := 31) rfl))) (ty := .array .byte) (by decide)
  have Fc : Fld Z h9 a ST "coder" "B" (.int 0) := D_a (Or.inr (hw _ (List.mem_of_getElem? (i := 29) rfl))) (ty := .byte) (by decide)
  refine i_dup w9 own_d7_16 rfl (pc' := 17) rfl ?_
  refine i_iloadN w9 own_d7_17 rfl (pc' := 18) rfl ?_
  refine c_static w9 (y := (⟨"java/lang/StringLatin1", "toBytes", "(C)[B"⟩ : MethodName)) (argsL := [(.int (Int32.ofNat x))]) (st := [(.ref a), (.ref a)]) own_d7_18 (hw _ (List.mem_of_getElem? (i := 40) rfl)) (hw _ (List.mem_of_getElem? (i := 41) rfl)) (hw _ (List.mem_of_getElem? (i := 37) rfl)) (hw _ (List.mem_of_getElem? (i := 42) rfl)) (by decide) own_pd_pCqAB rfl (own_toBytesC l Z a0 hw (Int32.ofNat x) h9 n0 w9.old ) rfl (by decide) (W := 2) (Nat.le_of_eq rfl) (by decide) (by decide) (by decide) (fun _ q => nomatch q) (pc' := 21) rfl ?_
  intro v11 T11 h11 w11 K11 q11
  obtain ⟨t, ca, rfl, zt, At⟩ := q11
  show Goes p e below _ T11 (mkF m 21 #[.val (.int (Int32.ofNat x))] [(.ref t), (.ref a), (.ref a)])
  have Fv1 := Fv.keep K11 nin0
  have Fc1 := Fc.keep K11 nin0
  have Ea1 := A_a.keep K11
  have lat1 : a < t := Nat.lt_of_lt_of_le A_a.lt zt
  refine i_iconst w11 own_d7_21 (z := (0 : Int32)) (by decide) (pc' := 22) rfl ?_
  refine c_special w11 (y := (⟨"java/lang/String", "<init>", "([BB)V"⟩ : MethodName)) (a := a) (argsL := [(.ref t), (.int (0 : Int32))]) (st := [(.ref a)]) own_d7_22 rfl (hw _ (List.mem_of_getElem? (i := 43) rfl)) (hw _ (List.mem_of_getElem? (i := 44) rfl)) (hw _ (List.mem_of_getElem? (i := 5) rfl)) (hw _ (List.mem_of_getElem? (i := 45) rfl)) (by decide) own_pd_pABBqV rfl (own_initBB l Z a0 hw a t 0 h11 n0 w11.old (Nat.le_trans w11.n0h0 z_a) Ea1 Fv1 Fc1 rfl rfl) rfl (by decide) (W := 1) (Nat.le_of_eq rfl) (by decide) (by decide) (by decide) (allS (Or.inr z_a) all0) (pc' := 25) rfl ?_
  intro v13 T13 h13 w13 K13 q13
  obtain ⟨rfl, Ea2, Fv2, Fc2⟩ := q13
  show Goes p e below _ T13 (mkF m 25 #[.val (.int (Int32.ofNat x))] [(.ref a)])
  have At2 := At.keep K13 (ninS (Nat.ne_of_gt lat1) nin0)
  exact i_retA w13 own_d7_25 rfl rfl rfl ⟨a, t, ca, rfl, z_a, lat1, Ea2, Fv2, Fc2, At2, fun c hc => by simp at hc; omega⟩ (by decide) (by decide)
theorem own_d5_0 : decode jdk_52_method_21_code 0 = .ok (.iconst 0, 1) := by decide +kernel
theorem own_d5_1 : decode jdk_52_method_21_code 1 = .ok (.istore 5, 2) := by decide +kernel
theorem own_d5_3 : decode jdk_52_method_21_code 3 = .ok (.iload 5, 2) := by decide +kernel
theorem own_d5_5 : decode jdk_52_method_21_code 5 = .ok (.iload 4, 2) := by decide +kernel
theorem own_d5_7 : decode jdk_52_method_21_code 7 = .ok (.if_icmp .ge 37, 3) := by decide +kernel
theorem own_d5_10 : decode jdk_52_method_21_code 10 = .ok (.aload_n 0, 1) := by decide +kernel
theorem own_d5_11 : decode jdk_52_method_21_code 11 = .ok (.iload_n 1, 1) := by decide +kernel
theorem own_d5_12 : decode jdk_52_method_21_code 12 = .ok (.caload, 1) := by decide +kernel
theorem own_d5_13 : decode jdk_52_method_21_code 13 = .ok (.istore 6, 2) := by decide +kernel
theorem own_d5_15 : decode jdk_52_method_21_code 15 = .ok (.iload 6, 2) := by decide +kernel
theorem own_d5_17 : decode jdk_52_method_21_code 17 = .ok (.sipush 255, 3) := by decide +kernel
theorem own_d5_20 : decode jdk_52_method_21_code 20 = .ok (.if_icmp .le 6, 3) := by decide +kernel
theorem own_d5_23 : decode jdk_52_method_21_code 23 = .ok (.iload 5, 2) := by decide +kernel
theorem own_d5_25 : decode jdk_52_method_21_code 25 = .ok (.ireturn, 1) := by decide +kernel
theorem own_d5_26 : decode jdk_52_method_21_code 26 = .ok (.aload_n 2, 1) := by decide +kernel
theorem own_d5_27 : decode jdk_52_method_21_code 27 = .ok (.iload_n 3, 1) := by decide +kernel
theorem own_d5_28 : decode jdk_52_method_21_code 28 = .ok (.iload 6, 2) := by decide +kernel
theorem own_d5_30 : decode jdk_52_method_21_code 30 = .ok (.i2b, 1) := by decide +kernel
theorem own_d5_31 : decode jdk_52_method_21_code 31 = .ok (.bastore, 1) := by decide +kernel
theorem own_d5_32 : decode jdk_52_method_21_code 32 = .ok (.iinc 1 1, 3) := by decide +kernel
theorem own_d5_35 : decode jdk_52_method_21_code 35 = .ok (.iinc 3 1, 3) := by decide +kernel
theorem own_d5_38 : decode jdk_52_method_21_code 38 = .ok (.iinc 5 1, 3) := by decide +kernel
theorem own_d5_41 : decode jdk_52_method_21_code 41 = .ok (.goto (-38), 3) := by decide +kernel
theorem own_d5_44 : decode jdk_52_method_21_code 44 = .ok (.iload 4, 2) := by decide +kernel
theorem own_d5_46 : decode jdk_52_method_21_code 46 = .ok (.ireturn, 1) := by decide +kernel
theorem own_pn_java_lang_StringUTF16 : plainName "java/lang/StringUTF16" = true := by first | (simp [plainName, overriddenIn]; done) | decide +kernel
set_option maxRecDepth 65536 in
set_option maxHeartbeats 40000000 in
theorem own_cmp5_loop (l : Launch) (Z : State) (b d : Addr) (cb cd : ClassId) (cs : List Nat) (hcs : ∀ c ∈ cs, c < 65536) (hn : cs.length ≤ 65536) (hbd : b ≠ d) (h0 : Heap) (n0 : Nat) {p : Program} {e : Env} {s : State} {m : MethodId} {args : Array Value} {below : List Frame} {meth : Method} {c : Code} :
    ∀ (j i : Nat) (T : State) (h : Heap) (kk nn : Nat) (o6 : Slot) (bs : List Value), i + j = cs.length → One o6 → Wk p l e ({ frames := 0, cells := 0, slots := 0, locals := 0 } : Room) s m args below meth c Z "java/lang/StringUTF16" jdk_52_method_21_code 7 (some .int) "compress" n0 h0 [d] T h 0 0 → Ary Z h b cb .char (chs cs) → Ary Z h d cd .byte bs → bs.length = cs.length → bs.take i = lat (cs.take i) → (∀ c ∈ cs.take i, c < 256) →
      Goes p e below (PN s n0 h0 [d] (fun v h => ∃ j bs, v = some (.int (Int32.ofNat j)) ∧ j ≤ cs.length ∧ (∀ c ∈ cs.take j, c < 256) ∧ (∀ c, cs[j]? = some c → 256 ≤ c) ∧ Ary Z h d cd .byte bs ∧ bs.length = cs.length ∧ bs.take j = lat (cs.take j)) 0 0) T (mkF m 3 #[.val (.ref b), .val (.int (Int32.ofNat i)), .val (.ref d), .val (.int (Int32.ofNat i)), .val (.int (Int32.ofNat cs.length)), .val (.int (Int32.ofNat i)), o6] []) := by
  intro j
  induction j with
  | zero =>
    intro i T h kk nn o6 bs hij ho6 w Ab Ad hbl ht hs
    refine i_iload w own_d5_3 rfl (pc' := 5) rfl ?_
    refine i_iload w own_d5_5 rfl (pc' := 7) rfl ?_
    refine i_icmp_ge_Y w (by rw [show i = cs.length by omega]; exact Int32.lt_irrefl) own_d5_7 (pc' := 44) (by decide) ?_
    refine i_iload w own_d5_44 rfl (pc' := 46) rfl ?_
    exact i_retI w own_d5_46 rfl ⟨cs.length, bs, rfl, Nat.le_refl _, by rw [show cs.length = i by omega]; exact hs, fun c hc => by simp at hc, Ad, hbl, by rw [show cs.length = i by omega]; exact ht⟩ (by decide) (by decide)
  | succ j ih =>
    intro i T h kk nn o6 bs hij ho6 w Ab Ad hbl ht hs
    obtain ⟨ci, hci⟩ : ∃ ci, cs[i]? = some ci := ⟨_, List.getElem?_eq_getElem (by omega)⟩
    have hcb : ci < 65536 := hcs ci (List.mem_of_getElem? hci)
    refine i_iload w own_d5_3 rfl (pc' := 5) rfl ?_
    refine i_iload w own_d5_5 rfl (pc' := 7) rfl ?_
    refine i_icmp_ge_N w ((lt_nat (by omega) (by omega)).mpr (by omega)) own_d5_7 (pc' := 10) rfl ?_
    refine i_aloadN w own_d5_10 rfl rfl (pc' := 11) rfl ?_
    refine i_iloadN w own_d5_11 rfl (pc' := 12) rfl ?_
    refine i_caload w own_d5_12 Ab rfl (chs_at hci) (pc' := 13) rfl ?_
    refine i_istore w own_d5_13 (l' := #[.val (.ref b), .val (.int (Int32.ofNat i)), .val (.ref d), .val (.int (Int32.ofNat i)), .val (.int (Int32.ofNat cs.length)), .val (.int (Int32.ofNat i)), .val (.int (Int32.ofNat ci))]) (XS.store1 rfl ho6 rfl) (pc' := 15) rfl ?_
    refine i_iload w own_d5_15 rfl (pc' := 17) rfl ?_
    refine i_sipush w own_d5_17 (z := (255 : Int32)) (by decide) (pc' := 20) rfl ?_
    refine i_icmp_le w own_d5_20 (pcY := 26) (by decide) (pc' := 23) rfl (fun hc20 => ?_) (fun hc20 => ?_)
    ·
      refine i_aloadN w own_d5_26 rfl rfl (pc' := 27) rfl ?_
      refine i_iloadN w own_d5_27 rfl (pc' := 28) rfl ?_
      refine i_iload w own_d5_28 rfl (pc' := 30) rfl ?_
      refine i_i2b w own_d5_30 (pc' := 31) rfl ?_
      refine i_bastore w own_d5_31 Ad (i := i) rfl (by omega) (Or.inl (List.mem_singleton.mpr rfl)) (pc' := 32) rfl ?_
      intro T15 h15 w15 K1 A1
      show Goes p e below _ T15 (mkF m 32 #[.val (.ref b), .val (.int (Int32.ofNat i)), .val (.ref d), .val (.int (Int32.ofNat i)), .val (.int (Int32.ofNat cs.length)), .val (.int (Int32.ofNat i)), .val (.int (Int32.ofNat ci))] [])
      refine i_iinc w15 own_d5_32 rfl (z := (Int32.ofNat (i + 1))) (inc_nat i) (l' := #[.val (.ref b), .val (.int (Int32.ofNat (i + 1))), .val (.ref d), .val (.int (Int32.ofNat i)), .val (.int (Int32.ofNat cs.length)), .val (.int (Int32.ofNat i)), .val (.int (Int32.ofNat ci))]) rfl (pc' := 35) rfl ?_
      refine i_iinc w15 own_d5_35 rfl (z := (Int32.ofNat (i + 1))) (inc_nat i) (l' := #[.val (.ref b), .val (.int (Int32.ofNat (i + 1))), .val (.ref d), .val (.int (Int32.ofNat (i + 1))), .val (.int (Int32.ofNat cs.length)), .val (.int (Int32.ofNat i)), .val (.int (Int32.ofNat ci))]) rfl (pc' := 38) rfl ?_
      refine i_iinc w15 own_d5_38 rfl (z := (Int32.ofNat (i + 1))) (inc_nat i) (l' := #[.val (.ref b), .val (.int (Int32.ofNat (i + 1))), .val (.ref d), .val (.int (Int32.ofNat (i + 1))), .val (.int (Int32.ofNat cs.length)), .val (.int (Int32.ofNat (i + 1))), .val (.int (Int32.ofNat ci))]) rfl (pc' := 41) rfl ?_
      refine i_goto w15 own_d5_41 (pc' := 3) (by decide) ?_
      exact ih (i + 1) T15 h15 kk nn (.val (.int (Int32.ofNat ci))) _ (by omega) (One.val rfl) w15 (Ab.keep K1 (ninS hbd nin0)) A1 (by simpa using hbl) (lat_step hbl hci ht) (all_step hci hs ((le255 hcb).mp hc20))
    ·
      refine i_iload w own_d5_23 rfl (pc' := 25) rfl ?_
      exact i_retI w own_d5_25 rfl ⟨i, bs, rfl, by omega, hs, fun c hc => by rw [hci] at hc; cases hc; exact (gt255 hcb).mp hc20, Ad, hbl, ht⟩ (by decide) (by decide)
theorem own_pd_pACIABIIqI : parseMethodDescriptor "([CI[BII)I" = some ⟨[(.array .char), .int, (.array .byte), .int, .int], some .int⟩ := by decide +kernel
theorem own_ef_own_d5 (m : MethodId) (x0 : Addr) (x1 : Int32) (x2 : Addr) (x3 : Int32) (x4 : Int32) : entryFrame m #[(.ref x0), (.int x1), (.ref x2), (.int x3), (.int x4)] 7 = mkF m 0 #[.val (.ref x0), .val (.int x1), .val (.ref x2), .val (.int x3), .val (.int x4), .unset, .unset] [] := by
  first | (simp [entryFrame, mkF, argsToLocals, Value.category]; done) | rfl
set_option maxRecDepth 65536 in
set_option maxHeartbeats 40000000 in
theorem own_cmp5 (l : Launch) (Z : State) (a0 : Array Value) (hw : ∀ d ∈ tables_1, d.before a0 Z = true) (b d : Addr) (cb cd : ClassId) (cs : List Nat) (bs0 : List Value) (h0 : Heap) (n0 : Nat) (O : Old Z n0 h0) (hcs : ∀ c ∈ cs, c < 65536) (hn : cs.length ≤ 65536) (hbd : b ≠ d) (hd : n0 ≤ d) (Ab : Ary Z h0 b cb .char (chs cs)) (Ad : Ary Z h0 d cd .byte bs0) (hbl : bs0.length = cs.length) :
    Ctr l Z n0 (⟨"java/lang/StringUTF16", "compress", "([CI[BII)I"⟩ : MethodName) jdk_52_method_21_code 7 (some .int) [] ({ frames := 0, cells := 0, slots := 0, locals := 0 } : Room) #[(.ref b), (.int (0 : Int32)), (.ref d), (.int (0 : Int32)), (.int (Int32.ofNat cs.length))] h0 [d] (fun v h => ∃ j bs, v = some (.int (Int32.ofNat j)) ∧ j ≤ cs.length ∧ (∀ c ∈ cs.take j, c < 256) ∧ (∀ c, cs[j]? = some c → 256 ≤ c) ∧ Ary Z h d cd .byte bs ∧ bs.length = cs.length ∧ bs.take j = lat (cs.take j)) := by
  refine enter (plainFor_of_name own_pn_java_lang_StringUTF16) (fun m => own_ef_own_d5 m b (0 : Int32) d (0 : Int32) (Int32.ofNat cs.length)) O (allS hd all0) ?_
  intro p e s m below meth c T w
  refine i_iconst w own_d5_0 (z := (0 : Int32)) (by decide) (pc' := 1) rfl ?_
  refine i_istore w own_d5_1 (l' := #[.val (.ref b), .val (.int (0 : Int32)), .val (.ref d), .val (.int (0 : Int32)), .val (.int (Int32.ofNat cs.length)), .val (.int (0 : Int32)), .unset]) rfl (pc' := 3) rfl ?_
  exact own_cmp5_loop l Z b d cb cd cs hcs hn hbd h0 n0 cs.length 0 T h0 0 0 .unset _ (by omega) One.u w Ab Ad hbl rfl (fun c hc => nomatch hc)
theorem own_d23_0 : decode jdk_52_method_3_code 0 = .ok (.iload_n 0, 1) := by decide +kernel
theorem own_d23_1 : decode jdk_52_method_3_code 1 = .ok (.ifCond .ge 11, 3) := by decide +kernel
theorem own_d23_4 : decode jdk_52_method_3_code 4 = .ok (.new 17, 3) := by decide +kernel
theorem own_d23_7 : decode jdk_52_method_3_code 7 = .ok (.dup, 1) := by decide +kernel
theorem own_d23_8 : decode jdk_52_method_3_code 8 = .ok (.invokespecial 19, 3) := by decide +kernel
theorem own_d23_11 : decode jdk_52_method_3_code 11 = .ok (.athrow, 1) := by decide +kernel
theorem own_d23_12 : decode jdk_52_method_3_code 12 = .ok (.iload_n 0, 1) := by decide +kernel
theorem own_d23_13 : decode jdk_52_method_3_code 13 = .ok (.ldc 20, 2) := by decide +kernel
theorem own_d23_15 : decode jdk_52_method_3_code 15 = .ok (.if_icmp .lt 40, 3) := by decide +kernel
theorem own_d23_18 : decode jdk_52_method_3_code 18 = .ok (.new 21, 3) := by decide +kernel
theorem own_d23_21 : decode jdk_52_method_3_code 21 = .ok (.dup, 1) := by decide +kernel
theorem own_d23_22 : decode jdk_52_method_3_code 22 = .ok (.new 23, 3) := by decide +kernel
theorem own_d23_25 : decode jdk_52_method_3_code 25 = .ok (.dup, 1) := by decide +kernel
theorem own_d23_26 : decode jdk_52_method_3_code 26 = .ok (.invokespecial 25, 3) := by decide +kernel
theorem own_d23_29 : decode jdk_52_method_3_code 29 = .ok (.ldc 26, 2) := by decide +kernel
theorem own_d23_31 : decode jdk_52_method_3_code 31 = .ok (.invokevirtual 28, 3) := by decide +kernel
theorem own_d23_34 : decode jdk_52_method_3_code 34 = .ok (.iload_n 0, 1) := by decide +kernel
theorem own_d23_35 : decode jdk_52_method_3_code 35 = .ok (.invokevirtual 32, 3) := by decide +kernel
theorem own_d23_38 : decode jdk_52_method_3_code 38 = .ok (.ldc 35, 2) := by decide +kernel
theorem own_d23_40 : decode jdk_52_method_3_code 40 = .ok (.invokevirtual 28, 3) := by decide +kernel
theorem own_d23_43 : decode jdk_52_method_3_code 43 = .ok (.ldc 20, 2) := by decide +kernel
theorem own_d23_45 : decode jdk_52_method_3_code 45 = .ok (.invokevirtual 32, 3) := by decide +kernel
theorem own_d23_48 : decode jdk_52_method_3_code 48 = .ok (.invokevirtual 37, 3) := by decide +kernel
theorem own_d23_51 : decode jdk_52_method_3_code 51 = .ok (.invokespecial 41, 3) := by decide +kernel
theorem own_d23_54 : decode jdk_52_method_3_code 54 = .ok (.athrow, 1) := by decide +kernel
theorem own_d23_55 : decode jdk_52_method_3_code 55 = .ok (.iload_n 0, 1) := by decide +kernel
theorem own_d23_56 : decode jdk_52_method_3_code 56 = .ok (.iconst 1, 1) := by decide +kernel
theorem own_d23_57 : decode jdk_52_method_3_code 57 = .ok (.ishl, 1) := by decide +kernel
theorem own_d23_58 : decode jdk_52_method_3_code 58 = .ok (.ireturn, 1) := by decide +kernel
theorem own_pd_pIqI : parseMethodDescriptor "(I)I" = some ⟨[.int], some .int⟩ := by decide +kernel
theorem own_ef_own_d23 (m : MethodId) (x0 : Int32) : entryFrame m #[(.int x0)] 1 = mkF m 0 #[.val (.int x0)] [] := by
  first | (simp [entryFrame, mkF, argsToLocals, Value.category]; done) | rfl
set_option maxRecDepth 65536 in
set_option maxHeartbeats 40000000 in
theorem own_nbLen (l : Launch) (Z : State) (a0 : Array Value) (hw : ∀ d ∈ tables_1, d.before a0 Z = true) (N : Nat) (h0 : Heap) (n0 : Nat) (O : Old Z n0 h0) (hN : N ≤ 65536) :
    Ctr l Z n0 (⟨"java/lang/StringUTF16", "newBytesLength", "(I)I"⟩ : MethodName) jdk_52_method_3_code 1 (some .int) [] ({ frames := 0, cells := 0, slots := 0, locals := 0 } : Room) #[(.int (Int32.ofNat N))] h0 [] (fun v h => v = some (.int (Int32.ofNat (2 * N))) ∧ h0 = h) := by
  refine enter (plainFor_of_name own_pn_java_lang_StringUTF16) (fun m => own_ef_own_d23 m (Int32.ofNat N)) O (fun _ q => nomatch q) ?_
  intro p e s m below meth c T w
  refine i_iloadN w own_d23_0 rfl (pc' := 1) rfl ?_
  refine i_if_ge_Y w (nonneg_ofNat (by omega)) own_d23_1 (pc' := 12) (by decide) ?_
  refine i_iloadN w own_d23_12 rfl (pc' := 13) rfl ?_
  refine i_ldcI w (hw _ (List.mem_of_getElem? (i := 100) rfl)) own_d23_13 (pc' := 15) rfl ?_
  refine i_icmp_lt_Y w (by rw [show (1073741823 : Int32) = Int32.ofNat 1073741823 from rfl, lt_nat (by omega) (by omega)]; omega) own_d23_15 (pc' := 55) (by decide) ?_
  refine i_iloadN w own_d23_55 rfl (pc' := 56) rfl ?_
  refine i_iconst w own_d23_56 (z := (1 : Int32)) (by decide) (pc' := 57) rfl ?_
  refine i_ishl w own_d23_57 (pc' := 58) rfl ?_
  exact i_retI w own_d23_58 rfl ⟨by rw [shl1], rfl⟩ (by decide) (by decide)
theorem own_d22_0 : decode jdk_52_method_2_code 0 = .ok (.iload_n 0, 1) := by decide +kernel
theorem own_d22_1 : decode jdk_52_method_2_code 1 = .ok (.invokestatic 11, 3) := by decide +kernel
theorem own_d22_4 : decode jdk_52_method_2_code 4 = .ok (.newarray .byte, 2) := by decide +kernel
theorem own_d22_6 : decode jdk_52_method_2_code 6 = .ok (.areturn, 1) := by decide +kernel
theorem own_pd_pIqAB : parseMethodDescriptor "(I)[B" = some ⟨[.int], some (.array .byte)⟩ := by decide +kernel
theorem own_ef_own_d22 (m : MethodId) (x0 : Int32) : entryFrame m #[(.int x0)] 1 = mkF m 0 #[.val (.int x0)] [] := by
  first | (simp [entryFrame, mkF, argsToLocals, Value.category]; done) | rfl
set_option maxRecDepth 65536 in
set_option maxHeartbeats 40000000 in
theorem own_nbFor (l : Launch) (Z : State) (a0 : Array Value) (hw : ∀ d ∈ tables_1, d.before a0 Z = true) (N : Nat) (h0 : Heap) (n0 : Nat) (O : Old Z n0 h0) (hN : N ≤ 16) :
    Ctr l Z n0 (⟨"java/lang/StringUTF16", "newBytesFor", "(I)[B"⟩ : MethodName) jdk_52_method_2_code 1 (some (.array .byte)) [] ({ frames := 1, cells := 1, slots := 32, locals := 12 } : Room) #[(.int (Int32.ofNat N))] h0 [] (fun v h => ∃ t ca, v = some (.ref t) ∧ h0.size ≤ t ∧ Ary Z h t ca .byte (List.replicate (2 * N) (.int 0))) := by
  refine enter (plainFor_of_name own_pn_java_lang_StringUTF16) (fun m => own_ef_own_d22 m (Int32.ofNat N)) O (fun _ q => nomatch q) ?_
  intro p e s m below meth c T w
  refine i_iloadN w own_d22_0 rfl (pc' := 1) rfl ?_
  refine c_static w (y := (⟨"java/lang/StringUTF16", "newBytesLength", "(I)I"⟩ : MethodName)) (argsL := [(.int (Int32.ofNat N))]) (st := []) own_d22_1 (hw _ (List.mem_of_getElem? (i := 97) rfl)) (hw _ (List.mem_of_getElem? (i := 98) rfl)) (hw _ (List.mem_of_getElem? (i := 19) rfl)) (hw _ (List.mem_of_getElem? (i := 99) rfl)) (by decide) own_pd_pIqI rfl (own_nbLen l Z a0 hw N h0 n0 w.old (by omega)) rfl (by decide) (W := 0) (Nat.le_of_eq rfl) (by decide) (by decide) (by decide) (fun _ q => nomatch q) (pc' := 4) rfl ?_
  intro v16 T16 h16 w16 K16 q16
  obtain ⟨rfl, rfl⟩ := q16
  show Goes p e below _ T16 (mkF m 4 #[.val (.int (Int32.ofNat N))] [(.int (Int32.ofNat (2 * N)))])
  refine i_newP w16 own_d22_4 (hw _ (List.mem_of_getElem? (i := 21) rfl)) (N := (2 * N)) rfl (by omega) (cap := 32) (by omega) (by decide) (by decide) (by decide) (pc' := 6) rfl ?_
  intro d T17 h17 ca_d g_d w17 z_d E17 A_d
  show Goes p e below _ T17 (mkF m 6 #[.val (.int (Int32.ofNat N))] [(.ref d)])
  exact i_retA w17 own_d22_6 rfl rfl rfl ⟨d, ca_d, rfl, z_d, A_d⟩ (by decide) (by decide)
theorem own_d24_0 : decode jdk_52_method_4_code 0 = .ok (.getstatic 44, 3) := by decide +kernel
theorem own_d24_3 : decode jdk_52_method_4_code 3 = .ok (.ifCond .ne 25, 3) := by decide +kernel
theorem own_d24_6 : decode jdk_52_method_4_code 6 = .ok (.iload_n 1, 1) := by decide +kernel
theorem own_d24_7 : decode jdk_52_method_4_code 7 = .ok (.ifCond .lt 11, 3) := by decide +kernel
theorem own_d24_10 : decode jdk_52_method_4_code 10 = .ok (.iload_n 1, 1) := by decide +kernel
theorem own_d24_11 : decode jdk_52_method_4_code 11 = .ok (.aload_n 0, 1) := by decide +kernel
theorem own_d24_12 : decode jdk_52_method_4_code 12 = .ok (.invokestatic 48, 3) := by decide +kernel
theorem own_d24_15 : decode jdk_52_method_4_code 15 = .ok (.if_icmp .lt 13, 3) := by decide +kernel
theorem own_d24_18 : decode jdk_52_method_4_code 18 = .ok (.new 52, 3) := by decide +kernel
theorem own_d24_21 : decode jdk_52_method_4_code 21 = .ok (.dup, 1) := by decide +kernel
theorem own_d24_22 : decode jdk_52_method_4_code 22 = .ok (.ldc 54, 2) := by decide +kernel
theorem own_d24_24 : decode jdk_52_method_4_code 24 = .ok (.invokespecial 56, 3) := by decide +kernel
theorem own_d24_27 : decode jdk_52_method_4_code 27 = .ok (.athrow, 1) := by decide +kernel
theorem own_d24_28 : decode jdk_52_method_4_code 28 = .ok (.iload_n 1, 1) := by decide +kernel
theorem own_d24_29 : decode jdk_52_method_4_code 29 = .ok (.iconst 1, 1) := by decide +kernel
theorem own_d24_30 : decode jdk_52_method_4_code 30 = .ok (.ishl, 1) := by decide +kernel
theorem own_d24_31 : decode jdk_52_method_4_code 31 = .ok (.istore_n 1, 1) := by decide +kernel
theorem own_d24_32 : decode jdk_52_method_4_code 32 = .ok (.aload_n 0, 1) := by decide +kernel
theorem own_d24_33 : decode jdk_52_method_4_code 33 = .ok (.iload_n 1, 1) := by decide +kernel
theorem own_d24_34 : decode jdk_52_method_4_code 34 = .ok (.iinc 1 1, 3) := by decide +kernel
theorem own_d24_37 : decode jdk_52_method_4_code 37 = .ok (.iload_n 2, 1) := by decide +kernel
theorem own_d24_38 : decode jdk_52_method_4_code 38 = .ok (.getstatic 59, 3) := by decide +kernel
theorem own_d24_41 : decode jdk_52_method_4_code 41 = .ok (.ishr, 1) := by decide +kernel
theorem own_d24_42 : decode jdk_52_method_4_code 42 = .ok (.i2b, 1) := by decide +kernel
theorem own_d24_43 : decode jdk_52_method_4_code 43 = .ok (.bastore, 1) := by decide +kernel
theorem own_d24_44 : decode jdk_52_method_4_code 44 = .ok (.aload_n 0, 1) := by decide +kernel
theorem own_d24_45 : decode jdk_52_method_4_code 45 = .ok (.iload_n 1, 1) := by decide +kernel
theorem own_d24_46 : decode jdk_52_method_4_code 46 = .ok (.iload_n 2, 1) := by decide +kernel
theorem own_d24_47 : decode jdk_52_method_4_code 47 = .ok (.getstatic 63, 3) := by decide +kernel
theorem own_d24_50 : decode jdk_52_method_4_code 50 = .ok (.ishr, 1) := by decide +kernel
theorem own_d24_51 : decode jdk_52_method_4_code 51 = .ok (.i2b, 1) := by decide +kernel
theorem own_d24_52 : decode jdk_52_method_4_code 52 = .ok (.bastore, 1) := by decide +kernel
theorem own_d24_53 : decode jdk_52_method_4_code 53 = .ok (.return_, 1) := by decide +kernel
theorem own_pd_pABIIqV : parseMethodDescriptor "([BII)V" = some ⟨[(.array .byte), .int, .int], none⟩ := by decide +kernel
theorem own_ef_own_d24 (m : MethodId) (x0 : Addr) (x1 : Int32) (x2 : Int32) : entryFrame m #[(.ref x0), (.int x1), (.int x2)] 3 = mkF m 0 #[.val (.ref x0), .val (.int x1), .val (.int x2)] [] := by
  first | (simp [entryFrame, mkF, argsToLocals, Value.category]; done) | rfl
set_option maxRecDepth 65536 in
set_option maxHeartbeats 40000000 in
theorem own_putChar (l : Launch) (Z : State) (a0 : Array Value) (hw : ∀ d ∈ tables_1, d.before a0 Z = true) (d : Addr) (cd : ClassId) (bs : List Value) (i k : Nat) (SA : Sta Z Z.heap "java/lang/StringUTF16" "$assertionsDisabled" "Z" (.int 1)) (SHi : Sta Z Z.heap "java/lang/StringUTF16" "HI_BYTE_SHIFT" "I" (.int 0)) (SLo : Sta Z Z.heap "java/lang/StringUTF16" "LO_BYTE_SHIFT" "I" (.int 8)) (h0 : Heap) (n0 : Nat) (O : Old Z n0 h0) (hd : n0 ≤ d) (hk : k < 65536) (hi : 2 * i + 1 < bs.length) (Ad : Ary Z h0 d cd .byte bs) :
    Ctr l Z n0 (⟨"java/lang/StringUTF16", "putChar", "([BII)V"⟩ : MethodName) jdk_52_method_4_code 3 none [] ({ frames := 0, cells := 0, slots := 0, locals := 0 } : Room) #[(.ref d), (.int (Int32.ofNat i)), (.int (Int32.ofNat k))] h0 [d] (fun v h => v = none ∧ Ary Z h d cd .byte ((bs.set (2 * i) (.int (bv k))).set (2 * i + 1) (.int (bv (k / 256))))) := by
  refine enter (plainFor_of_name own_pn_java_lang_StringUTF16) (fun m => own_ef_own_d24 m d (Int32.ofNat i) (Int32.ofNat k)) O (allS hd all0) ?_
  intro p e s m below meth c T w
  refine i_getS w own_d24_0 (hw _ (List.mem_of_getElem? (i := 104) rfl)) SA (pc' := 3) rfl ?_
  intro T19 w19
  refine i_if_ne_Y w19 (by decide) own_d24_3 (pc' := 28) (by decide) ?_
  refine i_iloadN w19 own_d24_28 rfl (pc' := 29) rfl ?_
  refine i_iconst w19 own_d24_29 (z := (1 : Int32)) (by decide) (pc' := 30) rfl ?_
  refine i_ishl w19 own_d24_30 (pc' := 31) rfl ?_
  rw [shl1]
  show Goes p e below _ T19 (mkF m 31 #[.val (.ref d), .val (.int (Int32.ofNat i)), .val (.int (Int32.ofNat k))] [(.int (Int32.ofNat (2 * i)))])
  refine i_istoreN w19 own_d24_31 (l' := #[.val (.ref d), .val (.int (Int32.ofNat (2 * i))), .val (.int (Int32.ofNat k))]) rfl (pc' := 32) rfl ?_
  refine i_aloadN w19 own_d24_32 rfl rfl (pc' := 33) rfl ?_
  refine i_iloadN w19 own_d24_33 rfl (pc' := 34) rfl ?_
  refine i_iinc w19 own_d24_34 rfl (z := (Int32.ofNat (2 * i + 1))) (inc_nat (2 * i)) (l' := #[.val (.ref d), .val (.int (Int32.ofNat (2 * i + 1))), .val (.int (Int32.ofNat k))]) rfl (pc' := 37) rfl ?_
  refine i_iloadN w19 own_d24_37 rfl (pc' := 38) rfl ?_
  refine i_getS w19 own_d24_38 (hw _ (List.mem_of_getElem? (i := 105) rfl)) SHi (pc' := 41) rfl ?_
  intro T20 w20
  refine i_ishr w20 own_d24_41 (pc' := 42) rfl ?_
  refine i_i2b w20 own_d24_42 (pc' := 43) rfl ?_
  refine i_bastore w20 own_d24_43 Ad (i := (2 * i)) rfl (by omega) (Or.inl (List.mem_singleton.mpr rfl)) (pc' := 44) rfl ?_
  intro T21 h21 w21 K21 A1
  show Goes p e below _ T21 (mkF m 44 #[.val (.ref d), .val (.int (Int32.ofNat (2 * i + 1))), .val (.int (Int32.ofNat k))] [])
  rw [byte_idem, shr_zero] at A1
  refine i_aloadN w21 own_d24_44 rfl rfl (pc' := 45) rfl ?_
  refine i_iloadN w21 own_d24_45 rfl (pc' := 46) rfl ?_
  refine i_iloadN w21 own_d24_46 rfl (pc' := 47) rfl ?_
  refine i_getS w21 own_d24_47 (hw _ (List.mem_of_getElem? (i := 106) rfl)) SLo (pc' := 50) rfl ?_
  intro T23 w23
  refine i_ishr w23 own_d24_50 (pc' := 51) rfl ?_
  refine i_i2b w23 own_d24_51 (pc' := 52) rfl ?_
  refine i_bastore w23 own_d24_52 A1 (i := (2 * i + 1)) rfl (by simp; omega) (Or.inl (List.mem_singleton.mpr rfl)) (pc' := 53) rfl ?_
  intro T24 h24 w24 K24 A2
  show Goes p e below _ T24 (mkF m 53 #[.val (.ref d), .val (.int (Int32.ofNat (2 * i + 1))), .val (.int (Int32.ofNat k))] [])
  rw [byte_idem, bv_hi hk] at A2
  exact i_ret0 w24 own_d24_53 rfl ⟨rfl, A2⟩ (by decide) (by decide)
theorem own_d21_0 : decode jdk_52_method_14_code 0 = .ok (.iload_n 2, 1) := by decide +kernel
theorem own_d21_1 : decode jdk_52_method_14_code 1 = .ok (.invokestatic 107, 3) := by decide +kernel
theorem own_d21_4 : decode jdk_52_method_14_code 4 = .ok (.astore_n 3, 1) := by decide +kernel
theorem own_d21_5 : decode jdk_52_method_14_code 5 = .ok (.iconst 0, 1) := by decide +kernel
theorem own_d21_6 : decode jdk_52_method_14_code 6 = .ok (.istore 4, 2) := by decide +kernel
theorem own_d21_8 : decode jdk_52_method_14_code 8 = .ok (.iload 4, 2) := by decide +kernel
theorem own_d21_10 : decode jdk_52_method_14_code 10 = .ok (.iload_n 2, 1) := by decide +kernel
theorem own_d21_11 : decode jdk_52_method_14_code 11 = .ok (.if_icmp .ge 21, 3) := by decide +kernel
theorem own_d21_14 : decode jdk_52_method_14_code 14 = .ok (.aload_n 3, 1) := by decide +kernel
theorem own_d21_15 : decode jdk_52_method_14_code 15 = .ok (.iload 4, 2) := by decide +kernel
theorem own_d21_17 : decode jdk_52_method_14_code 17 = .ok (.aload_n 0, 1) := by decide +kernel
theorem own_d21_18 : decode jdk_52_method_14_code 18 = .ok (.iload_n 1, 1) := by decide +kernel
theorem own_d21_19 : decode jdk_52_method_14_code 19 = .ok (.caload, 1) := by decide +kernel
theorem own_d21_20 : decode jdk_52_method_14_code 20 = .ok (.invokestatic 111, 3) := by decide +kernel
theorem own_d21_23 : decode jdk_52_method_14_code 23 = .ok (.iinc 1 1, 3) := by decide +kernel
theorem own_d21_26 : decode jdk_52_method_14_code 26 = .ok (.iinc 4 1, 3) := by decide +kernel
theorem own_d21_29 : decode jdk_52_method_14_code 29 = .ok (.goto (-21), 3) := by decide +kernel
theorem own_d21_32 : decode jdk_52_method_14_code 32 = .ok (.aload_n 3, 1) := by decide +kernel
theorem own_d21_33 : decode jdk_52_method_14_code 33 = .ok (.areturn, 1) := by decide +kernel
set_option maxRecDepth 65536 in
set_option maxHeartbeats 40000000 in
theorem own_toB_loop (l : Launch) (Z : State) (a0 : Array Value) (hw : ∀ d ∈ tables_1, d.before a0 Z = true) (b d : Addr) (cb cd : ClassId) (cs : List Nat) (SA : Sta Z Z.heap "java/lang/StringUTF16" "$assertionsDisabled" "Z" (.int 1)) (SHi : Sta Z Z.heap "java/lang/StringUTF16" "HI_BYTE_SHIFT" "I" (.int 0)) (SLo : Sta Z Z.heap "java/lang/StringUTF16" "LO_BYTE_SHIFT" "I" (.int 8)) (hcs : ∀ c ∈ cs, c < 65536) (hn : cs.length ≤ 65536) (hbd : b ≠ d) (h0 : Heap) (n0 : Nat) (zd : h0.size ≤ d) {p : Program} {e : Env} {s : State} {m : MethodId} {args : Array Value} {below : List Frame} {meth : Method} {c : Code} :
    ∀ (j i : Nat) (T : State) (h : Heap) (bs : List Value), i + j = cs.length → Wk p l e ({ frames := 2, cells := 1, slots := 32, locals := 24 } : Room) s m args below meth c Z "java/lang/StringUTF16" jdk_52_method_14_code 5 (some (.array .byte)) "toBytes" n0 h0 [] T h 1 32 → Ary Z h b cb .char (chs cs) → Ary Z h d cd .byte bs → bs.length = 2 * cs.length → bs.take (2 * i) = wid (cs.take i) →
      Goes p e below (PN s n0 h0 [] (fun v h => ∃ t ca, v = some (.ref t) ∧ h0.size ≤ t ∧ Ary Z h t ca .byte (wid cs)) 1 32) T (mkF m 8 #[.val (.ref b), .val (.int (Int32.ofNat i)), .val (.int (Int32.ofNat cs.length)), .val (.ref d), .val (.int (Int32.ofNat i))] []) := by
  intro j
  induction j with
  | zero =>
    intro i T h bs hij w Ab Ad hbl ht
    refine i_iload w own_d21_8 rfl (pc' := 10) rfl ?_
    refine i_iloadN w own_d21_10 rfl (pc' := 11) rfl ?_
    refine i_icmp_ge_Y w (by rw [show i = cs.length by omega]; exact Int32.lt_irrefl) own_d21_11 (pc' := 32) (by decide) ?_
    refine i_aloadN w own_d21_32 rfl rfl (pc' := 33) rfl ?_
    exact i_retA w own_d21_33 rfl rfl rfl ⟨d, cd, rfl, zd, by rw [show bs = wid cs by rw [show i = cs.length by omega, List.take_length, ← hbl, List.take_length] at ht; exact ht] at Ad; exact Ad⟩ (by decide) (by decide)
  | succ j ih =>
    intro i T h bs hij w Ab Ad hbl ht
    obtain ⟨ci, hci⟩ : ∃ ci, cs[i]? = some ci := ⟨_, List.getElem?_eq_getElem (by omega)⟩
    have hcb : ci < 65536 := hcs ci (List.mem_of_getElem? hci)
    refine i_iload w own_d21_8 rfl (pc' := 10) rfl ?_
    refine i_iloadN w own_d21_10 rfl (pc' := 11) rfl ?_
    refine i_icmp_ge_N w ((lt_nat (by omega) (by omega)).mpr (by omega)) own_d21_11 (pc' := 14) rfl ?_
    refine i_aloadN w own_d21_14 rfl rfl (pc' := 15) rfl ?_
    refine i_iload w own_d21_15 rfl (pc' := 17) rfl ?_
    refine i_aloadN w own_d21_17 rfl rfl (pc' := 18) rfl ?_
    refine i_iloadN w own_d21_18 rfl (pc' := 19) rfl ?_
    refine i_caload w own_d21_19 Ab rfl (chs_at hci) (pc' := 20) rfl ?_
    refine c_static w (y := (⟨"java/lang/StringUTF16", "putChar", "([BII)V"⟩ : MethodName)) (argsL := [(.ref d), (.int (Int32.ofNat i)), (.int (Int32.ofNat ci))]) (st := []) own_d21_20 (hw _ (List.mem_of_getElem? (i := 101) rfl)) (hw _ (List.mem_of_getElem? (i := 102) rfl)) (hw _ (List.mem_of_getElem? (i := 19) rfl)) (hw _ (List.mem_of_getElem? (i := 103) rfl)) (by decide) own_pd_pABIIqV rfl (own_putChar l Z a0 hw d cd bs i ci SA SHi SLo h n0 w.old (Nat.le_trans w.n0h0 zd) hcb (by omega) Ad) rfl (by decide) (W := 0) (Nat.le_of_eq rfl) (by decide) (by decide) (by decide) (allS (Or.inr zd) all0) (pc' := 23) rfl ?_
    intro v26 T26 h26 w26 K26 q26
    obtain ⟨rfl, A1⟩ := q26
    show Goes p e below _ T26 (mkF m 23 #[.val (.ref b), .val (.int (Int32.ofNat i)), .val (.int (Int32.ofNat cs.length)), .val (.ref d), .val (.int (Int32.ofNat i))] [])
    refine i_iinc w26 own_d21_23 rfl (z := (Int32.ofNat (i + 1))) (inc_nat i) (l' := #[.val (.ref b), .val (.int (Int32.ofNat (i + 1))), .val (.int (Int32.ofNat cs.length)), .val (.ref d), .val (.int (Int32.ofNat i))]) rfl (pc' := 26) rfl ?_
    refine i_iinc w26 own_d21_26 rfl (z := (Int32.ofNat (i + 1))) (inc_nat i) (l' := #[.val (.ref b), .val (.int (Int32.ofNat (i + 1))), .val (.int (Int32.ofNat cs.length)), .val (.ref d), .val (.int (Int32.ofNat (i + 1)))]) rfl (pc' := 29) rfl ?_
    refine i_goto w26 own_d21_29 (pc' := 8) (by decide) ?_
    exact ih (i + 1) T26 h26 _ (by omega) (w26.mono (by decide) (by decide)) (Ab.keep K26 (ninS hbd nin0)) A1 (by simpa using hbl) (wid_step hbl hci ht)
theorem own_pd_pACIIqAB : parseMethodDescriptor "([CII)[B" = some ⟨[(.array .char), .int, .int], some (.array .byte)⟩ := by decide +kernel
theorem own_ef_own_d21 (m : MethodId) (x0 : Addr) (x1 : Int32) (x2 : Int32) : entryFrame m #[(.ref x0), (.int x1), (.int x2)] 5 = mkF m 0 #[.val (.ref x0), .val (.int x1), .val (.int x2), .unset, .unset] [] := by
  first | (simp [entryFrame, mkF, argsToLocals, Value.category]; done) | rfl
set_option maxRecDepth 65536 in
set_option maxHeartbeats 40000000 in
theorem own_toB (l : Launch) (Z : State) (a0 : Array Value) (hw : ∀ d ∈ tables_1, d.before a0 Z = true) (b : Addr) (cb : ClassId) (cs : List Nat) (SA : Sta Z Z.heap "java/lang/StringUTF16" "$assertionsDisabled" "Z" (.int 1)) (SHi : Sta Z Z.heap "java/lang/StringUTF16" "HI_BYTE_SHIFT" "I" (.int 0)) (SLo : Sta Z Z.heap "java/lang/StringUTF16" "LO_BYTE_SHIFT" "I" (.int 8)) (h0 : Heap) (n0 : Nat) (O : Old Z n0 h0) (hcs : ∀ c ∈ cs, c < 65536) (hn : cs.length ≤ 16) (Ab : Ary Z h0 b cb .char (chs cs)) :
    Ctr l Z n0 (⟨"java/lang/StringUTF16", "toBytes", "([CII)[B"⟩ : MethodName) jdk_52_method_14_code 5 (some (.array .byte)) [] ({ frames := 2, cells := 1, slots := 32, locals := 24 } : Room) #[(.ref b), (.int (0 : Int32)), (.int (Int32.ofNat cs.length))] h0 [] (fun v h => ∃ t ca, v = some (.ref t) ∧ h0.size ≤ t ∧ Ary Z h t ca .byte (wid cs)) := by
  refine enter (plainFor_of_name own_pn_java_lang_StringUTF16) (fun m => own_ef_own_d21 m b (0 : Int32) (Int32.ofNat cs.length)) O (fun _ q => nomatch q) ?_
  intro p e s m below meth c T w
  refine i_iloadN w own_d21_0 rfl (pc' := 1) rfl ?_
  refine c_static w (y := (⟨"java/lang/StringUTF16", "newBytesFor", "(I)[B"⟩ : MethodName)) (argsL := [(.int (Int32.ofNat cs.length))]) (st := []) own_d21_1 (hw _ (List.mem_of_getElem? (i := 94) rfl)) (hw _ (List.mem_of_getElem? (i := 95) rfl)) (hw _ (List.mem_of_getElem? (i := 19) rfl)) (hw _ (List.mem_of_getElem? (i := 96) rfl)) (by decide) own_pd_pIqAB rfl (own_nbFor l Z a0 hw cs.length h0 n0 w.old (by omega)) rfl (by decide) (W := 0) (Nat.le_of_eq rfl) (by decide) (by decide) (by decide) (fun _ q => nomatch q) (pc' := 4) rfl ?_
  intro v28 T28 h28 w28 K28 q28
  obtain ⟨d, cd, rfl, zd, Ad⟩ := q28
  show Goes p e below _ T28 (mkF m 4 #[.val (.ref b), .val (.int (0 : Int32)), .val (.int (Int32.ofNat cs.length)), .unset, .unset] [(.ref d)])
  have Ab1 := Ab.keep K28 nin0
  refine i_astoreN w28 own_d21_4 rfl (l' := #[.val (.ref b), .val (.int (0 : Int32)), .val (.int (Int32.ofNat cs.length)), .val (.ref d), .unset]) rfl (pc' := 5) rfl ?_
  refine i_iconst w28 own_d21_5 (z := (0 : Int32)) (by decide) (pc' := 6) rfl ?_
  refine i_istore w28 own_d21_6 (l' := #[.val (.ref b), .val (.int (0 : Int32)), .val (.int (Int32.ofNat cs.length)), .val (.ref d), .val (.int (0 : Int32))]) rfl (pc' := 8) rfl ?_
  exact own_toB_loop l Z a0 hw b d cb cd cs SA SHi SLo hcs (by omega) (Nat.ne_of_lt (Nat.lt_of_lt_of_le Ab.lt zd)) h0 n0 zd cs.length 0 T28 h28 _ (by omega) (w28.mono (by decide) (by decide)) Ab1 Ad (by simp) rfl
theorem own_d25_0 : decode jdk_52_method_5_code 0 = .ok (.getstatic 44, 3) := by decide +kernel
theorem own_d25_3 : decode jdk_52_method_5_code 3 = .ok (.ifCond .ne 25, 3) := by decide +kernel
theorem own_d25_6 : decode jdk_52_method_5_code 6 = .ok (.iload_n 1, 1) := by decide +kernel
theorem own_d25_7 : decode jdk_52_method_5_code 7 = .ok (.ifCond .lt 11, 3) := by decide +kernel
theorem own_d25_10 : decode jdk_52_method_5_code 10 = .ok (.iload_n 1, 1) := by decide +kernel
theorem own_d25_11 : decode jdk_52_method_5_code 11 = .ok (.aload_n 0, 1) := by decide +kernel
theorem own_d25_12 : decode jdk_52_method_5_code 12 = .ok (.invokestatic 48, 3) := by decide +kernel
theorem own_d25_15 : decode jdk_52_method_5_code 15 = .ok (.if_icmp .lt 13, 3) := by decide +kernel
theorem own_d25_18 : decode jdk_52_method_5_code 18 = .ok (.new 52, 3) := by decide +kernel
theorem own_d25_21 : decode jdk_52_method_5_code 21 = .ok (.dup, 1) := by decide +kernel
theorem own_d25_22 : decode jdk_52_method_5_code 22 = .ok (.ldc 54, 2) := by decide +kernel
theorem own_d25_24 : decode jdk_52_method_5_code 24 = .ok (.invokespecial 56, 3) := by decide +kernel
theorem own_d25_27 : decode jdk_52_method_5_code 27 = .ok (.athrow, 1) := by decide +kernel
theorem own_d25_28 : decode jdk_52_method_5_code 28 = .ok (.iload_n 1, 1) := by decide +kernel
theorem own_d25_29 : decode jdk_52_method_5_code 29 = .ok (.iconst 1, 1) := by decide +kernel
theorem own_d25_30 : decode jdk_52_method_5_code 30 = .ok (.ishl, 1) := by decide +kernel
theorem own_d25_31 : decode jdk_52_method_5_code 31 = .ok (.istore_n 1, 1) := by decide +kernel
theorem own_d25_32 : decode jdk_52_method_5_code 32 = .ok (.aload_n 0, 1) := by decide +kernel
theorem own_d25_33 : decode jdk_52_method_5_code 33 = .ok (.iload_n 1, 1) := by decide +kernel
theorem own_d25_34 : decode jdk_52_method_5_code 34 = .ok (.iinc 1 1, 3) := by decide +kernel
theorem own_d25_37 : decode jdk_52_method_5_code 37 = .ok (.baload, 1) := by decide +kernel
theorem own_d25_38 : decode jdk_52_method_5_code 38 = .ok (.sipush 255, 3) := by decide +kernel
theorem own_d25_41 : decode jdk_52_method_5_code 41 = .ok (.iand, 1) := by decide +kernel
theorem own_d25_42 : decode jdk_52_method_5_code 42 = .ok (.getstatic 59, 3) := by decide +kernel
theorem own_d25_45 : decode jdk_52_method_5_code 45 = .ok (.ishl, 1) := by decide +kernel
theorem own_d25_46 : decode jdk_52_method_5_code 46 = .ok (.aload_n 0, 1) := by decide +kernel
theorem own_d25_47 : decode jdk_52_method_5_code 47 = .ok (.iload_n 1, 1) := by decide +kernel
theorem own_d25_48 : decode jdk_52_method_5_code 48 = .ok (.baload, 1) := by decide +kernel
theorem own_d25_49 : decode jdk_52_method_5_code 49 = .ok (.sipush 255, 3) := by decide +kernel
theorem own_d25_52 : decode jdk_52_method_5_code 52 = .ok (.iand, 1) := by decide +kernel
theorem own_d25_53 : decode jdk_52_method_5_code 53 = .ok (.getstatic 63, 3) := by decide +kernel
theorem own_d25_56 : decode jdk_52_method_5_code 56 = .ok (.ishl, 1) := by decide +kernel
theorem own_d25_57 : decode jdk_52_method_5_code 57 = .ok (.ior, 1) := by decide +kernel
theorem own_d25_58 : decode jdk_52_method_5_code 58 = .ok (.i2c, 1) := by decide +kernel
theorem own_d25_59 : decode jdk_52_method_5_code 59 = .ok (.ireturn, 1) := by decide +kernel
theorem own_pd_pABIqC : parseMethodDescriptor "([BI)C" = some ⟨[(.array .byte), .int], some .char⟩ := by decide +kernel
theorem own_ef_own_d25 (m : MethodId) (x0 : Addr) (x1 : Int32) : entryFrame m #[(.ref x0), (.int x1)] 2 = mkF m 0 #[.val (.ref x0), .val (.int x1)] [] := by
  first | (simp [entryFrame, mkF, argsToLocals, Value.category]; done) | rfl
set_option maxRecDepth 65536 in
set_option maxHeartbeats 40000000 in
theorem own_getChar (l : Launch) (Z : State) (a0 : Array Value) (hw : ∀ d ∈ tables_1, d.before a0 Z = true) (t : Addr) (ca : ClassId) (cs : List Nat) (i k : Nat) (SA : Sta Z Z.heap "java/lang/StringUTF16" "$assertionsDisabled" "Z" (.int 1)) (SHi : Sta Z Z.heap "java/lang/StringUTF16" "HI_BYTE_SHIFT" "I" (.int 0)) (SLo : Sta Z Z.heap "java/lang/StringUTF16" "LO_BYTE_SHIFT" "I" (.int 8)) (h0 : Heap) (n0 : Nat) (O : Old Z n0 h0) (At : Ary Z h0 t ca .byte (wid cs)) (hci : cs[i]? = some k) (hk : k < 65536) :
    Ctr l Z n0 (⟨"java/lang/StringUTF16", "getChar", "([BI)C"⟩ : MethodName) jdk_52_method_5_code 2 (some .char) [] ({ frames := 0, cells := 0, slots := 0, locals := 0 } : Room) #[(.ref t), (.int (Int32.ofNat i))] h0 [] (fun v h => v = some (.int (Int32.ofNat k)) ∧ h0 = h) := by
  refine enter (plainFor_of_name own_pn_java_lang_StringUTF16) (fun m => own_ef_own_d25 m t (Int32.ofNat i)) O (fun _ q => nomatch q) ?_
  intro p e s m below meth c T w
  refine i_getS w own_d25_0 (hw _ (List.mem_of_getElem? (i := 104) rfl)) SA (pc' := 3) rfl ?_
  intro T30 w30
  refine i_if_ne_Y w30 (by decide) own_d25_3 (pc' := 28) (by decide) ?_
  refine i_iloadN w30 own_d25_28 rfl (pc' := 29) rfl ?_
  refine i_iconst w30 own_d25_29 (z := (1 : Int32)) (by decide) (pc' := 30) rfl ?_
  refine i_ishl w30 own_d25_30 (pc' := 31) rfl ?_
  rw [shl1]
  show Goes p e below _ T30 (mkF m 31 #[.val (.ref t), .val (.int (Int32.ofNat i))] [(.int (Int32.ofNat (2 * i)))])
  refine i_istoreN w30 own_d25_31 (l' := #[.val (.ref t), .val (.int (Int32.ofNat (2 * i)))]) rfl (pc' := 32) rfl ?_
  refine i_aloadN w30 own_d25_32 rfl rfl (pc' := 33) rfl ?_
  refine i_iloadN w30 own_d25_33 rfl (pc' := 34) rfl ?_
  refine i_iinc w30 own_d25_34 rfl (z := (Int32.ofNat (2 * i + 1))) (inc_nat (2 * i)) (l' := #[.val (.ref t), .val (.int (Int32.ofNat (2 * i + 1)))]) rfl (pc' := 37) rfl ?_
  refine i_baload w30 own_d25_37 At rfl (wid_lo hci) (pc' := 38) rfl ?_
  refine i_sipush w30 own_d25_38 (z := (255 : Int32)) (by decide) (pc' := 41) rfl ?_
  refine i_iand w30 own_d25_41 (pc' := 42) rfl ?_
  refine i_getS w30 own_d25_42 (hw _ (List.mem_of_getElem? (i := 105) rfl)) SHi (pc' := 45) rfl ?_
  intro T31 w31
  refine i_ishl w31 own_d25_45 (pc' := 46) rfl ?_
  refine i_aloadN w31 own_d25_46 rfl rfl (pc' := 47) rfl ?_
  refine i_iloadN w31 own_d25_47 rfl (pc' := 48) rfl ?_
  refine i_baload w31 own_d25_48 At rfl (wid_hi hci) (pc' := 49) rfl ?_
  refine i_sipush w31 own_d25_49 (z := (255 : Int32)) (by decide) (pc' := 52) rfl ?_
  refine i_iand w31 own_d25_52 (pc' := 53) rfl ?_
  refine i_getS w31 own_d25_53 (hw _ (List.mem_of_getElem? (i := 106) rfl)) SLo (pc' := 56) rfl ?_
  intro T32 w32
  refine i_ishl w32 own_d25_56 (pc' := 57) rfl ?_
  refine i_ior w32 own_d25_57 (pc' := 58) rfl ?_
  refine i_i2c w32 own_d25_58 (pc' := 59) rfl ?_
  exact i_retN w32 own_d25_59 rfl (by simp) ⟨by rw [char_idem, pair_char hk], rfl⟩ (by decide) (by decide)
theorem own_d4_0 : decode jdk_52_method_16_code 0 = .ok (.iload_n 2, 1) := by decide +kernel
theorem own_d4_1 : decode jdk_52_method_16_code 1 = .ok (.newarray .byte, 2) := by decide +kernel
theorem own_d4_3 : decode jdk_52_method_16_code 3 = .ok (.astore_n 3, 1) := by decide +kernel
theorem own_d4_4 : decode jdk_52_method_16_code 4 = .ok (.aload_n 0, 1) := by decide +kernel
theorem own_d4_5 : decode jdk_52_method_16_code 5 = .ok (.iload_n 1, 1) := by decide +kernel
theorem own_d4_6 : decode jdk_52_method_16_code 6 = .ok (.aload_n 3, 1) := by decide +kernel
theorem own_d4_7 : decode jdk_52_method_16_code 7 = .ok (.iconst 0, 1) := by decide +kernel
theorem own_d4_8 : decode jdk_52_method_16_code 8 = .ok (.iload_n 2, 1) := by decide +kernel
theorem own_d4_9 : decode jdk_52_method_16_code 9 = .ok (.invokestatic 115, 3) := by decide +kernel
theorem own_d4_12 : decode jdk_52_method_16_code 12 = .ok (.istore 4, 2) := by decide +kernel
theorem own_d4_14 : decode jdk_52_method_16_code 14 = .ok (.iload 4, 2) := by decide +kernel
theorem own_d4_16 : decode jdk_52_method_16_code 16 = .ok (.iload_n 2, 1) := by decide +kernel
theorem own_d4_17 : decode jdk_52_method_16_code 17 = .ok (.if_icmp .eq 40, 3) := by decide +kernel
theorem own_d4_20 : decode jdk_52_method_16_code 20 = .ok (.aload_n 0, 1) := by decide +kernel
theorem own_d4_21 : decode jdk_52_method_16_code 21 = .ok (.iload_n 1, 1) := by decide +kernel
theorem own_d4_22 : decode jdk_52_method_16_code 22 = .ok (.iload_n 2, 1) := by decide +kernel
theorem own_d4_23 : decode jdk_52_method_16_code 23 = .ok (.invokestatic 119, 3) := by decide +kernel
theorem own_d4_26 : decode jdk_52_method_16_code 26 = .ok (.astore 5, 2) := by decide +kernel
theorem own_d4_28 : decode jdk_52_method_16_code 28 = .ok (.aload 5, 2) := by decide +kernel
theorem own_d4_30 : decode jdk_52_method_16_code 30 = .ok (.iload 4, 2) := by decide +kernel
theorem own_d4_32 : decode jdk_52_method_16_code 32 = .ok (.invokestatic 71, 3) := by decide +kernel
theorem own_d4_35 : decode jdk_52_method_16_code 35 = .ok (.sipush 255, 3) := by decide +kernel
theorem own_d4_38 : decode jdk_52_method_16_code 38 = .ok (.if_icmp .gt 16, 3) := by decide +kernel
theorem own_d4_41 : decode jdk_52_method_16_code 41 = .ok (.aload 5, 2) := by decide +kernel
theorem own_d4_43 : decode jdk_52_method_16_code 43 = .ok (.iconst 0, 1) := by decide +kernel
theorem own_d4_44 : decode jdk_52_method_16_code 44 = .ok (.aload_n 3, 1) := by decide +kernel
theorem own_d4_45 : decode jdk_52_method_16_code 45 = .ok (.iconst 0, 1) := by decide +kernel
theorem own_d4_46 : decode jdk_52_method_16_code 46 = .ok (.iload_n 2, 1) := by decide +kernel
theorem own_d4_47 : decode jdk_52_method_16_code 47 = .ok (.invokestatic 123, 3) := by decide +kernel
theorem own_d4_50 : decode jdk_52_method_16_code 50 = .ok (.iload_n 2, 1) := by decide +kernel
theorem own_d4_51 : decode jdk_52_method_16_code 51 = .ok (.if_icmp .eq 6, 3) := by decide +kernel
theorem own_d4_54 : decode jdk_52_method_16_code 54 = .ok (.aload 5, 2) := by decide +kernel
theorem own_d4_56 : decode jdk_52_method_16_code 56 = .ok (.areturn, 1) := by decide +kernel
theorem own_d4_57 : decode jdk_52_method_16_code 57 = .ok (.aload_n 3, 1) := by decide +kernel
theorem own_d4_58 : decode jdk_52_method_16_code 58 = .ok (.areturn, 1) := by decide +kernel
theorem own_ef_own_d4 (m : MethodId) (x0 : Addr) (x1 : Int32) (x2 : Int32) : entryFrame m #[(.ref x0), (.int x1), (.int x2)] 6 = mkF m 0 #[.val (.ref x0), .val (.int x1), .val (.int x2), .unset, .unset, .unset] [] := by
  first | (simp [entryFrame, mkF, argsToLocals, Value.category]; done) | rfl
set_option maxRecDepth 65536 in
set_option maxHeartbeats 40000000 in
theorem own_cmp3 (l : Launch) (Z : State) (a0 : Array Value) (hw : ∀ d ∈ tables_1, d.before a0 Z = true) (b : Addr) (cb : ClassId) (cs : List Nat) (SA : Sta Z Z.heap "java/lang/StringUTF16" "$assertionsDisabled" "Z" (.int 1)) (SHi : Sta Z Z.heap "java/lang/StringUTF16" "HI_BYTE_SHIFT" "I" (.int 0)) (SLo : Sta Z Z.heap "java/lang/StringUTF16" "LO_BYTE_SHIFT" "I" (.int 8)) (h0 : Heap) (n0 : Nat) (O : Old Z n0 h0) (hcs : ∀ c ∈ cs, c < 65536) (hn : cs.length ≤ 16) (Ab : Ary Z h0 b cb .char (chs cs)) :
    Ctr l Z n0 (⟨"java/lang/StringUTF16", "compress", "([CII)[B"⟩ : MethodName) jdk_52_method_16_code 6 (some (.array .byte)) [] ({ frames := 3, cells := 2, slots := 48, locals := 40 } : Room) #[(.ref b), (.int (0 : Int32)), (.int (Int32.ofNat cs.length))] h0 [] (fun v h => ∃ t ca, v = some (.ref t) ∧ h0.size ≤ t ∧ ((Ary Z h t ca .byte (lat cs) ∧ ∀ c ∈ cs, c < 256) ∨ (Ary Z h t ca .byte (wid cs) ∧ ∃ c ∈ cs, 256 ≤ c))) := by
  refine enter (plainFor_of_name own_pn_java_lang_StringUTF16) (fun m => own_ef_own_d4 m b (0 : Int32) (Int32.ofNat cs.length)) O (fun _ q => nomatch q) ?_
  intro p e s m below meth c T w
  refine i_iloadN w own_d4_0 rfl (pc' := 1) rfl ?_
  refine i_newP w own_d4_1 (hw _ (List.mem_of_getElem? (i := 21) rfl)) (N := cs.length) rfl (by omega) (cap := 16) hn (by decide) (by decide) (by decide) (pc' := 3) rfl ?_
  intro d T33 h33 ca_d g_d w33 z_d E33 A_d
  show Goes p e below _ T33 (mkF m 3 #[.val (.ref b), .val (.int (0 : Int32)), .val (.int (Int32.ofNat cs.length)), .unset, .unset, .unset] [(.ref d)])
  have Ab1 := Ab.ext E33
  have lbd : b < d := g_d ▸ Ab.lt
  refine i_astoreN w33 own_d4_3 rfl (l' := #[.val (.ref b), .val (.int (0 : Int32)), .val (.int (Int32.ofNat cs.length)), .val (.ref d), .unset, .unset]) rfl (pc' := 4) rfl ?_
  refine i_aloadN w33 own_d4_4 rfl rfl (pc' := 5) rfl ?_
  refine i_iloadN w33 own_d4_5 rfl (pc' := 6) rfl ?_
  refine i_aloadN w33 own_d4_6 rfl rfl (pc' := 7) rfl ?_
  refine i_iconst w33 own_d4_7 (z := (0 : Int32)) (by decide) (pc' := 8) rfl ?_
  refine i_iloadN w33 own_d4_8 rfl (pc' := 9) rfl ?_
  refine c_static w33 (y := (⟨"java/lang/StringUTF16", "compress", "([CI[BII)I"⟩ : MethodName)) (argsL := [(.ref b), (.int (0 : Int32)), (.ref d), (.int (0 : Int32)), (.int (Int32.ofNat cs.length))]) (st := []) own_d4_9 (hw _ (List.mem_of_getElem? (i := 22) rfl)) (hw _ (List.mem_of_getElem? (i := 23) rfl)) (hw _ (List.mem_of_getElem? (i := 19) rfl)) (hw _ (List.mem_of_getElem? (i := 24) rfl)) (by decide) own_pd_pACIABIIqI rfl (own_cmp5 l Z a0 hw b d cb ca_d cs _ h33 n0 w33.old hcs (by omega) (Nat.ne_of_lt lbd) (Nat.le_trans w33.n0h0 z_d) Ab1 A_d (by simp)) rfl (by decide) (W := 0) (Nat.le_of_eq rfl) (by decide) (by decide) (by decide) (allS (Or.inr z_d) all0) (pc' := 12) rfl ?_
  intro v35 T35 h35 w35 K35 q35
  obtain ⟨j, bs, rfl, hj, ht, hs, Ad, hbl, hbt⟩ := q35
  show Goes p e below _ T35 (mkF m 12 #[.val (.ref b), .val (.int (0 : Int32)), .val (.int (Int32.ofNat cs.length)), .val (.ref d), .unset, .unset] [(.int (Int32.ofNat j))])
  have Ab2 := Ab1.keep K35 (ninS (Nat.ne_of_lt lbd) nin0)
  refine i_istore w35 own_d4_12 (l' := #[.val (.ref b), .val (.int (0 : Int32)), .val (.int (Int32.ofNat cs.length)), .val (.ref d), .val (.int (Int32.ofNat j)), .unset]) rfl (pc' := 14) rfl ?_
  refine i_iload w35 own_d4_14 rfl (pc' := 16) rfl ?_
  refine i_iloadN w35 own_d4_16 rfl (pc' := 17) rfl ?_
  refine i_icmp_eq w35 own_d4_17 (pcY := 57) (by decide) (pc' := 20) rfl (fun hc17 => ?_) (fun hc17 => ?_)
  ·
    refine i_aloadN w35 own_d4_57 rfl rfl (pc' := 58) rfl ?_
    have hjn : j = cs.length := (eq_nat (by omega) (by omega)).mp hc17
    subst hjn
    rw [List.take_length, ← hbl, List.take_length] at hbt
    subst hbt
    rw [List.take_length] at ht
    exact i_retA w35 own_d4_58 rfl rfl rfl ⟨d, ca_d, rfl, z_d, Or.inl ⟨Ad, ht⟩⟩ (by decide) (by decide)
  ·
    refine i_aloadN w35 own_d4_20 rfl rfl (pc' := 21) rfl ?_
    refine i_iloadN w35 own_d4_21 rfl (pc' := 22) rfl ?_
    refine i_iloadN w35 own_d4_22 rfl (pc' := 23) rfl ?_
    have hjl : j < cs.length := by rcases Nat.lt_or_ge j cs.length with q | q; exact q; exact absurd (by rw [show j = cs.length by omega]) hc17
    obtain ⟨ci, hci⟩ : ∃ ci, cs[j]? = some ci := ⟨_, List.getElem?_eq_getElem hjl⟩
    have hc256 := hs ci hci
    have hcb : ci < 65536 := hcs ci (List.mem_of_getElem? hci)
    refine c_static w35 (y := (⟨"java/lang/StringUTF16", "toBytes", "([CII)[B"⟩ : MethodName)) (argsL := [(.ref b), (.int (0 : Int32)), (.int (Int32.ofNat cs.length))]) (st := []) own_d4_23 (hw _ (List.mem_of_getElem? (i := 91) rfl)) (hw _ (List.mem_of_getElem? (i := 92) rfl)) (hw _ (List.mem_of_getElem? (i := 19) rfl)) (hw _ (List.mem_of_getElem? (i := 93) rfl)) (by decide) own_pd_pACIIqAB rfl (own_toB l Z a0 hw b cb cs SA SHi SLo h35 n0 w35.old hcs (by omega) Ab2) rfl (by decide) (W := 0) (Nat.le_of_eq rfl) (by decide) (by decide) (by decide) (fun _ q => nomatch q) (pc' := 26) rfl ?_
    intro v37 T37 h37 w37 K37 q37
    obtain ⟨u, cu, rfl, zu, Au⟩ := q37
    show Goes p e below _ T37 (mkF m 26 #[.val (.ref b), .val (.int (0 : Int32)), .val (.int (Int32.ofNat cs.length)), .val (.ref d), .val (.int (Int32.ofNat j)), .unset] [(.ref u)])
    have zu0 : h0.size ≤ u := Nat.le_trans (Nat.le_trans (Nat.le_trans z_d (Nat.le_of_lt A_d.lt)) K35.1) zu
    refine i_astore w37 own_d4_26 rfl (l' := #[.val (.ref b), .val (.int (0 : Int32)), .val (.int (Int32.ofNat cs.length)), .val (.ref d), .val (.int (Int32.ofNat j)), .val (.ref u)]) rfl (pc' := 28) rfl ?_
    refine i_aload w37 own_d4_28 rfl rfl (pc' := 30) rfl ?_
    refine i_iload w37 own_d4_30 rfl (pc' := 32) rfl ?_
    refine c_static w37 (y := (⟨"java/lang/StringUTF16", "getChar", "([BI)C"⟩ : MethodName)) (argsL := [(.ref u), (.int (Int32.ofNat j))]) (st := []) own_d4_32 (hw _ (List.mem_of_getElem? (i := 107) rfl)) (hw _ (List.mem_of_getElem? (i := 108) rfl)) (hw _ (List.mem_of_getElem? (i := 19) rfl)) (hw _ (List.mem_of_getElem? (i := 109) rfl)) (by decide) own_pd_pABIqC rfl (own_getChar l Z a0 hw u cu cs j ci SA SHi SLo h37 n0 w37.old Au hci hcb) rfl (by decide) (W := 0) (Nat.le_of_eq rfl) (by decide) (by decide) (by decide) (fun _ q => nomatch q) (pc' := 35) rfl ?_
    intro v39 T39 h39 w39 K39 q39
    obtain ⟨rfl, rfl⟩ := q39
    show Goes p e below _ T39 (mkF m 35 #[.val (.ref b), .val (.int (0 : Int32)), .val (.int (Int32.ofNat cs.length)), .val (.ref d), .val (.int (Int32.ofNat j)), .val (.ref u)] [(.int (Int32.ofNat ci))])
    refine i_sipush w39 own_d4_35 (z := (255 : Int32)) (by decide) (pc' := 38) rfl ?_
    refine i_icmp_gt_Y w39 ((gt255 hcb).mpr hc256) own_d4_38 (pc' := 54) (by decide) ?_
    refine i_aload w39 own_d4_54 rfl rfl (pc' := 56) rfl ?_
    exact i_retA w39 own_d4_56 rfl rfl rfl ⟨u, cu, rfl, zu0, Or.inr ⟨Au, ci, List.mem_of_getElem? hci, hc256⟩⟩ (by decide) (by decide)
theorem own_d6_0 : decode jdk_52_method_15_code 0 = .ok (.iload_n 1, 1) := by decide +kernel
theorem own_d6_1 : decode jdk_52_method_15_code 1 = .ok (.aload_n 0, 1) := by decide +kernel
theorem own_d6_2 : decode jdk_52_method_15_code 2 = .ok (.arraylength, 1) := by decide +kernel
theorem own_d6_3 : decode jdk_52_method_15_code 3 = .ok (.isub, 1) := by decide +kernel
theorem own_d6_4 : decode jdk_52_method_15_code 4 = .ok (.bipush 31, 2) := by decide +kernel
theorem own_d6_6 : decode jdk_52_method_15_code 6 = .ok (.iushr, 1) := by decide +kernel
theorem own_d6_7 : decode jdk_52_method_15_code 7 = .ok (.i2b, 1) := by decide +kernel
theorem own_d6_8 : decode jdk_52_method_15_code 8 = .ok (.ireturn, 1) := by decide +kernel
theorem own_pd_pABIqB : parseMethodDescriptor "([BI)B" = some ⟨[(.array .byte), .int], some .byte⟩ := by decide +kernel
theorem own_ef_own_d6 (m : MethodId) (x0 : Addr) (x1 : Int32) : entryFrame m #[(.ref x0), (.int x1)] 2 = mkF m 0 #[.val (.ref x0), .val (.int x1)] [] := by
  first | (simp [entryFrame, mkF, argsToLocals, Value.category]; done) | rfl
set_option maxRecDepth 65536 in
set_option maxHeartbeats 40000000 in
theorem own_codLen (l : Launch) (Z : State) (a0 : Array Value) (hw : ∀ d ∈ tables_1, d.before a0 Z = true) (t : Addr) (ca : ClassId) (vs : List Value) (x : Int32) (h0 : Heap) (n0 : Nat) (O : Old Z n0 h0) (At : Ary Z h0 t ca .byte vs) :
    Ctr l Z n0 (⟨"java/lang/StringUTF16", "coderFromArrayLen", "([BI)B"⟩ : MethodName) jdk_52_method_15_code 2 (some .byte) [] ({ frames := 0, cells := 0, slots := 0, locals := 0 } : Room) #[(.ref t), (.int x)] h0 [] (fun v h => v = some (.int ((XT.ushr (x - Int32.ofNat vs.length) 31).toInt8.toInt32)) ∧ h0 = h) := by
  refine enter (plainFor_of_name own_pn_java_lang_StringUTF16) (fun m => own_ef_own_d6 m t x) O (fun _ q => nomatch q) ?_
  intro p e s m below meth c T w
  refine i_iloadN w own_d6_0 rfl (pc' := 1) rfl ?_
  refine i_aloadN w own_d6_1 rfl rfl (pc' := 2) rfl ?_
  refine i_len w own_d6_2 At rfl (pc' := 3) rfl ?_
  refine i_isub w own_d6_3 (pc' := 4) rfl ?_
  refine i_bipush w own_d6_4 (z := (31 : Int32)) (by decide) (pc' := 6) rfl ?_
  refine i_iushr w own_d6_6 (pc' := 7) rfl ?_
  refine i_i2b w own_d6_7 (pc' := 8) rfl ?_
  exact i_retN w own_d6_8 rfl (by simp) ⟨by rw [byte_idem], rfl⟩ (by decide) (by decide)
theorem own_d2_0 : decode jdk_42_method_149_code 0 = .ok (.aload_n 0, 1) := by decide +kernel
theorem own_d2_1 : decode jdk_42_method_149_code 1 = .ok (.invokespecial 1, 3) := by decide +kernel
theorem own_d2_4 : decode jdk_42_method_149_code 4 = .ok (.iload_n 3, 1) := by decide +kernel
theorem own_d2_5 : decode jdk_42_method_149_code 5 = .ok (.ifCond .ne 22, 3) := by decide +kernel
theorem own_d2_8 : decode jdk_42_method_149_code 8 = .ok (.aload_n 0, 1) := by decide +kernel
theorem own_d2_9 : decode jdk_42_method_149_code 9 = .ok (.ldc 7, 2) := by decide +kernel
theorem own_d2_11 : decode jdk_42_method_149_code 11 = .ok (.getfield 9, 3) := by decide +kernel
theorem own_d2_14 : decode jdk_42_method_149_code 14 = .ok (.putfield 9, 3) := by decide +kernel
theorem own_d2_17 : decode jdk_42_method_149_code 17 = .ok (.aload_n 0, 1) := by decide +kernel
theorem own_d2_18 : decode jdk_42_method_149_code 18 = .ok (.ldc 7, 2) := by decide +kernel
theorem own_d2_20 : decode jdk_42_method_149_code 20 = .ok (.getfield 15, 3) := by decide +kernel
theorem own_d2_23 : decode jdk_42_method_149_code 23 = .ok (.putfield 15, 3) := by decide +kernel
theorem own_d2_26 : decode jdk_42_method_149_code 26 = .ok (.return_, 1) := by decide +kernel
theorem own_d2_27 : decode jdk_42_method_149_code 27 = .ok (.getstatic 38, 3) := by decide +kernel
theorem own_d2_30 : decode jdk_42_method_149_code 30 = .ok (.ifCond .eq 28, 3) := by decide +kernel
theorem own_d2_33 : decode jdk_42_method_149_code 33 = .ok (.aload_n 1, 1) := by decide +kernel
theorem own_d2_34 : decode jdk_42_method_149_code 34 = .ok (.iload_n 2, 1) := by decide +kernel
theorem own_d2_35 : decode jdk_42_method_149_code 35 = .ok (.iload_n 3, 1) := by decide +kernel
theorem own_d2_36 : decode jdk_42_method_149_code 36 = .ok (.invokestatic 177, 3) := by decide +kernel
theorem own_d2_39 : decode jdk_42_method_149_code 39 = .ok (.astore 5, 2) := by decide +kernel
theorem own_d2_41 : decode jdk_42_method_149_code 41 = .ok (.aload_n 0, 1) := by decide +kernel
theorem own_d2_42 : decode jdk_42_method_149_code 42 = .ok (.aload 5, 2) := by decide +kernel
theorem own_d2_44 : decode jdk_42_method_149_code 44 = .ok (.iload_n 3, 1) := by decide +kernel
theorem own_d2_45 : decode jdk_42_method_149_code 45 = .ok (.invokestatic 47, 3) := by decide +kernel
theorem own_d2_48 : decode jdk_42_method_149_code 48 = .ok (.putfield 15, 3) := by decide +kernel
theorem own_d2_51 : decode jdk_42_method_149_code 51 = .ok (.aload_n 0, 1) := by decide +kernel
theorem own_d2_52 : decode jdk_42_method_149_code 52 = .ok (.aload 5, 2) := by decide +kernel
theorem own_d2_54 : decode jdk_42_method_149_code 54 = .ok (.putfield 9, 3) := by decide +kernel
theorem own_d2_57 : decode jdk_42_method_149_code 57 = .ok (.return_, 1) := by decide +kernel
theorem own_d2_58 : decode jdk_42_method_149_code 58 = .ok (.aload_n 0, 1) := by decide +kernel
theorem own_d2_59 : decode jdk_42_method_149_code 59 = .ok (.iconst 1, 1) := by decide +kernel
theorem own_d2_60 : decode jdk_42_method_149_code 60 = .ok (.putfield 15, 3) := by decide +kernel
theorem own_d2_63 : decode jdk_42_method_149_code 63 = .ok (.aload_n 0, 1) := by decide +kernel
theorem own_d2_64 : decode jdk_42_method_149_code 64 = .ok (.aload_n 1, 1) := by decide +kernel
theorem own_d2_65 : decode jdk_42_method_149_code 65 = .ok (.iload_n 2, 1) := by decide +kernel
theorem own_d2_66 : decode jdk_42_method_149_code 66 = .ok (.iload_n 3, 1) := by decide +kernel
theorem own_d2_67 : decode jdk_42_method_149_code 67 = .ok (.invokestatic 180, 3) := by decide +kernel
theorem own_d2_70 : decode jdk_42_method_149_code 70 = .ok (.putfield 9, 3) := by decide +kernel
theorem own_d2_73 : decode jdk_42_method_149_code 73 = .ok (.return_, 1) := by decide +kernel
theorem own_pd_pACIILjava_lang_VoideqV : parseMethodDescriptor "([CIILjava/lang/Void;)V" = some ⟨[(.array .char), .int, .int, (.object "java/lang/Void")], none⟩ := by decide +kernel
theorem own_ef_own_d2n4 (m : MethodId) (x0 : Addr) (x1 : Addr) (x2 : Int32) (x3 : Int32) : entryFrame m #[(.ref x0), (.ref x1), (.int x2), (.int x3), .null] 6 = mkF m 0 #[.val (.ref x0), .val (.ref x1), .val (.int x2), .val (.int x3), .val .null, .unset] [] := by
  first | (simp [entryFrame, mkF, argsToLocals, Value.category]; done) | rfl
set_option maxRecDepth 65536 in
set_option maxHeartbeats 40000000 in
theorem own_new4 (l : Launch) (Z : State) (a0 : Array Value) (hw : ∀ d ∈ tables_1, d.before a0 Z = true) (a b : Addr) (cb : ClassId) (cs : List Nat) {v0 c0 : Value} (G1 : Int32) (hG : ¬ G1 = 0) (SG : Sta Z Z.heap "java/lang/String" "COMPACT_STRINGS" "Z" (.int G1)) (SA : Sta Z Z.heap "java/lang/StringUTF16" "$assertionsDisabled" "Z" (.int 1)) (SHi : Sta Z Z.heap "java/lang/StringUTF16" "HI_BYTE_SHIFT" "I" (.int 0)) (SLo : Sta Z Z.heap "java/lang/StringUTF16" "LO_BYTE_SHIFT" "I" (.int 8)) (h0 : Heap) (n0 : Nat) (O : Old Z n0 h0) (ha : n0 ≤ a) (hcs : ∀ c ∈ cs, c < 65536) (h1 : 0 < cs.length) (hn : cs.length ≤ 16) (Ea : Exa Z h0 a ST) (Fv : Fld Z h0 a ST "value" "[B" v0) (Fc : Fld Z h0 a ST "coder" "B" c0) (Ab : Ary Z h0 b cb .char (chs cs)) :
    Ctr l Z n0 (⟨"java/lang/String", "<init>", "([CIILjava/lang/Void;)V"⟩ : MethodName) jdk_42_method_149_code 6 none [] ({ frames := 4, cells := 2, slots := 48, locals := 57 } : Room) #[(.ref a), (.ref b), (.int (0 : Int32)), (.int (Int32.ofNat cs.length)), .null] h0 [a] (fun v h => v = none ∧ ∃ t ca, h0.size ≤ t ∧ Str Z h a t ca cs) := by
  refine enter (plainFor_of_name own_pn_java_lang_String) (fun m => own_ef_own_d2n4 m a b (0 : Int32) (Int32.ofNat cs.length)) O (allS ha all0) ?_
  intro p e s m below meth c T w
  refine i_aloadN w own_d2_0 rfl rfl (pc' := 1) rfl ?_
  refine i_initO w own_d2_1 (hw _ (List.mem_of_getElem? (i := 13) rfl)) (hw _ (List.mem_of_getElem? (i := 14) rfl)) (hw _ (List.mem_of_getElem? (i := 15) rfl)) rfl (by decide) (W := 0) (Nat.le_of_eq rfl) (by decide) (pc' := 4) rfl ?_
  intro T40 w40
  show Goes p e below _ T40 (mkF m 4 #[.val (.ref a), .val (.ref b), .val (.int (0 : Int32)), .val (.int (Int32.ofNat cs.length)), .val .null, .unset] [])
  refine i_iloadN w40 own_d2_4 rfl (pc' := 5) rfl ?_
  refine i_if_ne_Y w40 (ofNat_ne0 h1 (by omega)) own_d2_5 (pc' := 27) (by decide) ?_
  refine i_getS w40 own_d2_27 (hw _ (List.mem_of_getElem? (i := 16) rfl)) SG (pc' := 30) rfl ?_
  intro T41 w41
  refine i_if_eq_N w41 hG own_d2_30 (pc' := 33) rfl ?_
  refine i_aloadN w41 own_d2_33 rfl rfl (pc' := 34) rfl ?_
  refine i_iloadN w41 own_d2_34 rfl (pc' := 35) rfl ?_
  refine i_iloadN w41 own_d2_35 rfl (pc' := 36) rfl ?_
  refine c_static w41 (y := (⟨"java/lang/StringUTF16", "compress", "([CII)[B"⟩ : MethodName)) (argsL := [(.ref b), (.int (0 : Int32)), (.int (Int32.ofNat cs.length))]) (st := []) own_d2_36 (hw _ (List.mem_of_getElem? (i := 17) rfl)) (hw _ (List.mem_of_getElem? (i := 18) rfl)) (hw _ (List.mem_of_getElem? (i := 19) rfl)) (hw _ (List.mem_of_getElem? (i := 20) rfl)) (by decide) own_pd_pACIIqAB rfl (own_cmp3 l Z a0 hw b cb cs SA SHi SLo h0 n0 w41.old hcs hn Ab) rfl (by decide) (W := 0) (Nat.le_of_eq rfl) (by decide) (by decide) (by decide) (fun _ q => nomatch q) (pc' := 39) rfl ?_
  intro v42 T42 h42 w42 K42 q42
  obtain ⟨t, ca, rfl, zt, Dt⟩ := q42
  show Goes p e below _ T42 (mkF m 39 #[.val (.ref a), .val (.ref b), .val (.int (0 : Int32)), .val (.int (Int32.ofNat cs.length)), .val .null, .unset] [(.ref t)])
  have Fv1 := Fv.keep K42 nin0
  have Fc1 := Fc.keep K42 nin0
  have Ea1 := Ea.keep K42
  have lat1 : a < t := Nat.lt_of_lt_of_le Ea.lt zt
  obtain ⟨vs, cd, At, hcd, hor, hnb, hfb⟩ : ∃ vs cd, Ary Z h42 t ca .byte vs ∧ (XT.ushr (Int32.ofNat cs.length - Int32.ofNat vs.length) 31).toInt8.toInt32 = cd ∧ ((vs = lat cs ∧ cd = 0 ∧ ∀ c ∈ cs, c < 256) ∨ (vs = wid cs ∧ cd = 1 ∧ ∃ c ∈ cs, 256 ≤ c)) ∧ narrow .byte (.int cd) = .int cd ∧ fits .byte (.int cd) = true := by
    rcases Dt with ⟨At, q⟩ | ⟨At, q⟩
    · exact ⟨_, 0, At, by rw [lat_len]; exact cod0 _, Or.inl ⟨rfl, rfl, q⟩, rfl, rfl⟩
    · exact ⟨_, 1, At, by rw [wid_len]; exact cod1 h1 (by omega), Or.inr ⟨rfl, rfl, q⟩, rfl, rfl⟩
  refine i_astore w42 own_d2_39 rfl (l' := #[.val (.ref a), .val (.ref b), .val (.int (0 : Int32)), .val (.int (Int32.ofNat cs.length)), .val .null, .val (.ref t)]) rfl (pc' := 41) rfl ?_
  refine i_aloadN w42 own_d2_41 rfl rfl (pc' := 42) rfl ?_
  refine i_aload w42 own_d2_42 rfl rfl (pc' := 44) rfl ?_
  refine i_iloadN w42 own_d2_44 rfl (pc' := 45) rfl ?_
  refine c_static w42 (y := (⟨"java/lang/StringUTF16", "coderFromArrayLen", "([BI)B"⟩ : MethodName)) (argsL := [(.ref t), (.int (Int32.ofNat cs.length))]) (st := [(.ref a)]) own_d2_45 (hw _ (List.mem_of_getElem? (i := 25) rfl)) (hw _ (List.mem_of_getElem? (i := 26) rfl)) (hw _ (List.mem_of_getElem? (i := 19) rfl)) (hw _ (List.mem_of_getElem? (i := 27) rfl)) (by decide) own_pd_pABIqB rfl (own_codLen l Z a0 hw t ca vs (Int32.ofNat cs.length) h42 n0 w42.old At) rfl (by decide) (W := 1) (Nat.le_of_eq rfl) (by decide) (by decide) (by decide) (fun _ q => nomatch q) (pc' := 48) rfl ?_
  intro v44 T44 h44 w44 K44 q44
  obtain ⟨rfl, rfl⟩ := q44
  show Goes p e below _ T44 (mkF m 48 #[.val (.ref a), .val (.ref b), .val (.int (0 : Int32)), .val (.int (Int32.ofNat cs.length)), .val .null, .val (.ref t)] [(.int (XT.ushr (Int32.ofNat cs.length - Int32.ofNat vs.length) 31).toInt8.toInt32), (.ref a)])
  rw [hcd]
  show Goes p e below _ T44 (mkF m 48 #[.val (.ref a), .val (.ref b), .val (.int (0 : Int32)), .val (.int (Int32.ofNat cs.length)), .val .null, .val (.ref t)] [(.int cd), (.ref a)])
  refine i_putF w44 own_d2_48 (hw _ (List.mem_of_getElem? (i := 28) rfl)) Fc1 Ea1 (Or.inr ⟨(hw _ (List.mem_of_getElem? (i := 29) rfl)), rfl, rfl⟩) (hw _ (List.mem_of_getElem? (i := 4) rfl)) (ty := .byte) (by decide) hnb hfb (Or.inl (List.mem_singleton.mpr rfl)) (pc' := 51) rfl ?_
  intro T45 h45 w45 W45
  show Goes p e below _ T45 (mkF m 51 #[.val (.ref a), .val (.ref b), .val (.int (0 : Int32)), .val (.int (Int32.ofNat cs.length)), .val .null, .val (.ref t)] [])
  have Fc2 := Fld.same W45 Fc1
  have Fv2 := Fv1.other W45 (Or.inr (slot_ne (Or.inr (hw _ (List.mem_of_getElem? (i := 31) rfl))) (Or.inr (hw _ (List.mem_of_getElem? (i := 29) rfl))) (by decide) (t := (.array .byte)) (t' := .byte) (by decide) (by decide)))
  have Ea2 := Ea1.wr W45
  have At2 := At.other W45 (Nat.ne_of_gt lat1)
  refine i_aloadN w45 own_d2_51 rfl rfl (pc' := 52) rfl ?_
  refine i_aload w45 own_d2_52 rfl rfl (pc' := 54) rfl ?_
  refine i_putF w45 own_d2_54 (hw _ (List.mem_of_getElem? (i := 30) rfl)) Fv2 Ea2 (Or.inr ⟨(hw _ (List.mem_of_getElem? (i := 31) rfl)), rfl, rfl⟩) (hw _ (List.mem_of_getElem? (i := 4) rfl)) (ty := (.array .byte)) (by decide) rfl rfl (Or.inl (List.mem_singleton.mpr rfl)) (pc' := 57) rfl ?_
  intro T46 h46 w46 W46
  show Goes p e below _ T46 (mkF m 57 #[.val (.ref a), .val (.ref b), .val (.int (0 : Int32)), .val (.int (Int32.ofNat cs.length)), .val .null, .val (.ref t)] [])
  have Fv3 := Fld.same W46 Fv2
  have Fc3 := Fc2.other W46 (Or.inr (slot_ne (Or.inr (hw _ (List.mem_of_getElem? (i := 29) rfl))) (Or.inr (hw _ (List.mem_of_getElem? (i := 31) rfl))) (by decide) (t := .byte) (t' := (.array .byte)) (by decide) (by decide)))
  have Ea3 := Ea2.wr W46
  have At3 := At2.other W46 (Nat.ne_of_gt lat1)
  have St3 : Str Z h46 a t ca cs := by
    rcases hor with ⟨rfl, rfl, q⟩ | ⟨rfl, rfl, q⟩
    · exact Or.inl ⟨Ea3, Fv3, Fc3, At3, q⟩
    · exact Or.inr ⟨Ea3, Fv3, Fc3, At3, hcs, q⟩
  exact i_ret0 w46 own_d2_57 rfl ⟨rfl, t, ca, zt, St3⟩ (by decide) (by decide)
theorem own_d1_0 : decode jdk_42_method_3_code 0 = .ok (.aload_n 0, 1) := by decide +kernel
theorem own_d1_1 : decode jdk_42_method_3_code 1 = .ok (.aload_n 1, 1) := by decide +kernel
theorem own_d1_2 : decode jdk_42_method_3_code 2 = .ok (.iconst 0, 1) := by decide +kernel
theorem own_d1_3 : decode jdk_42_method_3_code 3 = .ok (.aload_n 1, 1) := by decide +kernel
theorem own_d1_4 : decode jdk_42_method_3_code 4 = .ok (.arraylength, 1) := by decide +kernel
theorem own_d1_5 : decode jdk_42_method_3_code 5 = .ok (.aconst_null, 1) := by decide +kernel
theorem own_d1_6 : decode jdk_42_method_3_code 6 = .ok (.invokespecial 27, 3) := by decide +kernel
theorem own_d1_9 : decode jdk_42_method_3_code 9 = .ok (.return_, 1) := by decide +kernel
theorem own_pd_pACqV : parseMethodDescriptor "([C)V" = some ⟨[(.array .char)], none⟩ := by decide +kernel
theorem own_ef_own_d1 (m : MethodId) (x0 : Addr) (x1 : Addr) : entryFrame m #[(.ref x0), (.ref x1)] 2 = mkF m 0 #[.val (.ref x0), .val (.ref x1)] [] := by
  first | (simp [entryFrame, mkF, argsToLocals, Value.category]; done) | rfl
set_option maxRecDepth 65536 in
set_option maxHeartbeats 40000000 in
theorem own_new1 (l : Launch) (Z : State) (a0 : Array Value) (hw : ∀ d ∈ tables_1, d.before a0 Z = true) (a b : Addr) (cb : ClassId) (cs : List Nat) {v0 c0 : Value} (G1 : Int32) (hG : ¬ G1 = 0) (SG : Sta Z Z.heap "java/lang/String" "COMPACT_STRINGS" "Z" (.int G1)) (SA : Sta Z Z.heap "java/lang/StringUTF16" "$assertionsDisabled" "Z" (.int 1)) (SHi : Sta Z Z.heap "java/lang/StringUTF16" "HI_BYTE_SHIFT" "I" (.int 0)) (SLo : Sta Z Z.heap "java/lang/StringUTF16" "LO_BYTE_SHIFT" "I" (.int 8)) (h0 : Heap) (n0 : Nat) (O : Old Z n0 h0) (ha : n0 ≤ a) (hcs : ∀ c ∈ cs, c < 65536) (h1 : 0 < cs.length) (hn : cs.length ≤ 16) (Ea : Exa Z h0 a ST) (Fv : Fld Z h0 a ST "value" "[B" v0) (Fc : Fld Z h0 a ST "coder" "B" c0) (Ab : Ary Z h0 b cb .char (chs cs)) :
    Ctr l Z n0 (⟨"java/lang/String", "<init>", "([C)V"⟩ : MethodName) jdk_42_method_3_code 2 none [] ({ frames := 5, cells := 2, slots := 48, locals := 74 } : Room) #[(.ref a), (.ref b)] h0 [a] (fun v h => v = none ∧ ∃ t ca, h0.size ≤ t ∧ Str Z h a t ca cs) := by
  refine enter (plainFor_of_name own_pn_java_lang_String) (fun m => own_ef_own_d1 m a b) O (allS ha all0) ?_
  intro p e s m below meth c T w
  refine i_aloadN w own_d1_0 rfl rfl (pc' := 1) rfl ?_
  refine i_aloadN w own_d1_1 rfl rfl (pc' := 2) rfl ?_
  refine i_iconst w own_d1_2 (z := (0 : Int32)) (by decide) (pc' := 3) rfl ?_
  refine i_aloadN w own_d1_3 rfl rfl (pc' := 4) rfl ?_
  refine i_len w own_d1_4 Ab (z := Int32.ofNat cs.length) (by rw [chs_len]) (pc' := 5) rfl ?_
  refine i_aconstNull w own_d1_5 (pc' := 6) rfl ?_
  refine c_special w (y := (⟨"java/lang/String", "<init>", "([CIILjava/lang/Void;)V"⟩ : MethodName)) (a := a) (argsL := [(.ref b), (.int (0 : Int32)), (.int (Int32.ofNat cs.length)), .null]) (st := []) own_d1_6 rfl (hw _ (List.mem_of_getElem? (i := 9) rfl)) (hw _ (List.mem_of_getElem? (i := 10) rfl)) (hw _ (List.mem_of_getElem? (i := 5) rfl)) (hw _ (List.mem_of_getElem? (i := 12) rfl)) (by decide) own_pd_pACIILjava_lang_VoideqV rfl (own_new4 l Z a0 hw a b cb cs G1 hG SG SA SHi SLo h0 n0 w.old ha hcs h1 hn Ea Fv Fc Ab) rfl (by decide) (W := 0) (Nat.le_of_eq rfl) (by decide) (by decide) (by decide) (allS (Or.inl (List.mem_singleton.mpr rfl)) all0) (pc' := 9) rfl ?_
  intro v47 T47 h47 w47 K47 q47
  obtain ⟨rfl, t, ca, zt, St⟩ := q47
  show Goes p e below _ T47 (mkF m 9 #[.val (.ref a), .val (.ref b)] [])
  exact i_ret0 w47 own_d1_9 rfl ⟨rfl, t, ca, zt, St⟩ (by decide) (by decide)
theorem own_d14_0 : decode jdk_42_method_152_code 0 = .ok (.getstatic 38, 3) := by decide +kernel
theorem own_d14_3 : decode jdk_42_method_152_code 3 = .ok (.ifCond .eq 10, 3) := by decide +kernel
theorem own_d14_6 : decode jdk_42_method_152_code 6 = .ok (.aload_n 0, 1) := by decide +kernel
theorem own_d14_7 : decode jdk_42_method_152_code 7 = .ok (.getfield 15, 3) := by decide +kernel
theorem own_d14_10 : decode jdk_42_method_152_code 10 = .ok (.goto 4, 3) := by decide +kernel
theorem own_d14_13 : decode jdk_42_method_152_code 13 = .ok (.iconst 1, 1) := by decide +kernel
theorem own_d14_14 : decode jdk_42_method_152_code 14 = .ok (.ireturn, 1) := by decide +kernel
theorem own_pd_pqB : parseMethodDescriptor "()B" = some ⟨[], some .byte⟩ := by decide +kernel
theorem own_ef_own_d14 (m : MethodId) (x0 : Addr) : entryFrame m #[(.ref x0)] 1 = mkF m 0 #[.val (.ref x0)] [] := by
  first | (simp [entryFrame, mkF, argsToLocals, Value.category]; done) | rfl
set_option maxRecDepth 65536 in
set_option maxHeartbeats 40000000 in
theorem own_coder (l : Launch) (Z : State) (a0 : Array Value) (hw : ∀ d ∈ tables_1, d.before a0 Z = true) (a : Addr) (cd : Int32) (G1 : Int32) (hG : ¬ G1 = 0) (SG : Sta Z Z.heap "java/lang/String" "COMPACT_STRINGS" "Z" (.int G1)) (h0 : Heap) (n0 : Nat) (O : Old Z n0 h0) (Fc : Fld Z h0 a ST "coder" "B" (.int cd)) (hcd : cd = 0 ∨ cd = 1) :
    Ctr l Z n0 (⟨"java/lang/String", "coder", "()B"⟩ : MethodName) jdk_42_method_152_code 1 (some .byte) [] ({ frames := 0, cells := 0, slots := 0, locals := 0 } : Room) #[(.ref a)] h0 [] (fun v h => v = some (.int cd) ∧ h0 = h) := by
  refine enter (plainFor_of_name own_pn_java_lang_String) (fun m => own_ef_own_d14 m a) O (fun _ q => nomatch q) ?_
  intro p e s m below meth c T w
  refine i_getS w own_d14_0 (hw _ (List.mem_of_getElem? (i := 16) rfl)) SG (pc' := 3) rfl ?_
  intro T49 w49
  refine i_if_eq_N w49 hG own_d14_3 (pc' := 6) rfl ?_
  refine i_aloadN w49 own_d14_6 rfl rfl (pc' := 7) rfl ?_
  refine i_getF w49 own_d14_7 (hw _ (List.mem_of_getElem? (i := 28) rfl)) Fc (pc' := 10) rfl ?_
  intro T50 w50
  refine i_goto w50 own_d14_10 (pc' := 14) (by decide) ?_
  exact i_retN w50 own_d14_14 rfl (by simp) ⟨by rcases hcd with rfl | rfl <;> rfl, rfl⟩ (by decide) (by decide)
theorem own_d13_0 : decode jdk_42_method_54_code 0 = .ok (.aload_n 0, 1) := by decide +kernel
theorem own_d13_1 : decode jdk_42_method_54_code 1 = .ok (.getfield 9, 3) := by decide +kernel
theorem own_d13_4 : decode jdk_42_method_54_code 4 = .ok (.arraylength, 1) := by decide +kernel
theorem own_d13_5 : decode jdk_42_method_54_code 5 = .ok (.aload_n 0, 1) := by decide +kernel
theorem own_d13_6 : decode jdk_42_method_54_code 6 = .ok (.invokevirtual 335, 3) := by decide +kernel
theorem own_d13_9 : decode jdk_42_method_54_code 9 = .ok (.ishr, 1) := by decide +kernel
theorem own_d13_10 : decode jdk_42_method_54_code 10 = .ok (.ireturn, 1) := by decide +kernel
theorem own_pd_pqI : parseMethodDescriptor "()I" = some ⟨[], some .int⟩ := by decide +kernel
theorem own_ef_own_d13 (m : MethodId) (x0 : Addr) : entryFrame m #[(.ref x0)] 1 = mkF m 0 #[.val (.ref x0)] [] := by
  first | (simp [entryFrame, mkF, argsToLocals, Value.category]; done) | rfl
set_option maxRecDepth 65536 in
set_option maxHeartbeats 40000000 in
theorem own_length (l : Launch) (Z : State) (a0 : Array Value) (hw : ∀ d ∈ tables_1, d.before a0 Z = true) (a t : Addr) (ca : ClassId) (cs : List Nat) (G1 : Int32) (hG : ¬ G1 = 0) (SG : Sta Z Z.heap "java/lang/String" "COMPACT_STRINGS" "Z" (.int G1)) (h0 : Heap) (n0 : Nat) (O : Old Z n0 h0) (S : Str Z h0 a t ca cs) :
    Ctr l Z n0 (⟨"java/lang/String", "length", "()I"⟩ : MethodName) jdk_42_method_54_code 1 (some .int) [] ({ frames := 1, cells := 0, slots := 0, locals := 13 } : Room) #[(.ref a)] h0 [] (fun v h => v = some (.int (Int32.ofNat cs.length)) ∧ h0 = h) := by
  refine enter (plainFor_of_name own_pn_java_lang_String) (fun m => own_ef_own_d13 m a) O (fun _ q => nomatch q) ?_
  intro p e s m below meth c T w
  refine i_aloadN w own_d13_0 rfl rfl (pc' := 1) rfl ?_
  obtain ⟨vs, cd, Fc, At, hcd, hln, -, -⟩ := S.raw
  refine i_getF w own_d13_1 (hw _ (List.mem_of_getElem? (i := 30) rfl)) S.val (pc' := 4) rfl ?_
  intro T51 w51
  refine i_len w51 own_d13_4 At rfl (pc' := 5) rfl ?_
  refine i_aloadN w51 own_d13_5 rfl rfl (pc' := 6) rfl ?_
  refine c_virtual w51 (y := (⟨"java/lang/String", "coder", "()B"⟩ : MethodName)) (C := "java/lang/String") (a := a) (argsL := []) (st := [(.int (Int32.ofNat vs.length))]) own_d13_6 (hw _ (List.mem_of_getElem? (i := 60) rfl)) (hw _ (List.mem_of_getElem? (i := 61) rfl)) (hw _ (List.mem_of_getElem? (i := 63) rfl)) (hw _ (List.mem_of_getElem? (i := 62) rfl)) (hw _ (List.mem_of_getElem? (i := 64) rfl)) (hw _ (List.mem_of_getElem? (i := 5) rfl)) (by decide) own_pd_pqB rfl S.exa (own_coder l Z a0 hw a cd G1 hG SG h0 n0 w51.old Fc hcd) rfl (by decide) (W := 1) (Nat.le_of_eq rfl) (by decide) (by decide) (by decide) (fun _ q => nomatch q) (pc' := 9) rfl ?_
  intro v52 T52 h52 w52 K52 q52
  obtain ⟨rfl, rfl⟩ := q52
  show Goes p e below _ T52 (mkF m 9 #[.val (.ref a)] [(.int cd), (.int (Int32.ofNat vs.length))])
  refine i_ishr w52 own_d13_9 (pc' := 10) rfl ?_
  exact i_retI w52 own_d13_10 rfl ⟨by rw [hln], rfl⟩ (by decide) (by decide)
theorem own_d12_0 : decode jdk_42_method_55_code 0 = .ok (.aload_n 0, 1) := by decide +kernel
theorem own_d12_1 : decode jdk_42_method_55_code 1 = .ok (.getfield 9, 3) := by decide +kernel
theorem own_d12_4 : decode jdk_42_method_55_code 4 = .ok (.arraylength, 1) := by decide +kernel
theorem own_d12_5 : decode jdk_42_method_55_code 5 = .ok (.ifCond .ne 7, 3) := by decide +kernel
theorem own_d12_8 : decode jdk_42_method_55_code 8 = .ok (.iconst 1, 1) := by decide +kernel
theorem own_d12_9 : decode jdk_42_method_55_code 9 = .ok (.goto 4, 3) := by decide +kernel
theorem own_d12_12 : decode jdk_42_method_55_code 12 = .ok (.iconst 0, 1) := by decide +kernel
theorem own_d12_13 : decode jdk_42_method_55_code 13 = .ok (.ireturn, 1) := by decide +kernel
theorem own_pd_pqZ : parseMethodDescriptor "()Z" = some ⟨[], some .boolean⟩ := by decide +kernel
theorem own_ef_own_d12 (m : MethodId) (x0 : Addr) : entryFrame m #[(.ref x0)] 1 = mkF m 0 #[.val (.ref x0)] [] := by
  first | (simp [entryFrame, mkF, argsToLocals, Value.category]; done) | rfl
set_option maxRecDepth 65536 in
set_option maxHeartbeats 40000000 in
theorem own_isEmpty (l : Launch) (Z : State) (a0 : Array Value) (hw : ∀ d ∈ tables_1, d.before a0 Z = true) (a t : Addr) (ca : ClassId) (cs : List Nat) (h0 : Heap) (n0 : Nat) (O : Old Z n0 h0) (S : Str Z h0 a t ca cs) :
    Ctr l Z n0 (⟨"java/lang/String", "isEmpty", "()Z"⟩ : MethodName) jdk_42_method_55_code 1 (some .boolean) [] ({ frames := 0, cells := 0, slots := 0, locals := 0 } : Room) #[(.ref a)] h0 [] (fun v h => v = some (.int (if cs.length = 0 then 1 else 0)) ∧ h0 = h) := by
  refine enter (plainFor_of_name own_pn_java_lang_String) (fun m => own_ef_own_d12 m a) O (fun _ q => nomatch q) ?_
  intro p e s m below meth c T w
  refine i_aloadN w own_d12_0 rfl rfl (pc' := 1) rfl ?_
  obtain ⟨vs, cd, Fc, At, hcd, -, hln, -⟩ := S.raw
  refine i_getF w own_d12_1 (hw _ (List.mem_of_getElem? (i := 30) rfl)) S.val (pc' := 4) rfl ?_
  intro T53 w53
  refine i_len w53 own_d12_4 At rfl (pc' := 5) rfl ?_
  refine i_if_ne w53 own_d12_5 (pcY := 12) (by decide) (pc' := 8) rfl (fun hc5 => ?_) (fun hc5 => ?_)
  ·
    refine i_iconst w53 own_d12_12 (z := (0 : Int32)) (by decide) (pc' := 13) rfl ?_
    exact i_retN w53 own_d12_13 rfl (by simp) ⟨by rw [if_neg (fun q => hc5 (by rw [hln.mpr q]; rfl))]; rfl, rfl⟩ (by decide) (by decide)
  ·
    refine i_iconst w53 own_d12_8 (z := (1 : Int32)) (by decide) (pc' := 9) rfl ?_
    refine i_goto w53 own_d12_9 (pc' := 13) (by decide) ?_
    exact i_retN w53 own_d12_13 rfl (by simp) ⟨by rw [if_pos (hln.mp ((eq_nat At.1 (by omega)).mp (hc5.trans (show (0 : Int32) = Int32.ofNat 0 from rfl))))]; rfl, rfl⟩ (by decide) (by decide)
theorem own_d16_0 : decode jdk_42_method_154_code 0 = .ok (.getstatic 38, 3) := by decide +kernel
theorem own_d16_3 : decode jdk_42_method_154_code 3 = .ok (.ifCond .eq 14, 3) := by decide +kernel
theorem own_d16_6 : decode jdk_42_method_154_code 6 = .ok (.aload_n 0, 1) := by decide +kernel
theorem own_d16_7 : decode jdk_42_method_154_code 7 = .ok (.getfield 15, 3) := by decide +kernel
theorem own_d16_10 : decode jdk_42_method_154_code 10 = .ok (.ifCond .ne 7, 3) := by decide +kernel
theorem own_d16_13 : decode jdk_42_method_154_code 13 = .ok (.iconst 1, 1) := by decide +kernel
theorem own_d16_14 : decode jdk_42_method_154_code 14 = .ok (.goto 4, 3) := by decide +kernel
theorem own_d16_17 : decode jdk_42_method_154_code 17 = .ok (.iconst 0, 1) := by decide +kernel
theorem own_d16_18 : decode jdk_42_method_154_code 18 = .ok (.ireturn, 1) := by decide +kernel
theorem own_ef_own_d16 (m : MethodId) (x0 : Addr) : entryFrame m #[(.ref x0)] 1 = mkF m 0 #[.val (.ref x0)] [] := by
  first | (simp [entryFrame, mkF, argsToLocals, Value.category]; done) | rfl
set_option maxRecDepth 65536 in
set_option maxHeartbeats 40000000 in
theorem own_isLatin1 (l : Launch) (Z : State) (a0 : Array Value) (hw : ∀ d ∈ tables_1, d.before a0 Z = true) (a : Addr) (cd : Int32) (G1 : Int32) (hG : ¬ G1 = 0) (SG : Sta Z Z.heap "java/lang/String" "COMPACT_STRINGS" "Z" (.int G1)) (h0 : Heap) (n0 : Nat) (O : Old Z n0 h0) (Fc : Fld Z h0 a ST "coder" "B" (.int cd)) :
    Ctr l Z n0 (⟨"java/lang/String", "isLatin1", "()Z"⟩ : MethodName) jdk_42_method_154_code 1 (some .boolean) [] ({ frames := 0, cells := 0, slots := 0, locals := 0 } : Room) #[(.ref a)] h0 [] (fun v h => v = some (.int (if cd = 0 then 1 else 0)) ∧ h0 = h) := by
  refine enter (plainFor_of_name own_pn_java_lang_String) (fun m => own_ef_own_d16 m a) O (fun _ q => nomatch q) ?_
  intro p e s m below meth c T w
  refine i_getS w own_d16_0 (hw _ (List.mem_of_getElem? (i := 16) rfl)) SG (pc' := 3) rfl ?_
  intro T54 w54
  refine i_if_eq_N w54 hG own_d16_3 (pc' := 6) rfl ?_
  refine i_aloadN w54 own_d16_6 rfl rfl (pc' := 7) rfl ?_
  refine i_getF w54 own_d16_7 (hw _ (List.mem_of_getElem? (i := 28) rfl)) Fc (pc' := 10) rfl ?_
  intro T55 w55
  refine i_if_ne w55 own_d16_10 (pcY := 17) (by decide) (pc' := 13) rfl (fun hc10 => ?_) (fun hc10 => ?_)
  ·
    refine i_iconst w55 own_d16_17 (z := (0 : Int32)) (by decide) (pc' := 18) rfl ?_
    exact i_retN w55 own_d16_18 rfl (by simp) ⟨by rw [if_neg hc10]; rfl, rfl⟩ (by decide) (by decide)
  ·
    refine i_iconst w55 own_d16_13 (z := (1 : Int32)) (by decide) (pc' := 14) rfl ?_
    refine i_goto w55 own_d16_14 (pc' := 18) (by decide) ?_
    exact i_retN w55 own_d16_18 rfl (by simp) ⟨by rw [if_pos hc10]; rfl, rfl⟩ (by decide) (by decide)
theorem own_d19_0 : decode jdk_41_method_11_code 0 = .ok (.iload_n 0, 1) := by decide +kernel
theorem own_d19_1 : decode jdk_41_method_11_code 1 = .ok (.ifCond .lt 8, 3) := by decide +kernel
theorem own_d19_4 : decode jdk_41_method_11_code 4 = .ok (.iload_n 0, 1) := by decide +kernel
theorem own_d19_5 : decode jdk_41_method_11_code 5 = .ok (.iload_n 1, 1) := by decide +kernel
theorem own_d19_6 : decode jdk_41_method_11_code 6 = .ok (.if_icmp .lt 10, 3) := by decide +kernel
theorem own_d19_9 : decode jdk_41_method_11_code 9 = .ok (.aload_n 2, 1) := by decide +kernel
theorem own_d19_10 : decode jdk_41_method_11_code 10 = .ok (.iload_n 0, 1) := by decide +kernel
theorem own_d19_11 : decode jdk_41_method_11_code 11 = .ok (.iload_n 1, 1) := by decide +kernel
theorem own_d19_12 : decode jdk_41_method_11_code 12 = .ok (.invokestatic 95, 3) := by decide +kernel
theorem own_d19_15 : decode jdk_41_method_11_code 15 = .ok (.athrow, 1) := by decide +kernel
theorem own_d19_16 : decode jdk_41_method_11_code 16 = .ok (.iload_n 0, 1) := by decide +kernel
theorem own_d19_17 : decode jdk_41_method_11_code 17 = .ok (.ireturn, 1) := by decide +kernel
theorem own_pn_jdk_internal_util_Preconditions : plainName "jdk/internal/util/Preconditions" = true := by first | (simp [plainName, overriddenIn]; done) | decide +kernel
theorem own_pd_pIILjava_util_function_BiFunctioneqI : parseMethodDescriptor "(IILjava/util/function/BiFunction;)I" = some ⟨[.int, .int, (.object "java/util/function/BiFunction")], some .int⟩ := by decide +kernel
theorem own_ef_own_d19v2 (m : MethodId) (x0 : Int32) (x1 : Int32) (x2 : Value) (hx2 : x2.isRef = true) : entryFrame m #[(.int x0), (.int x1), x2] 3 = mkF m 0 #[.val (.int x0), .val (.int x1), .val x2] [] := by
  rcases ref_cases hx2 with rfl | ⟨_, rfl⟩ <;> first | (simp [entryFrame, mkF, argsToLocals, Value.category]; done) | rfl
set_option maxRecDepth 65536 in
set_option maxHeartbeats 40000000 in
theorem own_pCheck (l : Launch) (Z : State) (a0 : Array Value) (hw : ∀ d ∈ tables_1, d.before a0 Z = true) (i n : Nat) (fm : Value) (h0 : Heap) (n0 : Nat) (O : Old Z n0 h0) (hi : i < n) (hn : n < 2147483648) (hfm : fm.isRef = true) :
    Ctr l Z n0 (⟨"jdk/internal/util/Preconditions", "checkIndex", "(IILjava/util/function/BiFunction;)I"⟩ : MethodName) jdk_41_method_11_code 3 (some .int) [] ({ frames := 0, cells := 0, slots := 0, locals := 0 } : Room) #[(.int (Int32.ofNat i)), (.int (Int32.ofNat n)), fm] h0 [] (fun v h => v = some (.int (Int32.ofNat i)) ∧ h0 = h) := by
  refine enter (plainFor_of_name own_pn_jdk_internal_util_Preconditions) (fun m => own_ef_own_d19v2 m (Int32.ofNat i) (Int32.ofNat n) fm hfm) O (fun _ q => nomatch q) ?_
  intro p e s m below meth c T w
  refine i_iloadN w own_d19_0 rfl (pc' := 1) rfl ?_
  refine i_if_lt_N w (nonneg_ofNat (by omega)) own_d19_1 (pc' := 4) rfl ?_
  refine i_iloadN w own_d19_4 rfl (pc' := 5) rfl ?_
  refine i_iloadN w own_d19_5 rfl (pc' := 6) rfl ?_
  refine i_icmp_lt_Y w ((lt_nat (by omega) (by omega)).mpr hi) own_d19_6 (pc' := 16) (by decide) ?_
  refine i_iloadN w own_d19_16 rfl (pc' := 17) rfl ?_
  exact i_retI w own_d19_17 rfl ⟨rfl, rfl⟩ (by decide) (by decide)
theorem own_d18_0 : decode jdk_42_method_155_code 0 = .ok (.iload_n 0, 1) := by decide +kernel
theorem own_d18_1 : decode jdk_42_method_155_code 1 = .ok (.iload_n 1, 1) := by decide +kernel
theorem own_d18_2 : decode jdk_42_method_155_code 2 = .ok (.getstatic 1053, 3) := by decide +kernel
theorem own_d18_5 : decode jdk_42_method_155_code 5 = .ok (.invokestatic 1059, 3) := by decide +kernel
theorem own_d18_8 : decode jdk_42_method_155_code 8 = .ok (.pop, 1) := by decide +kernel
theorem own_d18_9 : decode jdk_42_method_155_code 9 = .ok (.return_, 1) := by decide +kernel
theorem own_pd_pIIqV : parseMethodDescriptor "(II)V" = some ⟨[.int, .int], none⟩ := by decide +kernel
theorem own_ef_own_d18 (m : MethodId) (x0 : Int32) (x1 : Int32) : entryFrame m #[(.int x0), (.int x1)] 2 = mkF m 0 #[.val (.int x0), .val (.int x1)] [] := by
  first | (simp [entryFrame, mkF, argsToLocals, Value.category]; done) | rfl
set_option maxRecDepth 65536 in
set_option maxHeartbeats 40000000 in
theorem own_sCheck (l : Launch) (Z : State) (a0 : Array Value) (hw : ∀ d ∈ tables_1, d.before a0 Z = true) (i n : Nat) (G3 : Value) (hG3 : G3.isRef = true) (SF : Sta Z Z.heap "jdk/internal/util/Preconditions" "SIOOBE_FORMATTER" "Ljava/util/function/BiFunction;" G3) (h0 : Heap) (n0 : Nat) (O : Old Z n0 h0) (hi : i < n) (hn : n < 2147483648) :
    Ctr l Z n0 (⟨"java/lang/String", "checkIndex", "(II)V"⟩ : MethodName) jdk_42_method_155_code 2 none [] ({ frames := 1, cells := 0, slots := 0, locals := 14 } : Room) #[(.int (Int32.ofNat i)), (.int (Int32.ofNat n))] h0 [] (fun v h => v = none ∧ h0 = h) := by
  refine enter (plainFor_of_name own_pn_java_lang_String) (fun m => own_ef_own_d18 m (Int32.ofNat i) (Int32.ofNat n)) O (fun _ q => nomatch q) ?_
  intro p e s m below meth c T w
  refine i_iloadN w own_d18_0 rfl (pc' := 1) rfl ?_
  refine i_iloadN w own_d18_1 rfl (pc' := 2) rfl ?_
  refine i_getS w own_d18_2 (hw _ (List.mem_of_getElem? (i := 81) rfl)) SF (pc' := 5) rfl ?_
  intro T56 w56
  refine c_static w56 (y := (⟨"jdk/internal/util/Preconditions", "checkIndex", "(IILjava/util/function/BiFunction;)I"⟩ : MethodName)) (argsL := [(.int (Int32.ofNat i)), (.int (Int32.ofNat n)), G3]) (st := []) own_d18_5 (hw _ (List.mem_of_getElem? (i := 83) rfl)) (hw _ (List.mem_of_getElem? (i := 84) rfl)) (hw _ (List.mem_of_getElem? (i := 82) rfl)) (hw _ (List.mem_of_getElem? (i := 85) rfl)) (by decide) own_pd_pIILjava_util_function_BiFunctioneqI rfl (own_pCheck l Z a0 hw i n G3 h0 n0 w56.old hi hn hG3) rfl (by decide) (W := 0) (Nat.le_of_eq rfl) (by decide) (by decide) (by decide) (fun _ q => nomatch q) (pc' := 8) rfl ?_
  intro v57 T57 h57 w57 K57 q57
  obtain ⟨rfl, rfl⟩ := q57
  show Goes p e below _ T57 (mkF m 8 #[.val (.int (Int32.ofNat i)), .val (.int (Int32.ofNat n))] [(.int (Int32.ofNat i))])
  refine i_pop w57 own_d18_8 rfl (pc' := 9) rfl ?_
  exact i_ret0 w57 own_d18_9 rfl ⟨rfl, rfl⟩ (by decide) (by decide)
theorem own_d17_0 : decode jdk_43_method_2_code 0 = .ok (.iload_n 1, 1) := by decide +kernel
theorem own_d17_1 : decode jdk_43_method_2_code 1 = .ok (.aload_n 0, 1) := by decide +kernel
theorem own_d17_2 : decode jdk_43_method_2_code 2 = .ok (.arraylength, 1) := by decide +kernel
theorem own_d17_3 : decode jdk_43_method_2_code 3 = .ok (.invokestatic 9, 3) := by decide +kernel
theorem own_d17_6 : decode jdk_43_method_2_code 6 = .ok (.aload_n 0, 1) := by decide +kernel
theorem own_d17_7 : decode jdk_43_method_2_code 7 = .ok (.iload_n 1, 1) := by decide +kernel
theorem own_d17_8 : decode jdk_43_method_2_code 8 = .ok (.baload, 1) := by decide +kernel
theorem own_d17_9 : decode jdk_43_method_2_code 9 = .ok (.sipush 255, 3) := by decide +kernel
theorem own_d17_12 : decode jdk_43_method_2_code 12 = .ok (.iand, 1) := by decide +kernel
theorem own_d17_13 : decode jdk_43_method_2_code 13 = .ok (.i2c, 1) := by decide +kernel
theorem own_d17_14 : decode jdk_43_method_2_code 14 = .ok (.ireturn, 1) := by decide +kernel
theorem own_ef_own_d17 (m : MethodId) (x0 : Addr) (x1 : Int32) : entryFrame m #[(.ref x0), (.int x1)] 2 = mkF m 0 #[.val (.ref x0), .val (.int x1)] [] := by
  first | (simp [entryFrame, mkF, argsToLocals, Value.category]; done) | rfl
set_option maxRecDepth 65536 in
set_option maxHeartbeats 40000000 in
theorem own_lCharAt (l : Launch) (Z : State) (a0 : Array Value) (hw : ∀ d ∈ tables_1, d.before a0 Z = true) (t : Addr) (ca : ClassId) (cs : List Nat) (i k : Nat) (G3 : Value) (hG3 : G3.isRef = true) (SF : Sta Z Z.heap "jdk/internal/util/Preconditions" "SIOOBE_FORMATTER" "Ljava/util/function/BiFunction;" G3) (h0 : Heap) (n0 : Nat) (O : Old Z n0 h0) (At : Ary Z h0 t ca .byte (lat cs)) (hci : cs[i]? = some k) (hk : k < 256) :
    Ctr l Z n0 (⟨"java/lang/StringLatin1", "charAt", "([BI)C"⟩ : MethodName) jdk_43_method_2_code 2 (some .char) [] ({ frames := 2, cells := 0, slots := 0, locals := 27 } : Room) #[(.ref t), (.int (Int32.ofNat i))] h0 [] (fun v h => v = some (.int (Int32.ofNat k)) ∧ h0 = h) := by
  refine enter (plainFor_of_name own_pn_java_lang_StringLatin1) (fun m => own_ef_own_d17 m t (Int32.ofNat i)) O (fun _ q => nomatch q) ?_
  intro p e s m below meth c T w
  refine i_iloadN w own_d17_0 rfl (pc' := 1) rfl ?_
  refine i_aloadN w own_d17_1 rfl rfl (pc' := 2) rfl ?_
  refine i_len w own_d17_2 At (z := Int32.ofNat cs.length) (by rw [lat_len]) (pc' := 3) rfl ?_
  refine c_static w (y := (⟨"java/lang/String", "checkIndex", "(II)V"⟩ : MethodName)) (argsL := [(.int (Int32.ofNat i)), (.int (Int32.ofNat cs.length))]) (st := []) own_d17_3 (hw _ (List.mem_of_getElem? (i := 78) rfl)) (hw _ (List.mem_of_getElem? (i := 79) rfl)) (hw _ (List.mem_of_getElem? (i := 5) rfl)) (hw _ (List.mem_of_getElem? (i := 80) rfl)) (by decide) own_pd_pIIqV rfl (own_sCheck l Z a0 hw i cs.length G3 hG3 SF h0 n0 w.old (List.getElem?_eq_some_iff.mp hci).1 (by have := At.1; rw [lat_len] at this; exact this)) rfl (by decide) (W := 0) (Nat.le_of_eq rfl) (by decide) (by decide) (by decide) (fun _ q => nomatch q) (pc' := 6) rfl ?_
  intro v58 T58 h58 w58 K58 q58
  obtain ⟨rfl, rfl⟩ := q58
  show Goes p e below _ T58 (mkF m 6 #[.val (.ref t), .val (.int (Int32.ofNat i))] [])
  refine i_aloadN w58 own_d17_6 rfl rfl (pc' := 7) rfl ?_
  refine i_iloadN w58 own_d17_7 rfl (pc' := 8) rfl ?_
  refine i_baload w58 own_d17_8 At rfl (lat_at hci) (pc' := 9) rfl ?_
  refine i_sipush w58 own_d17_9 (z := (255 : Int32)) (by decide) (pc' := 12) rfl ?_
  refine i_iand w58 own_d17_12 (pc' := 13) rfl ?_
  refine i_i2c w58 own_d17_13 (pc' := 14) rfl ?_
  exact i_retN w58 own_d17_14 rfl (by simp) ⟨by rw [char_idem, bv_char hk], rfl⟩ (by decide) (by decide)
theorem own_d28_0 : decode jdk_52_method_6_code 0 = .ok (.aload_n 0, 1) := by decide +kernel
theorem own_d28_1 : decode jdk_52_method_6_code 1 = .ok (.arraylength, 1) := by decide +kernel
theorem own_d28_2 : decode jdk_52_method_6_code 2 = .ok (.iconst 1, 1) := by decide +kernel
theorem own_d28_3 : decode jdk_52_method_6_code 3 = .ok (.ishr, 1) := by decide +kernel
theorem own_d28_4 : decode jdk_52_method_6_code 4 = .ok (.ireturn, 1) := by decide +kernel
theorem own_pd_pABqI : parseMethodDescriptor "([B)I" = some ⟨[(.array .byte)], some .int⟩ := by decide +kernel
theorem own_ef_own_d28 (m : MethodId) (x0 : Addr) : entryFrame m #[(.ref x0)] 1 = mkF m 0 #[.val (.ref x0)] [] := by
  first | (simp [entryFrame, mkF, argsToLocals, Value.category]; done) | rfl
set_option maxRecDepth 65536 in
set_option maxHeartbeats 40000000 in
theorem own_ulen (l : Launch) (Z : State) (a0 : Array Value) (hw : ∀ d ∈ tables_1, d.before a0 Z = true) (t : Addr) (ca : ClassId) (vs : List Value) (h0 : Heap) (n0 : Nat) (O : Old Z n0 h0) (At : Ary Z h0 t ca .byte vs) :
    Ctr l Z n0 (⟨"java/lang/StringUTF16", "length", "([B)I"⟩ : MethodName) jdk_52_method_6_code 1 (some .int) [] ({ frames := 0, cells := 0, slots := 0, locals := 0 } : Room) #[(.ref t)] h0 [] (fun v h => v = some (.int (Int32.ofNat (vs.length / 2))) ∧ h0 = h) := by
  refine enter (plainFor_of_name own_pn_java_lang_StringUTF16) (fun m => own_ef_own_d28 m t) O (fun _ q => nomatch q) ?_
  intro p e s m below meth c T w
  refine i_aloadN w own_d28_0 rfl rfl (pc' := 1) rfl ?_
  refine i_len w own_d28_1 At rfl (pc' := 2) rfl ?_
  refine i_iconst w own_d28_2 (z := (1 : Int32)) (by decide) (pc' := 3) rfl ?_
  refine i_ishr w own_d28_3 (pc' := 4) rfl ?_
  exact i_retI w own_d28_4 rfl ⟨by rw [shr1 At.1], rfl⟩ (by decide) (by decide)
theorem own_d27_0 : decode jdk_52_method_91_code 0 = .ok (.iload_n 0, 1) := by decide +kernel
theorem own_d27_1 : decode jdk_52_method_91_code 1 = .ok (.aload_n 1, 1) := by decide +kernel
theorem own_d27_2 : decode jdk_52_method_91_code 2 = .ok (.invokestatic 48, 3) := by decide +kernel
theorem own_d27_5 : decode jdk_52_method_91_code 5 = .ok (.invokestatic 414, 3) := by decide +kernel
theorem own_d27_8 : decode jdk_52_method_91_code 8 = .ok (.return_, 1) := by decide +kernel
theorem own_pd_pIABqV : parseMethodDescriptor "(I[B)V" = some ⟨[.int, (.array .byte)], none⟩ := by decide +kernel
theorem own_ef_own_d27 (m : MethodId) (x0 : Int32) (x1 : Addr) : entryFrame m #[(.int x0), (.ref x1)] 2 = mkF m 0 #[.val (.int x0), .val (.ref x1)] [] := by
  first | (simp [entryFrame, mkF, argsToLocals, Value.category]; done) | rfl
set_option maxRecDepth 65536 in
set_option maxHeartbeats 40000000 in
theorem own_uCheck (l : Launch) (Z : State) (a0 : Array Value) (hw : ∀ d ∈ tables_1, d.before a0 Z = true) (t : Addr) (ca : ClassId) (cs : List Nat) (i : Nat) (G3 : Value) (hG3 : G3.isRef = true) (SF : Sta Z Z.heap "jdk/internal/util/Preconditions" "SIOOBE_FORMATTER" "Ljava/util/function/BiFunction;" G3) (h0 : Heap) (n0 : Nat) (O : Old Z n0 h0) (At : Ary Z h0 t ca .byte (wid cs)) (hi : i < cs.length) :
    Ctr l Z n0 (⟨"java/lang/StringUTF16", "checkIndex", "(I[B)V"⟩ : MethodName) jdk_52_method_91_code 2 none [] ({ frames := 2, cells := 0, slots := 0, locals := 27 } : Room) #[(.int (Int32.ofNat i)), (.ref t)] h0 [] (fun v h => v = none ∧ h0 = h) := by
  refine enter (plainFor_of_name own_pn_java_lang_StringUTF16) (fun m => own_ef_own_d27 m (Int32.ofNat i) t) O (fun _ q => nomatch q) ?_
  intro p e s m below meth c T w
  refine i_iloadN w own_d27_0 rfl (pc' := 1) rfl ?_
  refine i_aloadN w own_d27_1 rfl rfl (pc' := 2) rfl ?_
  refine c_static w (y := (⟨"java/lang/StringUTF16", "length", "([B)I"⟩ : MethodName)) (argsL := [(.ref t)]) (st := [(.int (Int32.ofNat i))]) own_d27_2 (hw _ (List.mem_of_getElem? (i := 116) rfl)) (hw _ (List.mem_of_getElem? (i := 117) rfl)) (hw _ (List.mem_of_getElem? (i := 19) rfl)) (hw _ (List.mem_of_getElem? (i := 118) rfl)) (by decide) own_pd_pABqI rfl (own_ulen l Z a0 hw t ca (wid cs) h0 n0 w.old At) rfl (by decide) (W := 1) (Nat.le_of_eq rfl) (by decide) (by decide) (by decide) (fun _ q => nomatch q) (pc' := 5) rfl ?_
  intro v59 T59 h59 w59 K59 q59
  obtain ⟨rfl, rfl⟩ := q59
  show Goes p e below _ T59 (mkF m 5 #[.val (.int (Int32.ofNat i)), .val (.ref t)] [(.int (Int32.ofNat ((wid cs).length / 2))), (.int (Int32.ofNat i))])
  rw [show (wid cs).length / 2 = cs.length by rw [wid_len]; omega]
  show Goes p e below _ T59 (mkF m 5 #[.val (.int (Int32.ofNat i)), .val (.ref t)] [(.int (Int32.ofNat cs.length)), (.int (Int32.ofNat i))])
  refine c_static w59 (y := (⟨"java/lang/String", "checkIndex", "(II)V"⟩ : MethodName)) (argsL := [(.int (Int32.ofNat i)), (.int (Int32.ofNat cs.length))]) (st := []) own_d27_5 (hw _ (List.mem_of_getElem? (i := 119) rfl)) (hw _ (List.mem_of_getElem? (i := 79) rfl)) (hw _ (List.mem_of_getElem? (i := 5) rfl)) (hw _ (List.mem_of_getElem? (i := 80) rfl)) (by decide) own_pd_pIIqV rfl (own_sCheck l Z a0 hw i cs.length G3 hG3 SF h0 n0 w59.old hi (by have := At.1; rw [wid_len] at this; omega)) rfl (by decide) (W := 0) (Nat.le_of_eq rfl) (by decide) (by decide) (by decide) (fun _ q => nomatch q) (pc' := 8) rfl ?_
  intro v60 T60 h60 w60 K60 q60
  obtain ⟨rfl, rfl⟩ := q60
  show Goes p e below _ T60 (mkF m 8 #[.val (.int (Int32.ofNat i)), .val (.ref t)] [])
  exact i_ret0 w60 own_d27_8 rfl ⟨rfl, rfl⟩ (by decide) (by decide)
theorem own_d26_0 : decode jdk_52_method_83_code 0 = .ok (.iload_n 1, 1) := by decide +kernel
theorem own_d26_1 : decode jdk_52_method_83_code 1 = .ok (.aload_n 0, 1) := by decide +kernel
theorem own_d26_2 : decode jdk_52_method_83_code 2 = .ok (.invokestatic 67, 3) := by decide +kernel
theorem own_d26_5 : decode jdk_52_method_83_code 5 = .ok (.aload_n 0, 1) := by decide +kernel
theorem own_d26_6 : decode jdk_52_method_83_code 6 = .ok (.iload_n 1, 1) := by decide +kernel
theorem own_d26_7 : decode jdk_52_method_83_code 7 = .ok (.invokestatic 71, 3) := by decide +kernel
theorem own_d26_10 : decode jdk_52_method_83_code 10 = .ok (.ireturn, 1) := by decide +kernel
theorem own_ef_own_d26 (m : MethodId) (x0 : Addr) (x1 : Int32) : entryFrame m #[(.ref x0), (.int x1)] 2 = mkF m 0 #[.val (.ref x0), .val (.int x1)] [] := by
  first | (simp [entryFrame, mkF, argsToLocals, Value.category]; done) | rfl
set_option maxRecDepth 65536 in
set_option maxHeartbeats 40000000 in
theorem own_uCharAt (l : Launch) (Z : State) (a0 : Array Value) (hw : ∀ d ∈ tables_1, d.before a0 Z = true) (t : Addr) (ca : ClassId) (cs : List Nat) (i k : Nat) (G3 : Value) (hG3 : G3.isRef = true) (SF : Sta Z Z.heap "jdk/internal/util/Preconditions" "SIOOBE_FORMATTER" "Ljava/util/function/BiFunction;" G3) (SA : Sta Z Z.heap "java/lang/StringUTF16" "$assertionsDisabled" "Z" (.int 1)) (SHi : Sta Z Z.heap "java/lang/StringUTF16" "HI_BYTE_SHIFT" "I" (.int 0)) (SLo : Sta Z Z.heap "java/lang/StringUTF16" "LO_BYTE_SHIFT" "I" (.int 8)) (h0 : Heap) (n0 : Nat) (O : Old Z n0 h0) (At : Ary Z h0 t ca .byte (wid cs)) (hci : cs[i]? = some k) (hk : k < 65536) :
    Ctr l Z n0 (⟨"java/lang/StringUTF16", "charAt", "([BI)C"⟩ : MethodName) jdk_52_method_83_code 2 (some .char) [] ({ frames := 3, cells := 0, slots := 0, locals := 40 } : Room) #[(.ref t), (.int (Int32.ofNat i))] h0 [] (fun v h => v = some (.int (Int32.ofNat k)) ∧ h0 = h) := by
  refine enter (plainFor_of_name own_pn_java_lang_StringUTF16) (fun m => own_ef_own_d26 m t (Int32.ofNat i)) O (fun _ q => nomatch q) ?_
  intro p e s m below meth c T w
  refine i_iloadN w own_d26_0 rfl (pc' := 1) rfl ?_
  refine i_aloadN w own_d26_1 rfl rfl (pc' := 2) rfl ?_
  refine c_static w (y := (⟨"java/lang/StringUTF16", "checkIndex", "(I[B)V"⟩ : MethodName)) (argsL := [(.int (Int32.ofNat i)), (.ref t)]) (st := []) own_d26_2 (hw _ (List.mem_of_getElem? (i := 113) rfl)) (hw _ (List.mem_of_getElem? (i := 114) rfl)) (hw _ (List.mem_of_getElem? (i := 19) rfl)) (hw _ (List.mem_of_getElem? (i := 115) rfl)) (by decide) own_pd_pIABqV rfl (own_uCheck l Z a0 hw t ca cs i G3 hG3 SF h0 n0 w.old At (List.getElem?_eq_some_iff.mp hci).1) rfl (by decide) (W := 0) (Nat.le_of_eq rfl) (by decide) (by decide) (by decide) (fun _ q => nomatch q) (pc' := 5) rfl ?_
  intro v61 T61 h61 w61 K61 q61
  obtain ⟨rfl, rfl⟩ := q61
  show Goes p e below _ T61 (mkF m 5 #[.val (.ref t), .val (.int (Int32.ofNat i))] [])
  refine i_aloadN w61 own_d26_5 rfl rfl (pc' := 6) rfl ?_
  refine i_iloadN w61 own_d26_6 rfl (pc' := 7) rfl ?_
  refine c_static w61 (y := (⟨"java/lang/StringUTF16", "getChar", "([BI)C"⟩ : MethodName)) (argsL := [(.ref t), (.int (Int32.ofNat i))]) (st := []) own_d26_7 (hw _ (List.mem_of_getElem? (i := 107) rfl)) (hw _ (List.mem_of_getElem? (i := 108) rfl)) (hw _ (List.mem_of_getElem? (i := 19) rfl)) (hw _ (List.mem_of_getElem? (i := 109) rfl)) (by decide) own_pd_pABIqC rfl (own_getChar l Z a0 hw t ca cs i k SA SHi SLo h0 n0 w61.old At hci hk) rfl (by decide) (W := 0) (Nat.le_of_eq rfl) (by decide) (by decide) (by decide) (fun _ q => nomatch q) (pc' := 10) rfl ?_
  intro v62 T62 h62 w62 K62 q62
  obtain ⟨rfl, rfl⟩ := q62
  show Goes p e below _ T62 (mkF m 10 #[.val (.ref t), .val (.int (Int32.ofNat i))] [(.int (Int32.ofNat k))])
  exact i_retN w62 own_d26_10 rfl (by simp) ⟨by rw [char_of_nat hk], rfl⟩ (by decide) (by decide)
theorem own_d15_0 : decode jdk_42_method_56_code 0 = .ok (.aload_n 0, 1) := by decide +kernel
theorem own_d15_1 : decode jdk_42_method_56_code 1 = .ok (.invokevirtual 492, 3) := by decide +kernel
theorem own_d15_4 : decode jdk_42_method_56_code 4 = .ok (.ifCond .eq 12, 3) := by decide +kernel
theorem own_d15_7 : decode jdk_42_method_56_code 7 = .ok (.aload_n 0, 1) := by decide +kernel
theorem own_d15_8 : decode jdk_42_method_56_code 8 = .ok (.getfield 9, 3) := by decide +kernel
theorem own_d15_11 : decode jdk_42_method_56_code 11 = .ok (.iload_n 1, 1) := by decide +kernel
theorem own_d15_12 : decode jdk_42_method_56_code 12 = .ok (.invokestatic 495, 3) := by decide +kernel
theorem own_d15_15 : decode jdk_42_method_56_code 15 = .ok (.ireturn, 1) := by decide +kernel
theorem own_d15_16 : decode jdk_42_method_56_code 16 = .ok (.aload_n 0, 1) := by decide +kernel
theorem own_d15_17 : decode jdk_42_method_56_code 17 = .ok (.getfield 9, 3) := by decide +kernel
theorem own_d15_20 : decode jdk_42_method_56_code 20 = .ok (.iload_n 1, 1) := by decide +kernel
theorem own_d15_21 : decode jdk_42_method_56_code 21 = .ok (.invokestatic 498, 3) := by decide +kernel
theorem own_d15_24 : decode jdk_42_method_56_code 24 = .ok (.ireturn, 1) := by decide +kernel
theorem own_pd_pIqC : parseMethodDescriptor "(I)C" = some ⟨[.int], some .char⟩ := by decide +kernel
theorem own_ef_own_d15 (m : MethodId) (x0 : Addr) (x1 : Int32) : entryFrame m #[(.ref x0), (.int x1)] 2 = mkF m 0 #[.val (.ref x0), .val (.int x1)] [] := by
  first | (simp [entryFrame, mkF, argsToLocals, Value.category]; done) | rfl
set_option maxRecDepth 65536 in
set_option maxHeartbeats 40000000 in
theorem own_charAt (l : Launch) (Z : State) (a0 : Array Value) (hw : ∀ d ∈ tables_1, d.before a0 Z = true) (a t : Addr) (ca : ClassId) (cs : List Nat) (i k : Nat) (G1 : Int32) (hG : ¬ G1 = 0) (SG : Sta Z Z.heap "java/lang/String" "COMPACT_STRINGS" "Z" (.int G1)) (G3 : Value) (hG3 : G3.isRef = true) (SF : Sta Z Z.heap "jdk/internal/util/Preconditions" "SIOOBE_FORMATTER" "Ljava/util/function/BiFunction;" G3) (SA : Sta Z Z.heap "java/lang/StringUTF16" "$assertionsDisabled" "Z" (.int 1)) (SHi : Sta Z Z.heap "java/lang/StringUTF16" "HI_BYTE_SHIFT" "I" (.int 0)) (SLo : Sta Z Z.heap "java/lang/StringUTF16" "LO_BYTE_SHIFT" "I" (.int 8)) (h0 : Heap) (n0 : Nat) (O : Old Z n0 h0) (S : Str Z h0 a t ca cs) (hci : cs[i]? = some k) :
    Ctr l Z n0 (⟨"java/lang/String", "charAt", "(I)C"⟩ : MethodName) jdk_42_method_56_code 2 (some .char) [] ({ frames := 4, cells := 0, slots := 0, locals := 53 } : Room) #[(.ref a), (.int (Int32.ofNat i))] h0 [] (fun v h => v = some (.int (Int32.ofNat k)) ∧ h0 = h) := by
  refine enter (plainFor_of_name own_pn_java_lang_String) (fun m => own_ef_own_d15 m a (Int32.ofNat i)) O (fun _ q => nomatch q) ?_
  intro p e s m below meth c T w
  refine i_aloadN w own_d15_0 rfl rfl (pc' := 1) rfl ?_
  have hk : k < 65536 := S.c16 k (List.mem_of_getElem? hci)
  obtain ⟨vs, cd, Fc, At, hcd, -, -, hor⟩ := S.raw
  refine c_virtual w (y := (⟨"java/lang/String", "isLatin1", "()Z"⟩ : MethodName)) (C := "java/lang/String") (a := a) (argsL := []) (st := []) own_d15_1 (hw _ (List.mem_of_getElem? (i := 70) rfl)) (hw _ (List.mem_of_getElem? (i := 71) rfl)) (hw _ (List.mem_of_getElem? (i := 73) rfl)) (hw _ (List.mem_of_getElem? (i := 72) rfl)) (hw _ (List.mem_of_getElem? (i := 74) rfl)) (hw _ (List.mem_of_getElem? (i := 5) rfl)) (by decide) own_pd_pqZ rfl S.exa (own_isLatin1 l Z a0 hw a cd G1 hG SG h0 n0 w.old Fc) rfl (by decide) (W := 0) (Nat.le_of_eq rfl) (by decide) (by decide) (by decide) (fun _ q => nomatch q) (pc' := 4) rfl ?_
  intro v63 T63 h63 w63 K63 q63
  obtain ⟨rfl, rfl⟩ := q63
  show Goes p e below _ T63 (mkF m 4 #[.val (.ref a), .val (.int (Int32.ofNat i))] [(.int (if cd = 0 then 1 else 0))])
  rcases hor with ⟨rfl, rfl, hL⟩ | ⟨rfl, rfl⟩
  ·
    show Goes p e below _ T63 (mkF m 4 #[.val (.ref a), .val (.int (Int32.ofNat i))] [(.int (1 : Int32))])
    refine i_if_eq_N w63 (by decide) own_d15_4 (pc' := 7) rfl ?_
    refine i_aloadN w63 own_d15_7 rfl rfl (pc' := 8) rfl ?_
    refine i_getF w63 own_d15_8 (hw _ (List.mem_of_getElem? (i := 30) rfl)) S.val (pc' := 11) rfl ?_
    intro T64 w64
    refine i_iloadN w64 own_d15_11 rfl (pc' := 12) rfl ?_
    refine c_static w64 (y := (⟨"java/lang/StringLatin1", "charAt", "([BI)C"⟩ : MethodName)) (argsL := [(.ref t), (.int (Int32.ofNat i))]) (st := []) own_d15_12 (hw _ (List.mem_of_getElem? (i := 75) rfl)) (hw _ (List.mem_of_getElem? (i := 76) rfl)) (hw _ (List.mem_of_getElem? (i := 37) rfl)) (hw _ (List.mem_of_getElem? (i := 77) rfl)) (by decide) own_pd_pABIqC rfl (own_lCharAt l Z a0 hw t ca cs i k G3 hG3 SF h0 n0 w64.old At hci (hL k (List.mem_of_getElem? hci))) rfl (by decide) (W := 0) (Nat.le_of_eq rfl) (by decide) (by decide) (by decide) (fun _ q => nomatch q) (pc' := 15) rfl ?_
    intro v65 T65 h65 w65 K65 q65
    obtain ⟨rfl, rfl⟩ := q65
    show Goes p e below _ T65 (mkF m 15 #[.val (.ref a), .val (.int (Int32.ofNat i))] [(.int (Int32.ofNat k))])
    exact i_retN w65 own_d15_15 rfl (by simp) ⟨by rw [char_of_nat hk], rfl⟩ (by decide) (by decide)
  ·
    show Goes p e below _ T63 (mkF m 4 #[.val (.ref a), .val (.int (Int32.ofNat i))] [(.int (0 : Int32))])
    refine i_if_eq_Y w63 (by decide) own_d15_4 (pc' := 16) (by decide) ?_
    refine i_aloadN w63 own_d15_16 rfl rfl (pc' := 17) rfl ?_
    refine i_getF w63 own_d15_17 (hw _ (List.mem_of_getElem? (i := 30) rfl)) S.val (pc' := 20) rfl ?_
    intro T66 w66
    refine i_iloadN w66 own_d15_20 rfl (pc' := 21) rfl ?_
    refine c_static w66 (y := (⟨"java/lang/StringUTF16", "charAt", "([BI)C"⟩ : MethodName)) (argsL := [(.ref t), (.int (Int32.ofNat i))]) (st := []) own_d15_21 (hw _ (List.mem_of_getElem? (i := 110) rfl)) (hw _ (List.mem_of_getElem? (i := 111) rfl)) (hw _ (List.mem_of_getElem? (i := 19) rfl)) (hw _ (List.mem_of_getElem? (i := 112) rfl)) (by decide) own_pd_pABIqC rfl (own_uCharAt l Z a0 hw t ca cs i k G3 hG3 SF SA SHi SLo h0 n0 w66.old At hci hk) rfl (by decide) (W := 0) (Nat.le_of_eq rfl) (by decide) (by decide) (by decide) (fun _ q => nomatch q) (pc' := 24) rfl ?_
    intro v67 T67 h67 w67 K67 q67
    obtain ⟨rfl, rfl⟩ := q67
    show Goes p e below _ T67 (mkF m 24 #[.val (.ref a), .val (.int (Int32.ofNat i))] [(.int (Int32.ofNat k))])
    exact i_retN w67 own_d15_24 rfl (by simp) ⟨by rw [char_of_nat hk], rfl⟩ (by decide) (by decide)
theorem own_d20_0 : decode jdk_42_method_66_code 0 = .ok (.aload_n 0, 1) := by decide +kernel
theorem own_d20_1 : decode jdk_42_method_66_code 1 = .ok (.aload_n 1, 1) := by decide +kernel
theorem own_d20_2 : decode jdk_42_method_66_code 2 = .ok (.if_acmp .ne 5, 3) := by decide +kernel
theorem own_d20_5 : decode jdk_42_method_66_code 5 = .ok (.iconst 1, 1) := by decide +kernel
theorem own_d20_6 : decode jdk_42_method_66_code 6 = .ok (.ireturn, 1) := by decide +kernel
theorem own_d20_7 : decode jdk_42_method_66_code 7 = .ok (.aload_n 1, 1) := by decide +kernel
theorem own_d20_8 : decode jdk_42_method_66_code 8 = .ok (.instanceof 10, 3) := by decide +kernel
theorem own_d20_11 : decode jdk_42_method_66_code 11 = .ok (.ifCond .eq 43, 3) := by decide +kernel
theorem own_d20_14 : decode jdk_42_method_66_code 14 = .ok (.aload_n 1, 1) := by decide +kernel
theorem own_d20_15 : decode jdk_42_method_66_code 15 = .ok (.checkcast 10, 3) := by decide +kernel
theorem own_d20_18 : decode jdk_42_method_66_code 18 = .ok (.astore_n 2, 1) := by decide +kernel
theorem own_d20_19 : decode jdk_42_method_66_code 19 = .ok (.getstatic 38, 3) := by decide +kernel
theorem own_d20_22 : decode jdk_42_method_66_code 22 = .ok (.ifCond .eq 14, 3) := by decide +kernel
theorem own_d20_25 : decode jdk_42_method_66_code 25 = .ok (.aload_n 0, 1) := by decide +kernel
theorem own_d20_26 : decode jdk_42_method_66_code 26 = .ok (.getfield 15, 3) := by decide +kernel
theorem own_d20_29 : decode jdk_42_method_66_code 29 = .ok (.aload_n 2, 1) := by decide +kernel
theorem own_d20_30 : decode jdk_42_method_66_code 30 = .ok (.getfield 15, 3) := by decide +kernel
theorem own_d20_33 : decode jdk_42_method_66_code 33 = .ok (.if_icmp .ne 21, 3) := by decide +kernel
theorem own_d20_36 : decode jdk_42_method_66_code 36 = .ok (.aload_n 0, 1) := by decide +kernel
theorem own_d20_37 : decode jdk_42_method_66_code 37 = .ok (.getfield 9, 3) := by decide +kernel
theorem own_d20_40 : decode jdk_42_method_66_code 40 = .ok (.aload_n 2, 1) := by decide +kernel
theorem own_d20_41 : decode jdk_42_method_66_code 41 = .ok (.getfield 9, 3) := by decide +kernel
theorem own_d20_44 : decode jdk_42_method_66_code 44 = .ok (.invokestatic 541, 3) := by decide +kernel
theorem own_d20_47 : decode jdk_42_method_66_code 47 = .ok (.ifCond .eq 7, 3) := by decide +kernel
theorem own_d20_50 : decode jdk_42_method_66_code 50 = .ok (.iconst 1, 1) := by decide +kernel
theorem own_d20_51 : decode jdk_42_method_66_code 51 = .ok (.goto 4, 3) := by decide +kernel
theorem own_d20_54 : decode jdk_42_method_66_code 54 = .ok (.iconst 0, 1) := by decide +kernel
theorem own_d20_55 : decode jdk_42_method_66_code 55 = .ok (.ireturn, 1) := by decide +kernel
theorem own_pd_pLjava_lang_ObjecteqZ : parseMethodDescriptor "(Ljava/lang/Object;)Z" = some ⟨[(.object "java/lang/Object")], some .boolean⟩ := by decide +kernel
theorem own_ef_own_d20 (m : MethodId) (x0 : Addr) (x1 : Addr) : entryFrame m #[(.ref x0), (.ref x1)] 3 = mkF m 0 #[.val (.ref x0), .val (.ref x1), .unset] [] := by
  first | (simp [entryFrame, mkF, argsToLocals, Value.category]; done) | rfl
set_option maxRecDepth 65536 in
set_option maxHeartbeats 40000000 in
theorem own_equalsSame (l : Launch) (Z : State) (a0 : Array Value) (hw : ∀ d ∈ tables_1, d.before a0 Z = true) (a : Addr) (h0 : Heap) (n0 : Nat) (O : Old Z n0 h0)  :
    Ctr l Z n0 (⟨"java/lang/String", "equals", "(Ljava/lang/Object;)Z"⟩ : MethodName) jdk_42_method_66_code 3 (some .boolean) [] ({ frames := 0, cells := 0, slots := 0, locals := 0 } : Room) #[(.ref a), (.ref a)] h0 [] (fun v h => v = some (.int 1) ∧ h0 = h) := by
  refine enter (plainFor_of_name own_pn_java_lang_String) (fun m => own_ef_own_d20 m a a) O (fun _ q => nomatch q) ?_
  intro p e s m below meth c T w
  refine i_aloadN w own_d20_0 rfl rfl (pc' := 1) rfl ?_
  refine i_aloadN w own_d20_1 rfl rfl (pc' := 2) rfl ?_
  refine i_acmp_ne_N w rfl rfl (by simp [XT.acmp]) own_d20_2 (pc' := 5) rfl ?_
  refine i_iconst w own_d20_5 (z := (1 : Int32)) (by decide) (pc' := 6) rfl ?_
  exact i_retN w own_d20_6 rfl (by simp) ⟨rfl, rfl⟩ (by decide) (by decide)
theorem own_d11_0 : decode prog_21_method_11_code 0 = .ok (.aload_n 0, 1) := by decide +kernel
theorem own_d11_1 : decode prog_21_method_11_code 1 = .ok (.invokevirtual 146, 3) := by decide +kernel
theorem own_d11_4 : decode prog_21_method_11_code 4 = .ok (.ifCond .eq 24, 3) := by decide +kernel
theorem own_d11_7 : decode prog_21_method_11_code 7 = .ok (.new 62, 3) := by decide +kernel
theorem own_d11_10 : decode prog_21_method_11_code 10 = .ok (.dup, 1) := by decide +kernel
theorem own_d11_11 : decode prog_21_method_11_code 11 = .ok (.ldc 227, 2) := by decide +kernel
theorem own_d11_13 : decode prog_21_method_11_code 13 = .ok (.iconst 1, 1) := by decide +kernel
theorem own_d11_14 : decode prog_21_method_11_code 14 = .ok (.anewarray 2, 3) := by decide +kernel
theorem own_d11_17 : decode prog_21_method_11_code 17 = .ok (.dup, 1) := by decide +kernel
theorem own_d11_18 : decode prog_21_method_11_code 18 = .ok (.iconst 0, 1) := by decide +kernel
theorem own_d11_19 : decode prog_21_method_11_code 19 = .ok (.aload_n 1, 1) := by decide +kernel
theorem own_d11_20 : decode prog_21_method_11_code 20 = .ok (.aastore, 1) := by decide +kernel
theorem own_d11_21 : decode prog_21_method_11_code 21 = .ok (.invokevirtual 109, 3) := by decide +kernel
theorem own_d11_24 : decode prog_21_method_11_code 24 = .ok (.invokespecial 113, 3) := by decide +kernel
theorem own_d11_27 : decode prog_21_method_11_code 27 = .ok (.athrow, 1) := by decide +kernel
theorem own_d11_28 : decode prog_21_method_11_code 28 = .ok (.aload_n 0, 1) := by decide +kernel
theorem own_d11_29 : decode prog_21_method_11_code 29 = .ok (.areturn, 1) := by decide +kernel
theorem own_pn_com_example_indexweave_indexweave_core_Lines : plainName "com/example/indexweave/indexweave/core/Lines" = true := by first | (simp [plainName, overriddenIn]; done) | decide +kernel
theorem own_pd_pLjava_lang_StringeLjava_lang_StringeqLjava_lang_Stringe : parseMethodDescriptor "(Ljava/lang/String;Ljava/lang/String;)Ljava/lang/String;" = some ⟨[(.object "java/lang/String"), (.object "java/lang/String")], some (.object "java/lang/String")⟩ := by decide +kernel
theorem own_ef_own_d11 (m : MethodId) (x0 : Addr) (x1 : Addr) : entryFrame m #[(.ref x0), (.ref x1)] 2 = mkF m 0 #[.val (.ref x0), .val (.ref x1)] [] := by
  first | (simp [entryFrame, mkF, argsToLocals, Value.category]; done) | rfl
set_option maxRecDepth 65536 in
set_option maxHeartbeats 40000000 in
theorem own_id (l : Launch) (Z : State) (a0 : Array Value) (hw : ∀ d ∈ tables_1, d.before a0 Z = true) (a t u : Addr) (ca : ClassId) (cs : List Nat) (h0 : Heap) (n0 : Nat) (O : Old Z n0 h0) (S : Str Z h0 a t ca cs) (hne : ¬ cs.length = 0) :
    Ctr l Z n0 (⟨"com/example/indexweave/indexweave/core/Lines", "id", "(Ljava/lang/String;Ljava/lang/String;)Ljava/lang/String;"⟩ : MethodName) prog_21_method_11_code 2 (some (.object "java/lang/String")) [] ({ frames := 1, cells := 0, slots := 0, locals := 12 } : Room) #[(.ref a), (.ref u)] h0 [] (fun v h => v = some (.ref a) ∧ h0 = h) := by
  refine enter (plainFor_of_name own_pn_com_example_indexweave_indexweave_core_Lines) (fun m => own_ef_own_d11 m a u) O (fun _ q => nomatch q) ?_
  intro p e s m below meth c T w
  refine i_aloadN w own_d11_0 rfl rfl (pc' := 1) rfl ?_
  refine c_virtual w (y := (⟨"java/lang/String", "isEmpty", "()Z"⟩ : MethodName)) (C := "java/lang/String") (a := a) (argsL := []) (st := []) own_d11_1 (hw _ (List.mem_of_getElem? (i := 50) rfl)) (hw _ (List.mem_of_getElem? (i := 51) rfl)) (hw _ (List.mem_of_getElem? (i := 53) rfl)) (hw _ (List.mem_of_getElem? (i := 52) rfl)) (hw _ (List.mem_of_getElem? (i := 54) rfl)) (hw _ (List.mem_of_getElem? (i := 5) rfl)) (by decide) own_pd_pqZ rfl S.exa (own_isEmpty l Z a0 hw a t ca cs h0 n0 w.old S) rfl (by decide) (W := 0) (Nat.le_of_eq rfl) (by decide) (by decide) (by decide) (fun _ q => nomatch q) (pc' := 4) rfl ?_
  intro v68 T68 h68 w68 K68 q68
  obtain ⟨rfl, rfl⟩ := q68
  show Goes p e below _ T68 (mkF m 4 #[.val (.ref a), .val (.ref u)] [(.int (if cs.length = 0 then 1 else 0))])
  rw [if_neg hne]
  show Goes p e below _ T68 (mkF m 4 #[.val (.ref a), .val (.ref u)] [(.int (0 : Int32))])
  refine i_if_eq_Y w68 rfl own_d11_4 (pc' := 28) (by decide) ?_
  refine i_aloadN w68 own_d11_28 rfl rfl (pc' := 29) rfl ?_
  exact i_retA w68 own_d11_29 rfl rfl rfl ⟨rfl, rfl⟩ (by decide) (by decide)
theorem own_pn_com_example_indexweave_indexweave_core_LinesIdPinLaw : plainName "com/example/indexweave/indexweave/core/LinesIdPinLaw" = true := by first | (simp [plainName, overriddenIn]; done) | decide +kernel
theorem own_ef_at (m : MethodId) (x0 : Int32) (x1 : Int32) (x2 : Int32) (x3 : Int32) (x4 : Int32) : entryFrame m #[(.int x0), (.int x1), (.int x2), (.int x3), (.int x4)] maxLocals = mkF m 0 #[.val (.int x0), .val (.int x1), .val (.int x2), .val (.int x3), .val (.int x4), .unset, .unset, .unset, .unset, .unset, .unset, .unset, .unset, .unset, .unset] [] := by
  first | (simp [entryFrame, mkF, argsToLocals, Value.category, maxLocals]; done) | rfl
set_option maxRecDepth 65536 in
set_option maxHeartbeats 40000000 in
theorem own_law (l : Launch) (Z : State) (a0 : Array Value) (hw : ∀ d ∈ tables_1, d.before a0 Z = true) (y0 y1 y2 y3 y4 : Int32) (G1 : Int32) (hG : ¬ G1 = 0) (SG : Sta Z Z.heap "java/lang/String" "COMPACT_STRINGS" "Z" (.int G1)) (G3 : Value) (hG3 : G3.isRef = true) (SF : Sta Z Z.heap "jdk/internal/util/Preconditions" "SIOOBE_FORMATTER" "Ljava/util/function/BiFunction;" G3) (SA : Sta Z Z.heap "java/lang/StringUTF16" "$assertionsDisabled" "Z" (.int 1)) (SHi : Sta Z Z.heap "java/lang/StringUTF16" "HI_BYTE_SHIFT" "I" (.int 0)) (SLo : Sta Z Z.heap "java/lang/StringUTF16" "LO_BYTE_SHIFT" "I" (.int 8)) (h0 : Heap) (n0 : Nat) (O : Old Z n0 h0)  :
    Ctr l Z n0 x code maxLocals ret tables_1 room_1 #[(.int y0), (.int y1), (.int y2), (.int y3), (.int y4)] h0 [] (fun v h => v = some (.int 1)) := by
  refine enter (plainFor_of_name own_pn_com_example_indexweave_indexweave_core_LinesIdPinLaw) (fun m => own_ef_at m y0 y1 y2 y3 y4) O (fun _ q => nomatch q) ?_
  intro p e s m below meth c T w
  refine i_iconst w at_0 (z := (1 : Int32)) (by decide) (pc' := 1) rfl ?_
  refine i_iloadN w at_1 rfl (pc' := 2) rfl ?_
  refine i_ldcI w (hw _ (List.mem_of_getElem? (i := 0) rfl)) at_2 (pc' := 4) rfl ?_
  refine i_iand w at_4 (pc' := 5) rfl ?_
  refine i_iconst w at_5 (z := (3 : Int32)) (by decide) (pc' := 6) rfl ?_
  refine i_irem w at_6 (by decide) (pc' := 7) rfl ?_
  refine i_iadd w at_7 (pc' := 8) rfl ?_
  refine i_istore w at_8 (l' := #[.val (.int y0), .val (.int y1), .val (.int y2), .val (.int y3), .val (.int y4), .val (.int ((1 : Int32) + ((y3 &&& (2147483647 : Int32)) % (3 : Int32)))), .unset, .unset, .unset, .unset, .unset, .unset, .unset, .unset, .unset]) rfl (pc' := 10) rfl ?_
  refine i_iloadN w at_10 rfl (pc' := 11) rfl ?_
  refine i_ldcI w (hw _ (List.mem_of_getElem? (i := 1) rfl)) at_11 (pc' := 13) rfl ?_
  refine i_iand w at_13 (pc' := 14) rfl ?_
  refine i_i2c w at_14 (pc' := 15) rfl ?_
  obtain ⟨ka, hka, eka⟩ := char_nat (y0 &&& (65535 : Int32))
  rw [eka]
  show Goes p e below _ T (mkF m 15 #[.val (.int y0), .val (.int y1), .val (.int y2), .val (.int y3), .val (.int y4), .val (.int ((1 : Int32) + ((y3 &&& (2147483647 : Int32)) % (3 : Int32)))), .unset, .unset, .unset, .unset, .unset, .unset, .unset, .unset, .unset] [(.int (Int32.ofNat ka))])
  refine i_istore w at_15 (l' := #[.val (.int y0), .val (.int y1), .val (.int y2), .val (.int y3), .val (.int y4), .val (.int ((1 : Int32) + ((y3 &&& (2147483647 : Int32)) % (3 : Int32)))), .val (.int (Int32.ofNat ka)), .unset, .unset, .unset, .unset, .unset, .unset, .unset, .unset]) rfl (pc' := 17) rfl ?_
  refine i_iloadN w at_17 rfl (pc' := 18) rfl ?_
  refine i_ldcI w (hw _ (List.mem_of_getElem? (i := 1) rfl)) at_18 (pc' := 20) rfl ?_
  refine i_iand w at_20 (pc' := 21) rfl ?_
  refine i_i2c w at_21 (pc' := 22) rfl ?_
  obtain ⟨kb, hkb, ekb⟩ := char_nat (y1 &&& (65535 : Int32))
  rw [ekb]
  show Goes p e below _ T (mkF m 22 #[.val (.int y0), .val (.int y1), .val (.int y2), .val (.int y3), .val (.int y4), .val (.int ((1 : Int32) + ((y3 &&& (2147483647 : Int32)) % (3 : Int32)))), .val (.int (Int32.ofNat ka)), .unset, .unset, .unset, .unset, .unset, .unset, .unset, .unset] [(.int (Int32.ofNat kb))])
  refine i_istore w at_22 (l' := #[.val (.int y0), .val (.int y1), .val (.int y2), .val (.int y3), .val (.int y4), .val (.int ((1 : Int32) + ((y3 &&& (2147483647 : Int32)) % (3 : Int32)))), .val (.int (Int32.ofNat ka)), .val (.int (Int32.ofNat kb)), .unset, .unset, .unset, .unset, .unset, .unset, .unset]) rfl (pc' := 24) rfl ?_
  refine i_iloadN w at_24 rfl (pc' := 25) rfl ?_
  refine i_ldcI w (hw _ (List.mem_of_getElem? (i := 1) rfl)) at_25 (pc' := 27) rfl ?_
  refine i_iand w at_27 (pc' := 28) rfl ?_
  refine i_i2c w at_28 (pc' := 29) rfl ?_
  obtain ⟨kc, hkc, ekc⟩ := char_nat (y2 &&& (65535 : Int32))
  rw [ekc]
  show Goes p e below _ T (mkF m 29 #[.val (.int y0), .val (.int y1), .val (.int y2), .val (.int y3), .val (.int y4), .val (.int ((1 : Int32) + ((y3 &&& (2147483647 : Int32)) % (3 : Int32)))), .val (.int (Int32.ofNat ka)), .val (.int (Int32.ofNat kb)), .unset, .unset, .unset, .unset, .unset, .unset, .unset] [(.int (Int32.ofNat kc))])
  refine i_istore w at_29 (l' := #[.val (.int y0), .val (.int y1), .val (.int y2), .val (.int y3), .val (.int y4), .val (.int ((1 : Int32) + ((y3 &&& (2147483647 : Int32)) % (3 : Int32)))), .val (.int (Int32.ofNat ka)), .val (.int (Int32.ofNat kb)), .val (.int (Int32.ofNat kc)), .unset, .unset, .unset, .unset, .unset, .unset]) rfl (pc' := 31) rfl ?_
  refine i_iconst w at_31 (z := (1 : Int32)) (by decide) (pc' := 32) rfl ?_
  refine i_newP w at_32 (hw _ (List.mem_of_getElem? (i := 2) rfl)) (N := 1) rfl (by decide) (cap := 1) (by decide) (by decide) (by decide) (by decide) (pc' := 34) rfl ?_
  intro b1 T69 h69 ca_b1 g_b1 w69 z_b1 E69 A_b1
  show Goes p e below _ T69 (mkF m 34 #[.val (.int y0), .val (.int y1), .val (.int y2), .val (.int y3), .val (.int y4), .val (.int ((1 : Int32) + ((y3 &&& (2147483647 : Int32)) % (3 : Int32)))), .val (.int (Int32.ofNat ka)), .val (.int (Int32.ofNat kb)), .val (.int (Int32.ofNat kc)), .unset, .unset, .unset, .unset, .unset, .unset] [(.ref b1)])
  refine i_dup w69 at_34 rfl (pc' := 35) rfl ?_
  refine i_iconst w69 at_35 (z := (0 : Int32)) (by decide) (pc' := 36) rfl ?_
  refine i_iload w69 at_36 rfl (pc' := 38) rfl ?_
  refine i_castore w69 at_38 A_b1 (i := 0) rfl (Nat.le_of_ble_eq_true rfl) (Or.inr z_b1) (pc' := 39) rfl ?_
  intro T71 h71 w71 K71 A_b1_0
  show Goes p e below _ T71 (mkF m 39 #[.val (.int y0), .val (.int y1), .val (.int y2), .val (.int y3), .val (.int y4), .val (.int ((1 : Int32) + ((y3 &&& (2147483647 : Int32)) % (3 : Int32)))), .val (.int (Int32.ofNat ka)), .val (.int (Int32.ofNat kb)), .val (.int (Int32.ofNat kc)), .unset, .unset, .unset, .unset, .unset, .unset] [(.ref b1)])
  rw [char_of_nat hka] at A_b1_0
  refine i_astore w71 at_39 rfl (l' := #[.val (.int y0), .val (.int y1), .val (.int y2), .val (.int y3), .val (.int y4), .val (.int ((1 : Int32) + ((y3 &&& (2147483647 : Int32)) % (3 : Int32)))), .val (.int (Int32.ofNat ka)), .val (.int (Int32.ofNat kb)), .val (.int (Int32.ofNat kc)), .val (.ref b1), .unset, .unset, .unset, .unset, .unset]) rfl (pc' := 41) rfl ?_
  refine i_iconst w71 at_41 (z := (2 : Int32)) (by decide) (pc' := 42) rfl ?_
  refine i_newP w71 at_42 (hw _ (List.mem_of_getElem? (i := 2) rfl)) (N := 2) rfl (by decide) (cap := 2) (by decide) (by decide) (by decide) (by decide) (pc' := 44) rfl ?_
  intro b2 T73 h73 ca_b2 g_b2 w73 z_b2 E73 A_b2
  show Goes p e below _ T73 (mkF m 44 #[.val (.int y0), .val (.int y1), .val (.int y2), .val (.int y3), .val (.int y4), .val (.int ((1 : Int32) + ((y3 &&& (2147483647 : Int32)) % (3 : Int32)))), .val (.int (Int32.ofNat ka)), .val (.int (Int32.ofNat kb)), .val (.int (Int32.ofNat kc)), .val (.ref b1), .unset, .unset, .unset, .unset, .unset] [(.ref b2)])
  have lt_b1_b2 : b1 < b2 := Nat.lt_of_lt_of_le A_b1_0.lt (Nat.le_of_eq g_b2.symm)
  have A_b1_74 := A_b1_0.ext E73
  refine i_dup w73 at_44 rfl (pc' := 45) rfl ?_
  refine i_iconst w73 at_45 (z := (0 : Int32)) (by decide) (pc' := 46) rfl ?_
  refine i_iload w73 at_46 rfl (pc' := 48) rfl ?_
  refine i_castore w73 at_48 A_b2 (i := 0) rfl (Nat.le_of_ble_eq_true rfl) (Or.inr z_b2) (pc' := 49) rfl ?_
  intro T75 h75 w75 K75 A_b2_0
  show Goes p e below _ T75 (mkF m 49 #[.val (.int y0), .val (.int y1), .val (.int y2), .val (.int y3), .val (.int y4), .val (.int ((1 : Int32) + ((y3 &&& (2147483647 : Int32)) % (3 : Int32)))), .val (.int (Int32.ofNat ka)), .val (.int (Int32.ofNat kb)), .val (.int (Int32.ofNat kc)), .val (.ref b1), .unset, .unset, .unset, .unset, .unset] [(.ref b2)])
  have A_b1_76 := A_b1_74.keep K75 (ninS (Nat.ne_of_lt lt_b1_b2) nin0)
  rw [char_of_nat hka] at A_b2_0
  refine i_dup w75 at_49 rfl (pc' := 50) rfl ?_
  refine i_iconst w75 at_50 (z := (1 : Int32)) (by decide) (pc' := 51) rfl ?_
  refine i_iload w75 at_51 rfl (pc' := 53) rfl ?_
  refine i_castore w75 at_53 A_b2_0 (i := 1) rfl (Nat.le_of_ble_eq_true rfl) (Or.inr z_b2) (pc' := 54) rfl ?_
  intro T77 h77 w77 K77 A_b2_1
  show Goes p e below _ T77 (mkF m 54 #[.val (.int y0), .val (.int y1), .val (.int y2), .val (.int y3), .val (.int y4), .val (.int ((1 : Int32) + ((y3 &&& (2147483647 : Int32)) % (3 : Int32)))), .val (.int (Int32.ofNat ka)), .val (.int (Int32.ofNat kb)), .val (.int (Int32.ofNat kc)), .val (.ref b1), .unset, .unset, .unset, .unset, .unset] [(.ref b2)])
  have A_b1_78 := A_b1_76.keep K77 (ninS (Nat.ne_of_lt lt_b1_b2) nin0)
  rw [char_of_nat hkb] at A_b2_1
  refine i_astore w77 at_54 rfl (l' := #[.val (.int y0), .val (.int y1), .val (.int y2), .val (.int y3), .val (.int y4), .val (.int ((1 : Int32) + ((y3 &&& (2147483647 : Int32)) % (3 : Int32)))), .val (.int (Int32.ofNat ka)), .val (.int (Int32.ofNat kb)), .val (.int (Int32.ofNat kc)), .val (.ref b1), .val (.ref b2), .unset, .unset, .unset, .unset]) rfl (pc' := 56) rfl ?_
  refine i_iconst w77 at_56 (z := (3 : Int32)) (by decide) (pc' := 57) rfl ?_
  refine i_newP w77 at_57 (hw _ (List.mem_of_getElem? (i := 2) rfl)) (N := 3) rfl (by decide) (cap := 3) (by decide) (by decide) (by decide) (by decide) (pc' := 59) rfl ?_
  intro b3 T79 h79 ca_b3 g_b3 w79 z_b3 E79 A_b3
  show Goes p e below _ T79 (mkF m 59 #[.val (.int y0), .val (.int y1), .val (.int y2), .val (.int y3), .val (.int y4), .val (.int ((1 : Int32) + ((y3 &&& (2147483647 : Int32)) % (3 : Int32)))), .val (.int (Int32.ofNat ka)), .val (.int (Int32.ofNat kb)), .val (.int (Int32.ofNat kc)), .val (.ref b1), .val (.ref b2), .unset, .unset, .unset, .unset] [(.ref b3)])
  have lt_b1_b3 : b1 < b3 := Nat.lt_of_lt_of_le A_b1_78.lt (Nat.le_of_eq g_b3.symm)
  have lt_b2_b3 : b2 < b3 := Nat.lt_of_lt_of_le A_b2_1.lt (Nat.le_of_eq g_b3.symm)
  have A_b1_80 := A_b1_78.ext E79
  have A_b2_80 := A_b2_1.ext E79
  refine i_dup w79 at_59 rfl (pc' := 60) rfl ?_
  refine i_iconst w79 at_60 (z := (0 : Int32)) (by decide) (pc' := 61) rfl ?_
  refine i_iload w79 at_61 rfl (pc' := 63) rfl ?_
  refine i_castore w79 at_63 A_b3 (i := 0) rfl (Nat.le_of_ble_eq_true rfl) (Or.inr z_b3) (pc' := 64) rfl ?_
  intro T81 h81 w81 K81 A_b3_0
  show Goes p e below _ T81 (mkF m 64 #[.val (.int y0), .val (.int y1), .val (.int y2), .val (.int y3), .val (.int y4), .val (.int ((1 : Int32) + ((y3 &&& (2147483647 : Int32)) % (3 : Int32)))), .val (.int (Int32.ofNat ka)), .val (.int (Int32.ofNat kb)), .val (.int (Int32.ofNat kc)), .val (.ref b1), .val (.ref b2), .unset, .unset, .unset, .unset] [(.ref b3)])
  have A_b1_82 := A_b1_80.keep K81 (ninS (Nat.ne_of_lt lt_b1_b3) nin0)
  have A_b2_82 := A_b2_80.keep K81 (ninS (Nat.ne_of_lt lt_b2_b3) nin0)
  rw [char_of_nat hka] at A_b3_0
  refine i_dup w81 at_64 rfl (pc' := 65) rfl ?_
  refine i_iconst w81 at_65 (z := (1 : Int32)) (by decide) (pc' := 66) rfl ?_
  refine i_iload w81 at_66 rfl (pc' := 68) rfl ?_
  refine i_castore w81 at_68 A_b3_0 (i := 1) rfl (Nat.le_of_ble_eq_true rfl) (Or.inr z_b3) (pc' := 69) rfl ?_
  intro T83 h83 w83 K83 A_b3_1
  show Goes p e below _ T83 (mkF m 69 #[.val (.int y0), .val (.int y1), .val (.int y2), .val (.int y3), .val (.int y4), .val (.int ((1 : Int32) + ((y3 &&& (2147483647 : Int32)) % (3 : Int32)))), .val (.int (Int32.ofNat ka)), .val (.int (Int32.ofNat kb)), .val (.int (Int32.ofNat kc)), .val (.ref b1), .val (.ref b2), .unset, .unset, .unset, .unset] [(.ref b3)])
  have A_b1_84 := A_b1_82.keep K83 (ninS (Nat.ne_of_lt lt_b1_b3) nin0)
  have A_b2_84 := A_b2_82.keep K83 (ninS (Nat.ne_of_lt lt_b2_b3) nin0)
  rw [char_of_nat hkb] at A_b3_1
  refine i_dup w83 at_69 rfl (pc' := 70) rfl ?_
  refine i_iconst w83 at_70 (z := (2 : Int32)) (by decide) (pc' := 71) rfl ?_
  refine i_iload w83 at_71 rfl (pc' := 73) rfl ?_
  refine i_castore w83 at_73 A_b3_1 (i := 2) rfl (Nat.le_of_ble_eq_true rfl) (Or.inr z_b3) (pc' := 74) rfl ?_
  intro T85 h85 w85 K85 A_b3_2
  show Goes p e below _ T85 (mkF m 74 #[.val (.int y0), .val (.int y1), .val (.int y2), .val (.int y3), .val (.int y4), .val (.int ((1 : Int32) + ((y3 &&& (2147483647 : Int32)) % (3 : Int32)))), .val (.int (Int32.ofNat ka)), .val (.int (Int32.ofNat kb)), .val (.int (Int32.ofNat kc)), .val (.ref b1), .val (.ref b2), .unset, .unset, .unset, .unset] [(.ref b3)])
  have A_b1_86 := A_b1_84.keep K85 (ninS (Nat.ne_of_lt lt_b1_b3) nin0)
  have A_b2_86 := A_b2_84.keep K85 (ninS (Nat.ne_of_lt lt_b2_b3) nin0)
  rw [char_of_nat hkc] at A_b3_2
  refine i_astore w85 at_74 rfl (l' := #[.val (.int y0), .val (.int y1), .val (.int y2), .val (.int y3), .val (.int y4), .val (.int ((1 : Int32) + ((y3 &&& (2147483647 : Int32)) % (3 : Int32)))), .val (.int (Int32.ofNat ka)), .val (.int (Int32.ofNat kb)), .val (.int (Int32.ofNat kc)), .val (.ref b1), .val (.ref b2), .val (.ref b3), .unset, .unset, .unset]) rfl (pc' := 76) rfl ?_
  rcases own_three y3 with e5 | e5 | e5
  ·
    rw [e5]
    show Goes p e below _ T85 (mkF m 76 #[.val (.int y0), .val (.int y1), .val (.int y2), .val (.int y3), .val (.int y4), .val (.int (1 : Int32)), .val (.int (Int32.ofNat ka)), .val (.int (Int32.ofNat kb)), .val (.int (Int32.ofNat kc)), .val (.ref b1), .val (.ref b2), .val (.ref b3), .unset, .unset, .unset] [])
    refine i_iload w85 at_76 rfl (pc' := 78) rfl ?_
    refine i_iconst w85 at_78 (z := (1 : Int32)) (by decide) (pc' := 79) rfl ?_
    refine i_icmp_ne_N w85 (by decide) at_79 (pc' := 82) rfl ?_
    refine i_new w85 at_82 (hw _ (List.mem_of_getElem? (i := 3) rfl)) (hw _ (List.mem_of_getElem? (i := 4) rfl)) (hw _ (List.mem_of_getElem? (i := 5) rfl)) (by decide) (by decide) (pc' := 85) rfl ?_
    intro a T87 h87 g_a w87 z_a E87 A_a D_a
    show Goes p e below _ T87 (mkF m 85 #[.val (.int y0), .val (.int y1), .val (.int y2), .val (.int y3), .val (.int y4), .val (.int (1 : Int32)), .val (.int (Int32.ofNat ka)), .val (.int (Int32.ofNat kb)), .val (.int (Int32.ofNat kc)), .val (.ref b1), .val (.ref b2), .val (.ref b3), .unset, .unset, .unset] [(.ref a)])
    have lt_b1_a : b1 < a := Nat.lt_of_lt_of_le A_b1_86.lt (Nat.le_of_eq g_a.symm)
    have lt_b2_a : b2 < a := Nat.lt_of_lt_of_le A_b2_86.lt (Nat.le_of_eq g_a.symm)
    have lt_b3_a : b3 < a := Nat.lt_of_lt_of_le A_b3_2.lt (Nat.le_of_eq g_a.symm)
    have A_b1_88 := A_b1_86.ext E87
    have A_b2_88 := A_b2_86.ext E87
    have A_b3_88 := A_b3_2.ext E87
    have Fv_a : Fld Z h87 a ST "value" "[B" .null := D_a (Or.inr (hw _ (List.mem_of_getElem? (i := 31) rfl))) (ty := .array .byte) (by decide)
    have Fc_a : Fld Z h87 a ST "coder" "B" (.int 0) := D_a (Or.inr (hw _ (List.mem_of_getElem? (i := 29) rfl))) (ty := .byte) (by decide)
    refine i_dup w87 at_85 rfl (pc' := 86) rfl ?_
    refine i_aload w87 at_86 rfl rfl (pc' := 88) rfl ?_
    refine c_special w87 (y := (⟨"java/lang/String", "<init>", "([C)V"⟩ : MethodName)) (a := a) (argsL := [(.ref b1)]) (st := [(.ref a)]) at_88 rfl (hw _ (List.mem_of_getElem? (i := 6) rfl)) (hw _ (List.mem_of_getElem? (i := 7) rfl)) (hw _ (List.mem_of_getElem? (i := 5) rfl)) (hw _ (List.mem_of_getElem? (i := 8) rfl)) (by decide) own_pd_pACqV rfl (own_new1 l Z a0 hw a b1 ca_b1 [ka] G1 hG SG SA SHi SLo h87 n0 w87.old (Nat.le_trans w87.n0h0 z_a) (fun c hc => by simp at hc; omega) (Nat.le_of_ble_eq_true rfl) (Nat.le_of_ble_eq_true rfl) A_a Fv_a Fc_a A_b1_88) rfl (by decide) (W := 1) (Nat.le_of_eq rfl) (by decide) (by decide) (by decide) (allS (Or.inr z_a) all0) (pc' := 91) rfl ?_
    intro v89 T89 h89 w89 K89 q89
    obtain ⟨rfl, t, ct, zt, St⟩ := q89
    show Goes p e below _ T89 (mkF m 91 #[.val (.int y0), .val (.int y1), .val (.int y2), .val (.int y3), .val (.int y4), .val (.int (1 : Int32)), .val (.int (Int32.ofNat ka)), .val (.int (Int32.ofNat kb)), .val (.int (Int32.ofNat kc)), .val (.ref b1), .val (.ref b2), .val (.ref b3), .unset, .unset, .unset] [(.ref a)])
    have lt_b1_t : b1 < t := Nat.lt_of_lt_of_le A_b1_88.lt zt
    have lt_b2_t : b2 < t := Nat.lt_of_lt_of_le A_b2_88.lt zt
    have lt_b3_t : b3 < t := Nat.lt_of_lt_of_le A_b3_88.lt zt
    have lt_a_t : a < t := Nat.lt_of_lt_of_le A_a.lt zt
    have A_b1_90 := A_b1_88.keep K89 (ninS (Nat.ne_of_lt lt_b1_a) nin0)
    have A_b2_90 := A_b2_88.keep K89 (ninS (Nat.ne_of_lt lt_b2_a) nin0)
    have A_b3_90 := A_b3_88.keep K89 (ninS (Nat.ne_of_lt lt_b3_a) nin0)
    have E_a_90 := A_a.keep K89
    refine i_astore w89 at_91 rfl (l' := #[.val (.int y0), .val (.int y1), .val (.int y2), .val (.int y3), .val (.int y4), .val (.int (1 : Int32)), .val (.int (Int32.ofNat ka)), .val (.int (Int32.ofNat kb)), .val (.int (Int32.ofNat kc)), .val (.ref b1), .val (.ref b2), .val (.ref b3), .val (.ref a), .unset, .unset]) rfl (pc' := 93) rfl ?_
    refine i_goto w89 at_93 (pc' := 127) (by decide) ?_
    refine i_iload w89 at_127 rfl (pc' := 129) rfl ?_
    refine i_sipush w89 at_129 (z := (255 : Int32)) (by decide) (pc' := 132) rfl ?_
    refine i_iand w89 at_132 (pc' := 133) rfl ?_
    refine i_i2c w89 at_133 (pc' := 134) rfl ?_
    obtain ⟨kw, hkw, ekw⟩ := own_ch8 y4
    rw [ekw]
    show Goes p e below _ T89 (mkF m 134 #[.val (.int y0), .val (.int y1), .val (.int y2), .val (.int y3), .val (.int y4), .val (.int (1 : Int32)), .val (.int (Int32.ofNat ka)), .val (.int (Int32.ofNat kb)), .val (.int (Int32.ofNat kc)), .val (.ref b1), .val (.ref b2), .val (.ref b3), .val (.ref a), .unset, .unset] [(.int (Int32.ofNat kw))])
    refine c_static w89 (y := (⟨"java/lang/String", "valueOf", "(C)Ljava/lang/String;"⟩ : MethodName)) (argsL := [(.int (Int32.ofNat kw))]) (st := []) at_134 (hw _ (List.mem_of_getElem? (i := 32) rfl)) (hw _ (List.mem_of_getElem? (i := 33) rfl)) (hw _ (List.mem_of_getElem? (i := 5) rfl)) (hw _ (List.mem_of_getElem? (i := 34) rfl)) (by decide) own_pd_pCqLjava_lang_Stringe rfl (own_valueOfC l Z a0 hw kw G1 hG SG h89 n0 w89.old hkw) rfl (by decide) (W := 0) (Nat.le_of_eq rfl) (by decide) (by decide) (by decide) (fun _ q => nomatch q) (pc' := 137) rfl ?_
    intro v91 T91 h91 w91 K91 q91
    obtain ⟨u, tu, cu, rfl, zu, -, Su⟩ := q91
    show Goes p e below _ T91 (mkF m 137 #[.val (.int y0), .val (.int y1), .val (.int y2), .val (.int y3), .val (.int y4), .val (.int (1 : Int32)), .val (.int (Int32.ofNat ka)), .val (.int (Int32.ofNat kb)), .val (.int (Int32.ofNat kc)), .val (.ref b1), .val (.ref b2), .val (.ref b3), .val (.ref a), .unset, .unset] [(.ref u)])
    have St_92 := St.keep K91 nin0 nin0
    refine i_astore w91 at_137 rfl (l' := #[.val (.int y0), .val (.int y1), .val (.int y2), .val (.int y3), .val (.int y4), .val (.int (1 : Int32)), .val (.int (Int32.ofNat ka)), .val (.int (Int32.ofNat kb)), .val (.int (Int32.ofNat kc)), .val (.ref b1), .val (.ref b2), .val (.ref b3), .val (.ref a), .val (.ref u), .unset]) rfl (pc' := 139) rfl ?_
    refine i_aload w91 at_139 rfl rfl (pc' := 141) rfl ?_
    refine i_aload w91 at_141 rfl rfl (pc' := 143) rfl ?_
    refine c_static w91 (y := (⟨"com/example/indexweave/indexweave/core/Lines", "id", "(Ljava/lang/String;Ljava/lang/String;)Ljava/lang/String;"⟩ : MethodName)) (argsL := [(.ref a), (.ref u)]) (st := []) at_143 (hw _ (List.mem_of_getElem? (i := 46) rfl)) (hw _ (List.mem_of_getElem? (i := 47) rfl)) (hw _ (List.mem_of_getElem? (i := 48) rfl)) (hw _ (List.mem_of_getElem? (i := 49) rfl)) (by decide) own_pd_pLjava_lang_StringeLjava_lang_StringeqLjava_lang_Stringe rfl (own_id l Z a0 hw a t u ct [ka] h91 n0 w91.old St_92 (by simp)) rfl (by decide) (W := 0) (Nat.le_of_eq rfl) (by decide) (by decide) (by decide) (fun _ q => nomatch q) (pc' := 146) rfl ?_
    intro v93 T93 h93 w93 K93 q93
    obtain ⟨rfl, rfl⟩ := q93
    show Goes p e below _ T93 (mkF m 146 #[.val (.int y0), .val (.int y1), .val (.int y2), .val (.int y3), .val (.int y4), .val (.int (1 : Int32)), .val (.int (Int32.ofNat ka)), .val (.int (Int32.ofNat kb)), .val (.int (Int32.ofNat kc)), .val (.ref b1), .val (.ref b2), .val (.ref b3), .val (.ref a), .val (.ref u), .unset] [(.ref a)])
    refine i_astore w93 at_146 rfl (l' := #[.val (.int y0), .val (.int y1), .val (.int y2), .val (.int y3), .val (.int y4), .val (.int (1 : Int32)), .val (.int (Int32.ofNat ka)), .val (.int (Int32.ofNat kb)), .val (.int (Int32.ofNat kc)), .val (.ref b1), .val (.ref b2), .val (.ref b3), .val (.ref a), .val (.ref u), .val (.ref a)]) rfl (pc' := 148) rfl ?_
    refine i_aload w93 at_148 rfl rfl (pc' := 150) rfl ?_
    refine i_ifnull_N w93 at_150 (pc' := 153) rfl ?_
    refine i_aload w93 at_153 rfl rfl (pc' := 155) rfl ?_
    refine c_virtual w93 (y := (⟨"java/lang/String", "length", "()I"⟩ : MethodName)) (C := "java/lang/String") (a := a) (argsL := []) (st := []) at_155 (hw _ (List.mem_of_getElem? (i := 55) rfl)) (hw _ (List.mem_of_getElem? (i := 56) rfl)) (hw _ (List.mem_of_getElem? (i := 58) rfl)) (hw _ (List.mem_of_getElem? (i := 57) rfl)) (hw _ (List.mem_of_getElem? (i := 59) rfl)) (hw _ (List.mem_of_getElem? (i := 5) rfl)) (by decide) own_pd_pqI rfl St_92.exa (own_length l Z a0 hw a t ct [ka] G1 hG SG h91 n0 w93.old St_92) rfl (by decide) (W := 0) (Nat.le_of_eq rfl) (by decide) (by decide) (by decide) (fun _ q => nomatch q) (pc' := 158) rfl ?_
    intro v94 T94 h94 w94 K94 q94
    obtain ⟨rfl, rfl⟩ := q94
    show Goes p e below _ T94 (mkF m 158 #[.val (.int y0), .val (.int y1), .val (.int y2), .val (.int y3), .val (.int y4), .val (.int (1 : Int32)), .val (.int (Int32.ofNat ka)), .val (.int (Int32.ofNat kb)), .val (.int (Int32.ofNat kc)), .val (.ref b1), .val (.ref b2), .val (.ref b3), .val (.ref a), .val (.ref u), .val (.ref a)] [(.int (1 : Int32))])
    refine i_iload w94 at_158 rfl (pc' := 160) rfl ?_
    refine i_icmp_eq_Y w94 rfl at_160 (pc' := 165) (by decide) ?_
    refine i_aload w94 at_165 rfl rfl (pc' := 167) rfl ?_
    refine i_iconst w94 at_167 (z := (0 : Int32)) (by decide) (pc' := 168) rfl ?_
    refine c_virtual w94 (y := (⟨"java/lang/String", "charAt", "(I)C"⟩ : MethodName)) (C := "java/lang/String") (a := a) (argsL := [(.int (0 : Int32))]) (st := []) at_168 (hw _ (List.mem_of_getElem? (i := 65) rfl)) (hw _ (List.mem_of_getElem? (i := 66) rfl)) (hw _ (List.mem_of_getElem? (i := 68) rfl)) (hw _ (List.mem_of_getElem? (i := 67) rfl)) (hw _ (List.mem_of_getElem? (i := 69) rfl)) (hw _ (List.mem_of_getElem? (i := 5) rfl)) (by decide) own_pd_pIqC rfl St_92.exa (own_charAt l Z a0 hw a t ct [ka] 0 ka G1 hG SG G3 hG3 SF SA SHi SLo h91 n0 w94.old St_92 rfl) rfl (by decide) (W := 0) (Nat.le_of_eq rfl) (by decide) (by decide) (by decide) (fun _ q => nomatch q) (pc' := 171) rfl ?_
    intro v95 T95 h95 w95 K95 q95
    obtain ⟨rfl, rfl⟩ := q95
    show Goes p e below _ T95 (mkF m 171 #[.val (.int y0), .val (.int y1), .val (.int y2), .val (.int y3), .val (.int y4), .val (.int (1 : Int32)), .val (.int (Int32.ofNat ka)), .val (.int (Int32.ofNat kb)), .val (.int (Int32.ofNat kc)), .val (.ref b1), .val (.ref b2), .val (.ref b3), .val (.ref a), .val (.ref u), .val (.ref a)] [(.int (Int32.ofNat ka))])
    refine i_iload w95 at_171 rfl (pc' := 173) rfl ?_
    refine i_icmp_eq_Y w95 rfl at_173 (pc' := 178) (by decide) ?_
    refine i_iload w95 at_178 rfl (pc' := 180) rfl ?_
    refine i_iconst w95 at_180 (z := (2 : Int32)) (by decide) (pc' := 181) rfl ?_
    refine i_icmp_lt_Y w95 (by decide) at_181 (pc' := 197) (by decide) ?_
    refine i_iload w95 at_197 rfl (pc' := 199) rfl ?_
    refine i_iconst w95 at_199 (z := (3 : Int32)) (by decide) (pc' := 200) rfl ?_
    refine i_icmp_ne_Y w95 (by decide) at_200 (pc' := 216) (by decide) ?_
    refine i_aload w95 at_216 rfl rfl (pc' := 218) rfl ?_
    refine i_aload w95 at_218 rfl rfl (pc' := 220) rfl ?_
    refine c_virtual w95 (y := (⟨"java/lang/String", "equals", "(Ljava/lang/Object;)Z"⟩ : MethodName)) (C := "java/lang/String") (a := a) (argsL := [(.ref a)]) (st := []) at_220 (hw _ (List.mem_of_getElem? (i := 86) rfl)) (hw _ (List.mem_of_getElem? (i := 87) rfl)) (hw _ (List.mem_of_getElem? (i := 89) rfl)) (hw _ (List.mem_of_getElem? (i := 88) rfl)) (hw _ (List.mem_of_getElem? (i := 90) rfl)) (hw _ (List.mem_of_getElem? (i := 5) rfl)) (by decide) own_pd_pLjava_lang_ObjecteqZ rfl St_92.exa (own_equalsSame l Z a0 hw a h91 n0 w95.old ) rfl (by decide) (W := 0) (Nat.le_of_eq rfl) (by decide) (by decide) (by decide) (fun _ q => nomatch q) (pc' := 223) rfl ?_
    intro v96 T96 h96 w96 K96 q96
    obtain ⟨rfl, rfl⟩ := q96
    show Goes p e below _ T96 (mkF m 223 #[.val (.int y0), .val (.int y1), .val (.int y2), .val (.int y3), .val (.int y4), .val (.int (1 : Int32)), .val (.int (Int32.ofNat ka)), .val (.int (Int32.ofNat kb)), .val (.int (Int32.ofNat kc)), .val (.ref b1), .val (.ref b2), .val (.ref b3), .val (.ref a), .val (.ref u), .val (.ref a)] [(.int (1 : Int32))])
    exact i_retN w96 at_223 rfl (by simp) rfl (by decide) (by decide)
  ·
    rw [e5]
    show Goes p e below _ T85 (mkF m 76 #[.val (.int y0), .val (.int y1), .val (.int y2), .val (.int y3), .val (.int y4), .val (.int (2 : Int32)), .val (.int (Int32.ofNat ka)), .val (.int (Int32.ofNat kb)), .val (.int (Int32.ofNat kc)), .val (.ref b1), .val (.ref b2), .val (.ref b3), .unset, .unset, .unset] [])
    refine i_iload w85 at_76 rfl (pc' := 78) rfl ?_
    refine i_iconst w85 at_78 (z := (1 : Int32)) (by decide) (pc' := 79) rfl ?_
    refine i_icmp_ne_Y w85 (by decide) at_79 (pc' := 96) (by decide) ?_
    refine i_iload w85 at_96 rfl (pc' := 98) rfl ?_
    refine i_iconst w85 at_98 (z := (2 : Int32)) (by decide) (pc' := 99) rfl ?_
    refine i_icmp_ne_N w85 (by decide) at_99 (pc' := 102) rfl ?_
    refine i_new w85 at_102 (hw _ (List.mem_of_getElem? (i := 3) rfl)) (hw _ (List.mem_of_getElem? (i := 4) rfl)) (hw _ (List.mem_of_getElem? (i := 5) rfl)) (by decide) (by decide) (pc' := 105) rfl ?_
    intro a T97 h97 g_a w97 z_a E97 A_a D_a
    show Goes p e below _ T97 (mkF m 105 #[.val (.int y0), .val (.int y1), .val (.int y2), .val (.int y3), .val (.int y4), .val (.int (2 : Int32)), .val (.int (Int32.ofNat ka)), .val (.int (Int32.ofNat kb)), .val (.int (Int32.ofNat kc)), .val (.ref b1), .val (.ref b2), .val (.ref b3), .unset, .unset, .unset] [(.ref a)])
    have lt_b1_a : b1 < a := Nat.lt_of_lt_of_le A_b1_86.lt (Nat.le_of_eq g_a.symm)
    have lt_b2_a : b2 < a := Nat.lt_of_lt_of_le A_b2_86.lt (Nat.le_of_eq g_a.symm)
    have lt_b3_a : b3 < a := Nat.lt_of_lt_of_le A_b3_2.lt (Nat.le_of_eq g_a.symm)
    have A_b1_98 := A_b1_86.ext E97
    have A_b2_98 := A_b2_86.ext E97
    have A_b3_98 := A_b3_2.ext E97
    have Fv_a : Fld Z h97 a ST "value" "[B" .null := D_a (Or.inr (hw _ (List.mem_of_getElem? (i := 31) rfl))) (ty := .array .byte) (by decide)
    have Fc_a : Fld Z h97 a ST "coder" "B" (.int 0) := D_a (Or.inr (hw _ (List.mem_of_getElem? (i := 29) rfl))) (ty := .byte) (by decide)
    refine i_dup w97 at_105 rfl (pc' := 106) rfl ?_
    refine i_aload w97 at_106 rfl rfl (pc' := 108) rfl ?_
    refine c_special w97 (y := (⟨"java/lang/String", "<init>", "([C)V"⟩ : MethodName)) (a := a) (argsL := [(.ref b2)]) (st := [(.ref a)]) at_108 rfl (hw _ (List.mem_of_getElem? (i := 6) rfl)) (hw _ (List.mem_of_getElem? (i := 7) rfl)) (hw _ (List.mem_of_getElem? (i := 5) rfl)) (hw _ (List.mem_of_getElem? (i := 8) rfl)) (by decide) own_pd_pACqV rfl (own_new1 l Z a0 hw a b2 ca_b2 [ka, kb] G1 hG SG SA SHi SLo h97 n0 w97.old (Nat.le_trans w97.n0h0 z_a) (fun c hc => by simp at hc; omega) (Nat.le_of_ble_eq_true rfl) (Nat.le_of_ble_eq_true rfl) A_a Fv_a Fc_a A_b2_98) rfl (by decide) (W := 1) (Nat.le_of_eq rfl) (by decide) (by decide) (by decide) (allS (Or.inr z_a) all0) (pc' := 111) rfl ?_
    intro v99 T99 h99 w99 K99 q99
    obtain ⟨rfl, t, ct, zt, St⟩ := q99
    show Goes p e below _ T99 (mkF m 111 #[.val (.int y0), .val (.int y1), .val (.int y2), .val (.int y3), .val (.int y4), .val (.int (2 : Int32)), .val (.int (Int32.ofNat ka)), .val (.int (Int32.ofNat kb)), .val (.int (Int32.ofNat kc)), .val (.ref b1), .val (.ref b2), .val (.ref b3), .unset, .unset, .unset] [(.ref a)])
    have lt_b1_t : b1 < t := Nat.lt_of_lt_of_le A_b1_98.lt zt
    have lt_b2_t : b2 < t := Nat.lt_of_lt_of_le A_b2_98.lt zt
    have lt_b3_t : b3 < t := Nat.lt_of_lt_of_le A_b3_98.lt zt
    have lt_a_t : a < t := Nat.lt_of_lt_of_le A_a.lt zt
    have A_b1_100 := A_b1_98.keep K99 (ninS (Nat.ne_of_lt lt_b1_a) nin0)
    have A_b2_100 := A_b2_98.keep K99 (ninS (Nat.ne_of_lt lt_b2_a) nin0)
    have A_b3_100 := A_b3_98.keep K99 (ninS (Nat.ne_of_lt lt_b3_a) nin0)
    have E_a_100 := A_a.keep K99
    refine i_astore w99 at_111 rfl (l' := #[.val (.int y0), .val (.int y1), .val (.int y2), .val (.int y3), .val (.int y4), .val (.int (2 : Int32)), .val (.int (Int32.ofNat ka)), .val (.int (Int32.ofNat kb)), .val (.int (Int32.ofNat kc)), .val (.ref b1), .val (.ref b2), .val (.ref b3), .val (.ref a), .unset, .unset]) rfl (pc' := 113) rfl ?_
    refine i_goto w99 at_113 (pc' := 127) (by decide) ?_
    refine i_iload w99 at_127 rfl (pc' := 129) rfl ?_
    refine i_sipush w99 at_129 (z := (255 : Int32)) (by decide) (pc' := 132) rfl ?_
    refine i_iand w99 at_132 (pc' := 133) rfl ?_
    refine i_i2c w99 at_133 (pc' := 134) rfl ?_
    obtain ⟨kw, hkw, ekw⟩ := own_ch8 y4
    rw [ekw]
    show Goes p e below _ T99 (mkF m 134 #[.val (.int y0), .val (.int y1), .val (.int y2), .val (.int y3), .val (.int y4), .val (.int (2 : Int32)), .val (.int (Int32.ofNat ka)), .val (.int (Int32.ofNat kb)), .val (.int (Int32.ofNat kc)), .val (.ref b1), .val (.ref b2), .val (.ref b3), .val (.ref a), .unset, .unset] [(.int (Int32.ofNat kw))])
    refine c_static w99 (y := (⟨"java/lang/String", "valueOf", "(C)Ljava/lang/String;"⟩ : MethodName)) (argsL := [(.int (Int32.ofNat kw))]) (st := []) at_134 (hw _ (List.mem_of_getElem? (i := 32) rfl)) (hw _ (List.mem_of_getElem? (i := 33) rfl)) (hw _ (List.mem_of_getElem? (i := 5) rfl)) (hw _ (List.mem_of_getElem? (i := 34) rfl)) (by decide) own_pd_pCqLjava_lang_Stringe rfl (own_valueOfC l Z a0 hw kw G1 hG SG h99 n0 w99.old hkw) rfl (by decide) (W := 0) (Nat.le_of_eq rfl) (by decide) (by decide) (by decide) (fun _ q => nomatch q) (pc' := 137) rfl ?_
    intro v101 T101 h101 w101 K101 q101
    obtain ⟨u, tu, cu, rfl, zu, -, Su⟩ := q101
    show Goes p e below _ T101 (mkF m 137 #[.val (.int y0), .val (.int y1), .val (.int y2), .val (.int y3), .val (.int y4), .val (.int (2 : Int32)), .val (.int (Int32.ofNat ka)), .val (.int (Int32.ofNat kb)), .val (.int (Int32.ofNat kc)), .val (.ref b1), .val (.ref b2), .val (.ref b3), .val (.ref a), .unset, .unset] [(.ref u)])
    have St_102 := St.keep K101 nin0 nin0
    refine i_astore w101 at_137 rfl (l' := #[.val (.int y0), .val (.int y1), .val (.int y2), .val (.int y3), .val (.int y4), .val (.int (2 : Int32)), .val (.int (Int32.ofNat ka)), .val (.int (Int32.ofNat kb)), .val (.int (Int32.ofNat kc)), .val (.ref b1), .val (.ref b2), .val (.ref b3), .val (.ref a), .val (.ref u), .unset]) rfl (pc' := 139) rfl ?_
    refine i_aload w101 at_139 rfl rfl (pc' := 141) rfl ?_
    refine i_aload w101 at_141 rfl rfl (pc' := 143) rfl ?_
    refine c_static w101 (y := (⟨"com/example/indexweave/indexweave/core/Lines", "id", "(Ljava/lang/String;Ljava/lang/String;)Ljava/lang/String;"⟩ : MethodName)) (argsL := [(.ref a), (.ref u)]) (st := []) at_143 (hw _ (List.mem_of_getElem? (i := 46) rfl)) (hw _ (List.mem_of_getElem? (i := 47) rfl)) (hw _ (List.mem_of_getElem? (i := 48) rfl)) (hw _ (List.mem_of_getElem? (i := 49) rfl)) (by decide) own_pd_pLjava_lang_StringeLjava_lang_StringeqLjava_lang_Stringe rfl (own_id l Z a0 hw a t u ct [ka, kb] h101 n0 w101.old St_102 (by simp)) rfl (by decide) (W := 0) (Nat.le_of_eq rfl) (by decide) (by decide) (by decide) (fun _ q => nomatch q) (pc' := 146) rfl ?_
    intro v103 T103 h103 w103 K103 q103
    obtain ⟨rfl, rfl⟩ := q103
    show Goes p e below _ T103 (mkF m 146 #[.val (.int y0), .val (.int y1), .val (.int y2), .val (.int y3), .val (.int y4), .val (.int (2 : Int32)), .val (.int (Int32.ofNat ka)), .val (.int (Int32.ofNat kb)), .val (.int (Int32.ofNat kc)), .val (.ref b1), .val (.ref b2), .val (.ref b3), .val (.ref a), .val (.ref u), .unset] [(.ref a)])
    refine i_astore w103 at_146 rfl (l' := #[.val (.int y0), .val (.int y1), .val (.int y2), .val (.int y3), .val (.int y4), .val (.int (2 : Int32)), .val (.int (Int32.ofNat ka)), .val (.int (Int32.ofNat kb)), .val (.int (Int32.ofNat kc)), .val (.ref b1), .val (.ref b2), .val (.ref b3), .val (.ref a), .val (.ref u), .val (.ref a)]) rfl (pc' := 148) rfl ?_
    refine i_aload w103 at_148 rfl rfl (pc' := 150) rfl ?_
    refine i_ifnull_N w103 at_150 (pc' := 153) rfl ?_
    refine i_aload w103 at_153 rfl rfl (pc' := 155) rfl ?_
    refine c_virtual w103 (y := (⟨"java/lang/String", "length", "()I"⟩ : MethodName)) (C := "java/lang/String") (a := a) (argsL := []) (st := []) at_155 (hw _ (List.mem_of_getElem? (i := 55) rfl)) (hw _ (List.mem_of_getElem? (i := 56) rfl)) (hw _ (List.mem_of_getElem? (i := 58) rfl)) (hw _ (List.mem_of_getElem? (i := 57) rfl)) (hw _ (List.mem_of_getElem? (i := 59) rfl)) (hw _ (List.mem_of_getElem? (i := 5) rfl)) (by decide) own_pd_pqI rfl St_102.exa (own_length l Z a0 hw a t ct [ka, kb] G1 hG SG h101 n0 w103.old St_102) rfl (by decide) (W := 0) (Nat.le_of_eq rfl) (by decide) (by decide) (by decide) (fun _ q => nomatch q) (pc' := 158) rfl ?_
    intro v104 T104 h104 w104 K104 q104
    obtain ⟨rfl, rfl⟩ := q104
    show Goes p e below _ T104 (mkF m 158 #[.val (.int y0), .val (.int y1), .val (.int y2), .val (.int y3), .val (.int y4), .val (.int (2 : Int32)), .val (.int (Int32.ofNat ka)), .val (.int (Int32.ofNat kb)), .val (.int (Int32.ofNat kc)), .val (.ref b1), .val (.ref b2), .val (.ref b3), .val (.ref a), .val (.ref u), .val (.ref a)] [(.int (2 : Int32))])
    refine i_iload w104 at_158 rfl (pc' := 160) rfl ?_
    refine i_icmp_eq_Y w104 rfl at_160 (pc' := 165) (by decide) ?_
    refine i_aload w104 at_165 rfl rfl (pc' := 167) rfl ?_
    refine i_iconst w104 at_167 (z := (0 : Int32)) (by decide) (pc' := 168) rfl ?_
    refine c_virtual w104 (y := (⟨"java/lang/String", "charAt", "(I)C"⟩ : MethodName)) (C := "java/lang/String") (a := a) (argsL := [(.int (0 : Int32))]) (st := []) at_168 (hw _ (List.mem_of_getElem? (i := 65) rfl)) (hw _ (List.mem_of_getElem? (i := 66) rfl)) (hw _ (List.mem_of_getElem? (i := 68) rfl)) (hw _ (List.mem_of_getElem? (i := 67) rfl)) (hw _ (List.mem_of_getElem? (i := 69) rfl)) (hw _ (List.mem_of_getElem? (i := 5) rfl)) (by decide) own_pd_pIqC rfl St_102.exa (own_charAt l Z a0 hw a t ct [ka, kb] 0 ka G1 hG SG G3 hG3 SF SA SHi SLo h101 n0 w104.old St_102 rfl) rfl (by decide) (W := 0) (Nat.le_of_eq rfl) (by decide) (by decide) (by decide) (fun _ q => nomatch q) (pc' := 171) rfl ?_
    intro v105 T105 h105 w105 K105 q105
    obtain ⟨rfl, rfl⟩ := q105
    show Goes p e below _ T105 (mkF m 171 #[.val (.int y0), .val (.int y1), .val (.int y2), .val (.int y3), .val (.int y4), .val (.int (2 : Int32)), .val (.int (Int32.ofNat ka)), .val (.int (Int32.ofNat kb)), .val (.int (Int32.ofNat kc)), .val (.ref b1), .val (.ref b2), .val (.ref b3), .val (.ref a), .val (.ref u), .val (.ref a)] [(.int (Int32.ofNat ka))])
    refine i_iload w105 at_171 rfl (pc' := 173) rfl ?_
    refine i_icmp_eq_Y w105 rfl at_173 (pc' := 178) (by decide) ?_
    refine i_iload w105 at_178 rfl (pc' := 180) rfl ?_
    refine i_iconst w105 at_180 (z := (2 : Int32)) (by decide) (pc' := 181) rfl ?_
    refine i_icmp_lt_N w105 (by decide) at_181 (pc' := 184) rfl ?_
    refine i_aload w105 at_184 rfl rfl (pc' := 186) rfl ?_
    refine i_iconst w105 at_186 (z := (1 : Int32)) (by decide) (pc' := 187) rfl ?_
    refine c_virtual w105 (y := (⟨"java/lang/String", "charAt", "(I)C"⟩ : MethodName)) (C := "java/lang/String") (a := a) (argsL := [(.int (1 : Int32))]) (st := []) at_187 (hw _ (List.mem_of_getElem? (i := 65) rfl)) (hw _ (List.mem_of_getElem? (i := 66) rfl)) (hw _ (List.mem_of_getElem? (i := 68) rfl)) (hw _ (List.mem_of_getElem? (i := 67) rfl)) (hw _ (List.mem_of_getElem? (i := 69) rfl)) (hw _ (List.mem_of_getElem? (i := 5) rfl)) (by decide) own_pd_pIqC rfl St_102.exa (own_charAt l Z a0 hw a t ct [ka, kb] 1 kb G1 hG SG G3 hG3 SF SA SHi SLo h101 n0 w105.old St_102 rfl) rfl (by decide) (W := 0) (Nat.le_of_eq rfl) (by decide) (by decide) (by decide) (fun _ q => nomatch q) (pc' := 190) rfl ?_
    intro v106 T106 h106 w106 K106 q106
    obtain ⟨rfl, rfl⟩ := q106
    show Goes p e below _ T106 (mkF m 190 #[.val (.int y0), .val (.int y1), .val (.int y2), .val (.int y3), .val (.int y4), .val (.int (2 : Int32)), .val (.int (Int32.ofNat ka)), .val (.int (Int32.ofNat kb)), .val (.int (Int32.ofNat kc)), .val (.ref b1), .val (.ref b2), .val (.ref b3), .val (.ref a), .val (.ref u), .val (.ref a)] [(.int (Int32.ofNat kb))])
    refine i_iload w106 at_190 rfl (pc' := 192) rfl ?_
    refine i_icmp_eq_Y w106 rfl at_192 (pc' := 197) (by decide) ?_
    refine i_iload w106 at_197 rfl (pc' := 199) rfl ?_
    refine i_iconst w106 at_199 (z := (3 : Int32)) (by decide) (pc' := 200) rfl ?_
    refine i_icmp_ne_Y w106 (by decide) at_200 (pc' := 216) (by decide) ?_
    refine i_aload w106 at_216 rfl rfl (pc' := 218) rfl ?_
    refine i_aload w106 at_218 rfl rfl (pc' := 220) rfl ?_
    refine c_virtual w106 (y := (⟨"java/lang/String", "equals", "(Ljava/lang/Object;)Z"⟩ : MethodName)) (C := "java/lang/String") (a := a) (argsL := [(.ref a)]) (st := []) at_220 (hw _ (List.mem_of_getElem? (i := 86) rfl)) (hw _ (List.mem_of_getElem? (i := 87) rfl)) (hw _ (List.mem_of_getElem? (i := 89) rfl)) (hw _ (List.mem_of_getElem? (i := 88) rfl)) (hw _ (List.mem_of_getElem? (i := 90) rfl)) (hw _ (List.mem_of_getElem? (i := 5) rfl)) (by decide) own_pd_pLjava_lang_ObjecteqZ rfl St_102.exa (own_equalsSame l Z a0 hw a h101 n0 w106.old ) rfl (by decide) (W := 0) (Nat.le_of_eq rfl) (by decide) (by decide) (by decide) (fun _ q => nomatch q) (pc' := 223) rfl ?_
    intro v107 T107 h107 w107 K107 q107
    obtain ⟨rfl, rfl⟩ := q107
    show Goes p e below _ T107 (mkF m 223 #[.val (.int y0), .val (.int y1), .val (.int y2), .val (.int y3), .val (.int y4), .val (.int (2 : Int32)), .val (.int (Int32.ofNat ka)), .val (.int (Int32.ofNat kb)), .val (.int (Int32.ofNat kc)), .val (.ref b1), .val (.ref b2), .val (.ref b3), .val (.ref a), .val (.ref u), .val (.ref a)] [(.int (1 : Int32))])
    exact i_retN w107 at_223 rfl (by simp) rfl (by decide) (by decide)
  ·
    rw [e5]
    show Goes p e below _ T85 (mkF m 76 #[.val (.int y0), .val (.int y1), .val (.int y2), .val (.int y3), .val (.int y4), .val (.int (3 : Int32)), .val (.int (Int32.ofNat ka)), .val (.int (Int32.ofNat kb)), .val (.int (Int32.ofNat kc)), .val (.ref b1), .val (.ref b2), .val (.ref b3), .unset, .unset, .unset] [])
    refine i_iload w85 at_76 rfl (pc' := 78) rfl ?_
    refine i_iconst w85 at_78 (z := (1 : Int32)) (by decide) (pc' := 79) rfl ?_
    refine i_icmp_ne_Y w85 (by decide) at_79 (pc' := 96) (by decide) ?_
    refine i_iload w85 at_96 rfl (pc' := 98) rfl ?_
    refine i_iconst w85 at_98 (z := (2 : Int32)) (by decide) (pc' := 99) rfl ?_
    refine i_icmp_ne_Y w85 (by decide) at_99 (pc' := 116) (by decide) ?_
    refine i_new w85 at_116 (hw _ (List.mem_of_getElem? (i := 3) rfl)) (hw _ (List.mem_of_getElem? (i := 4) rfl)) (hw _ (List.mem_of_getElem? (i := 5) rfl)) (by decide) (by decide) (pc' := 119) rfl ?_
    intro a T108 h108 g_a w108 z_a E108 A_a D_a
    show Goes p e below _ T108 (mkF m 119 #[.val (.int y0), .val (.int y1), .val (.int y2), .val (.int y3), .val (.int y4), .val (.int (3 : Int32)), .val (.int (Int32.ofNat ka)), .val (.int (Int32.ofNat kb)), .val (.int (Int32.ofNat kc)), .val (.ref b1), .val (.ref b2), .val (.ref b3), .unset, .unset, .unset] [(.ref a)])
    have lt_b1_a : b1 < a := Nat.lt_of_lt_of_le A_b1_86.lt (Nat.le_of_eq g_a.symm)
    have lt_b2_a : b2 < a := Nat.lt_of_lt_of_le A_b2_86.lt (Nat.le_of_eq g_a.symm)
    have lt_b3_a : b3 < a := Nat.lt_of_lt_of_le A_b3_2.lt (Nat.le_of_eq g_a.symm)
    have A_b1_109 := A_b1_86.ext E108
    have A_b2_109 := A_b2_86.ext E108
    have A_b3_109 := A_b3_2.ext E108
    have Fv_a : Fld Z h108 a ST "value" "[B" .null := D_a (Or.inr (hw _ (List.mem_of_getElem? (i := 31) rfl))) (ty := .array .byte) (by decide)
    have Fc_a : Fld Z h108 a ST "coder" "B" (.int 0) := D_a (Or.inr (hw _ (List.mem_of_getElem? (i := 29) rfl))) (ty := .byte) (by decide)
    refine i_dup w108 at_119 rfl (pc' := 120) rfl ?_
    refine i_aload w108 at_120 rfl rfl (pc' := 122) rfl ?_
    refine c_special w108 (y := (⟨"java/lang/String", "<init>", "([C)V"⟩ : MethodName)) (a := a) (argsL := [(.ref b3)]) (st := [(.ref a)]) at_122 rfl (hw _ (List.mem_of_getElem? (i := 6) rfl)) (hw _ (List.mem_of_getElem? (i := 7) rfl)) (hw _ (List.mem_of_getElem? (i := 5) rfl)) (hw _ (List.mem_of_getElem? (i := 8) rfl)) (by decide) own_pd_pACqV rfl (own_new1 l Z a0 hw a b3 ca_b3 [ka, kb, kc] G1 hG SG SA SHi SLo h108 n0 w108.old (Nat.le_trans w108.n0h0 z_a) (fun c hc => by simp at hc; omega) (Nat.le_of_ble_eq_true rfl) (Nat.le_of_ble_eq_true rfl) A_a Fv_a Fc_a A_b3_109) rfl (by decide) (W := 1) (Nat.le_of_eq rfl) (by decide) (by decide) (by decide) (allS (Or.inr z_a) all0) (pc' := 125) rfl ?_
    intro v110 T110 h110 w110 K110 q110
    obtain ⟨rfl, t, ct, zt, St⟩ := q110
    show Goes p e below _ T110 (mkF m 125 #[.val (.int y0), .val (.int y1), .val (.int y2), .val (.int y3), .val (.int y4), .val (.int (3 : Int32)), .val (.int (Int32.ofNat ka)), .val (.int (Int32.ofNat kb)), .val (.int (Int32.ofNat kc)), .val (.ref b1), .val (.ref b2), .val (.ref b3), .unset, .unset, .unset] [(.ref a)])
    have lt_b1_t : b1 < t := Nat.lt_of_lt_of_le A_b1_109.lt zt
    have lt_b2_t : b2 < t := Nat.lt_of_lt_of_le A_b2_109.lt zt
    have lt_b3_t : b3 < t := Nat.lt_of_lt_of_le A_b3_109.lt zt
    have lt_a_t : a < t := Nat.lt_of_lt_of_le A_a.lt zt
    have A_b1_111 := A_b1_109.keep K110 (ninS (Nat.ne_of_lt lt_b1_a) nin0)
    have A_b2_111 := A_b2_109.keep K110 (ninS (Nat.ne_of_lt lt_b2_a) nin0)
    have A_b3_111 := A_b3_109.keep K110 (ninS (Nat.ne_of_lt lt_b3_a) nin0)
    have E_a_111 := A_a.keep K110
    refine i_astore w110 at_125 rfl (l' := #[.val (.int y0), .val (.int y1), .val (.int y2), .val (.int y3), .val (.int y4), .val (.int (3 : Int32)), .val (.int (Int32.ofNat ka)), .val (.int (Int32.ofNat kb)), .val (.int (Int32.ofNat kc)), .val (.ref b1), .val (.ref b2), .val (.ref b3), .val (.ref a), .unset, .unset]) rfl (pc' := 127) rfl ?_
    refine i_iload w110 at_127 rfl (pc' := 129) rfl ?_
    refine i_sipush w110 at_129 (z := (255 : Int32)) (by decide) (pc' := 132) rfl ?_
    refine i_iand w110 at_132 (pc' := 133) rfl ?_
    refine i_i2c w110 at_133 (pc' := 134) rfl ?_
    obtain ⟨kw, hkw, ekw⟩ := own_ch8 y4
    rw [ekw]
    show Goes p e below _ T110 (mkF m 134 #[.val (.int y0), .val (.int y1), .val (.int y2), .val (.int y3), .val (.int y4), .val (.int (3 : Int32)), .val (.int (Int32.ofNat ka)), .val (.int (Int32.ofNat kb)), .val (.int (Int32.ofNat kc)), .val (.ref b1), .val (.ref b2), .val (.ref b3), .val (.ref a), .unset, .unset] [(.int (Int32.ofNat kw))])
    refine c_static w110 (y := (⟨"java/lang/String", "valueOf", "(C)Ljava/lang/String;"⟩ : MethodName)) (argsL := [(.int (Int32.ofNat kw))]) (st := []) at_134 (hw _ (List.mem_of_getElem? (i := 32) rfl)) (hw _ (List.mem_of_getElem? (i := 33) rfl)) (hw _ (List.mem_of_getElem? (i := 5) rfl)) (hw _ (List.mem_of_getElem? (i := 34) rfl)) (by decide) own_pd_pCqLjava_lang_Stringe rfl (own_valueOfC l Z a0 hw kw G1 hG SG h110 n0 w110.old hkw) rfl (by decide) (W := 0) (Nat.le_of_eq rfl) (by decide) (by decide) (by decide) (fun _ q => nomatch q) (pc' := 137) rfl ?_
    intro v112 T112 h112 w112 K112 q112
    obtain ⟨u, tu, cu, rfl, zu, -, Su⟩ := q112
    show Goes p e below _ T112 (mkF m 137 #[.val (.int y0), .val (.int y1), .val (.int y2), .val (.int y3), .val (.int y4), .val (.int (3 : Int32)), .val (.int (Int32.ofNat ka)), .val (.int (Int32.ofNat kb)), .val (.int (Int32.ofNat kc)), .val (.ref b1), .val (.ref b2), .val (.ref b3), .val (.ref a), .unset, .unset] [(.ref u)])
    have St_113 := St.keep K112 nin0 nin0
    refine i_astore w112 at_137 rfl (l' := #[.val (.int y0), .val (.int y1), .val (.int y2), .val (.int y3), .val (.int y4), .val (.int (3 : Int32)), .val (.int (Int32.ofNat ka)), .val (.int (Int32.ofNat kb)), .val (.int (Int32.ofNat kc)), .val (.ref b1), .val (.ref b2), .val (.ref b3), .val (.ref a), .val (.ref u), .unset]) rfl (pc' := 139) rfl ?_
    refine i_aload w112 at_139 rfl rfl (pc' := 141) rfl ?_
    refine i_aload w112 at_141 rfl rfl (pc' := 143) rfl ?_
    refine c_static w112 (y := (⟨"com/example/indexweave/indexweave/core/Lines", "id", "(Ljava/lang/String;Ljava/lang/String;)Ljava/lang/String;"⟩ : MethodName)) (argsL := [(.ref a), (.ref u)]) (st := []) at_143 (hw _ (List.mem_of_getElem? (i := 46) rfl)) (hw _ (List.mem_of_getElem? (i := 47) rfl)) (hw _ (List.mem_of_getElem? (i := 48) rfl)) (hw _ (List.mem_of_getElem? (i := 49) rfl)) (by decide) own_pd_pLjava_lang_StringeLjava_lang_StringeqLjava_lang_Stringe rfl (own_id l Z a0 hw a t u ct [ka, kb, kc] h112 n0 w112.old St_113 (by simp)) rfl (by decide) (W := 0) (Nat.le_of_eq rfl) (by decide) (by decide) (by decide) (fun _ q => nomatch q) (pc' := 146) rfl ?_
    intro v114 T114 h114 w114 K114 q114
    obtain ⟨rfl, rfl⟩ := q114
    show Goes p e below _ T114 (mkF m 146 #[.val (.int y0), .val (.int y1), .val (.int y2), .val (.int y3), .val (.int y4), .val (.int (3 : Int32)), .val (.int (Int32.ofNat ka)), .val (.int (Int32.ofNat kb)), .val (.int (Int32.ofNat kc)), .val (.ref b1), .val (.ref b2), .val (.ref b3), .val (.ref a), .val (.ref u), .unset] [(.ref a)])
    refine i_astore w114 at_146 rfl (l' := #[.val (.int y0), .val (.int y1), .val (.int y2), .val (.int y3), .val (.int y4), .val (.int (3 : Int32)), .val (.int (Int32.ofNat ka)), .val (.int (Int32.ofNat kb)), .val (.int (Int32.ofNat kc)), .val (.ref b1), .val (.ref b2), .val (.ref b3), .val (.ref a), .val (.ref u), .val (.ref a)]) rfl (pc' := 148) rfl ?_
    refine i_aload w114 at_148 rfl rfl (pc' := 150) rfl ?_
    refine i_ifnull_N w114 at_150 (pc' := 153) rfl ?_
    refine i_aload w114 at_153 rfl rfl (pc' := 155) rfl ?_
    refine c_virtual w114 (y := (⟨"java/lang/String", "length", "()I"⟩ : MethodName)) (C := "java/lang/String") (a := a) (argsL := []) (st := []) at_155 (hw _ (List.mem_of_getElem? (i := 55) rfl)) (hw _ (List.mem_of_getElem? (i := 56) rfl)) (hw _ (List.mem_of_getElem? (i := 58) rfl)) (hw _ (List.mem_of_getElem? (i := 57) rfl)) (hw _ (List.mem_of_getElem? (i := 59) rfl)) (hw _ (List.mem_of_getElem? (i := 5) rfl)) (by decide) own_pd_pqI rfl St_113.exa (own_length l Z a0 hw a t ct [ka, kb, kc] G1 hG SG h112 n0 w114.old St_113) rfl (by decide) (W := 0) (Nat.le_of_eq rfl) (by decide) (by decide) (by decide) (fun _ q => nomatch q) (pc' := 158) rfl ?_
    intro v115 T115 h115 w115 K115 q115
    obtain ⟨rfl, rfl⟩ := q115
    show Goes p e below _ T115 (mkF m 158 #[.val (.int y0), .val (.int y1), .val (.int y2), .val (.int y3), .val (.int y4), .val (.int (3 : Int32)), .val (.int (Int32.ofNat ka)), .val (.int (Int32.ofNat kb)), .val (.int (Int32.ofNat kc)), .val (.ref b1), .val (.ref b2), .val (.ref b3), .val (.ref a), .val (.ref u), .val (.ref a)] [(.int (3 : Int32))])
    refine i_iload w115 at_158 rfl (pc' := 160) rfl ?_
    refine i_icmp_eq_Y w115 rfl at_160 (pc' := 165) (by decide) ?_
    refine i_aload w115 at_165 rfl rfl (pc' := 167) rfl ?_
    refine i_iconst w115 at_167 (z := (0 : Int32)) (by decide) (pc' := 168) rfl ?_
    refine c_virtual w115 (y := (⟨"java/lang/String", "charAt", "(I)C"⟩ : MethodName)) (C := "java/lang/String") (a := a) (argsL := [(.int (0 : Int32))]) (st := []) at_168 (hw _ (List.mem_of_getElem? (i := 65) rfl)) (hw _ (List.mem_of_getElem? (i := 66) rfl)) (hw _ (List.mem_of_getElem? (i := 68) rfl)) (hw _ (List.mem_of_getElem? (i := 67) rfl)) (hw _ (List.mem_of_getElem? (i := 69) rfl)) (hw _ (List.mem_of_getElem? (i := 5) rfl)) (by decide) own_pd_pIqC rfl St_113.exa (own_charAt l Z a0 hw a t ct [ka, kb, kc] 0 ka G1 hG SG G3 hG3 SF SA SHi SLo h112 n0 w115.old St_113 rfl) rfl (by decide) (W := 0) (Nat.le_of_eq rfl) (by decide) (by decide) (by decide) (fun _ q => nomatch q) (pc' := 171) rfl ?_
    intro v116 T116 h116 w116 K116 q116
    obtain ⟨rfl, rfl⟩ := q116
    show Goes p e below _ T116 (mkF m 171 #[.val (.int y0), .val (.int y1), .val (.int y2), .val (.int y3), .val (.int y4), .val (.int (3 : Int32)), .val (.int (Int32.ofNat ka)), .val (.int (Int32.ofNat kb)), .val (.int (Int32.ofNat kc)), .val (.ref b1), .val (.ref b2), .val (.ref b3), .val (.ref a), .val (.ref u), .val (.ref a)] [(.int (Int32.ofNat ka))])
    refine i_iload w116 at_171 rfl (pc' := 173) rfl ?_
    refine i_icmp_eq_Y w116 rfl at_173 (pc' := 178) (by decide) ?_
    refine i_iload w116 at_178 rfl (pc' := 180) rfl ?_
    refine i_iconst w116 at_180 (z := (2 : Int32)) (by decide) (pc' := 181) rfl ?_
    refine i_icmp_lt_N w116 (by decide) at_181 (pc' := 184) rfl ?_
    refine i_aload w116 at_184 rfl rfl (pc' := 186) rfl ?_
    refine i_iconst w116 at_186 (z := (1 : Int32)) (by decide) (pc' := 187) rfl ?_
    refine c_virtual w116 (y := (⟨"java/lang/String", "charAt", "(I)C"⟩ : MethodName)) (C := "java/lang/String") (a := a) (argsL := [(.int (1 : Int32))]) (st := []) at_187 (hw _ (List.mem_of_getElem? (i := 65) rfl)) (hw _ (List.mem_of_getElem? (i := 66) rfl)) (hw _ (List.mem_of_getElem? (i := 68) rfl)) (hw _ (List.mem_of_getElem? (i := 67) rfl)) (hw _ (List.mem_of_getElem? (i := 69) rfl)) (hw _ (List.mem_of_getElem? (i := 5) rfl)) (by decide) own_pd_pIqC rfl St_113.exa (own_charAt l Z a0 hw a t ct [ka, kb, kc] 1 kb G1 hG SG G3 hG3 SF SA SHi SLo h112 n0 w116.old St_113 rfl) rfl (by decide) (W := 0) (Nat.le_of_eq rfl) (by decide) (by decide) (by decide) (fun _ q => nomatch q) (pc' := 190) rfl ?_
    intro v117 T117 h117 w117 K117 q117
    obtain ⟨rfl, rfl⟩ := q117
    show Goes p e below _ T117 (mkF m 190 #[.val (.int y0), .val (.int y1), .val (.int y2), .val (.int y3), .val (.int y4), .val (.int (3 : Int32)), .val (.int (Int32.ofNat ka)), .val (.int (Int32.ofNat kb)), .val (.int (Int32.ofNat kc)), .val (.ref b1), .val (.ref b2), .val (.ref b3), .val (.ref a), .val (.ref u), .val (.ref a)] [(.int (Int32.ofNat kb))])
    refine i_iload w117 at_190 rfl (pc' := 192) rfl ?_
    refine i_icmp_eq_Y w117 rfl at_192 (pc' := 197) (by decide) ?_
    refine i_iload w117 at_197 rfl (pc' := 199) rfl ?_
    refine i_iconst w117 at_199 (z := (3 : Int32)) (by decide) (pc' := 200) rfl ?_
    refine i_icmp_ne_N w117 (by decide) at_200 (pc' := 203) rfl ?_
    refine i_aload w117 at_203 rfl rfl (pc' := 205) rfl ?_
    refine i_iconst w117 at_205 (z := (2 : Int32)) (by decide) (pc' := 206) rfl ?_
    refine c_virtual w117 (y := (⟨"java/lang/String", "charAt", "(I)C"⟩ : MethodName)) (C := "java/lang/String") (a := a) (argsL := [(.int (2 : Int32))]) (st := []) at_206 (hw _ (List.mem_of_getElem? (i := 65) rfl)) (hw _ (List.mem_of_getElem? (i := 66) rfl)) (hw _ (List.mem_of_getElem? (i := 68) rfl)) (hw _ (List.mem_of_getElem? (i := 67) rfl)) (hw _ (List.mem_of_getElem? (i := 69) rfl)) (hw _ (List.mem_of_getElem? (i := 5) rfl)) (by decide) own_pd_pIqC rfl St_113.exa (own_charAt l Z a0 hw a t ct [ka, kb, kc] 2 kc G1 hG SG G3 hG3 SF SA SHi SLo h112 n0 w117.old St_113 rfl) rfl (by decide) (W := 0) (Nat.le_of_eq rfl) (by decide) (by decide) (by decide) (fun _ q => nomatch q) (pc' := 209) rfl ?_
    intro v118 T118 h118 w118 K118 q118
    obtain ⟨rfl, rfl⟩ := q118
    show Goes p e below _ T118 (mkF m 209 #[.val (.int y0), .val (.int y1), .val (.int y2), .val (.int y3), .val (.int y4), .val (.int (3 : Int32)), .val (.int (Int32.ofNat ka)), .val (.int (Int32.ofNat kb)), .val (.int (Int32.ofNat kc)), .val (.ref b1), .val (.ref b2), .val (.ref b3), .val (.ref a), .val (.ref u), .val (.ref a)] [(.int (Int32.ofNat kc))])
    refine i_iload w118 at_209 rfl (pc' := 211) rfl ?_
    refine i_icmp_eq_Y w118 rfl at_211 (pc' := 216) (by decide) ?_
    refine i_aload w118 at_216 rfl rfl (pc' := 218) rfl ?_
    refine i_aload w118 at_218 rfl rfl (pc' := 220) rfl ?_
    refine c_virtual w118 (y := (⟨"java/lang/String", "equals", "(Ljava/lang/Object;)Z"⟩ : MethodName)) (C := "java/lang/String") (a := a) (argsL := [(.ref a)]) (st := []) at_220 (hw _ (List.mem_of_getElem? (i := 86) rfl)) (hw _ (List.mem_of_getElem? (i := 87) rfl)) (hw _ (List.mem_of_getElem? (i := 89) rfl)) (hw _ (List.mem_of_getElem? (i := 88) rfl)) (hw _ (List.mem_of_getElem? (i := 90) rfl)) (hw _ (List.mem_of_getElem? (i := 5) rfl)) (by decide) own_pd_pLjava_lang_ObjecteqZ rfl St_113.exa (own_equalsSame l Z a0 hw a h112 n0 w118.old ) rfl (by decide) (W := 0) (Nat.le_of_eq rfl) (by decide) (by decide) (by decide) (fun _ q => nomatch q) (pc' := 223) rfl ?_
    intro v119 T119 h119 w119 K119 q119
    obtain ⟨rfl, rfl⟩ := q119
    show Goes p e below _ T119 (mkF m 223 #[.val (.int y0), .val (.int y1), .val (.int y2), .val (.int y3), .val (.int y4), .val (.int (3 : Int32)), .val (.int (Int32.ofNat ka)), .val (.int (Int32.ofNat kb)), .val (.int (Int32.ofNat kc)), .val (.ref b1), .val (.ref b2), .val (.ref b3), .val (.ref a), .val (.ref u), .val (.ref a)] [(.int (1 : Int32))])
    exact i_retN w119 at_223 rfl (by simp) rfl (by decide) (by decide)
set_option maxRecDepth 65536 in
set_option maxHeartbeats 40000000 in
theorem comes_1 {Post : Tables → Env → Array Value → State → Outcome → State → Prop} (hpost : ∀ tb e args s v u, (limb_1_1.after args s (.returned v) u = true ∧ limb_1_2.after args s (.returned v) u = true ∧ True) → FrameEnd s (.returned v) u (Jvm.fieldLocs frame_1_writes args s ++ Jvm.arrayLocs frame_1_arrays args s ++ Jvm.staticLocs frame_1_statics s) 24 128 → Post tb e args s (.returned v) u) :
    ArmFor flags0 classFile x code maxLocals ret World_1 tables_1 room_1 Calls_1 rest_1 Pre_1 Post := by
  intro l hfl _ _ p e ha hc hk s m args below hf hA hF happ hP
  obtain ⟨hcalls, hrest, hpre⟩ := hP
  obtain ⟨-, -, -, hnamed, -, -, -, hat⟩ := (Spec.applies_iff hf).mp happ
  obtain ⟨hg, hn⟩ := and_e (Cond.before_iff.mp (show (Jvm.Cond.and given_1 narrow_1).before args s = true from hpre))
  obtain ⟨gc, g0⟩ := and_e hg
  obtain ⟨q0, g1⟩ := and_e g0
  obtain ⟨q1, g2⟩ := and_e g1
  obtain ⟨q2, g3⟩ := and_e g2
  obtain ⟨q3, g4⟩ := and_e g3
  have q4 := g4
  obtain ⟨x0, x1, x2, x3, x4, rfl⟩ : ∃ x0 x1 x2 x3 x4 : Value, args = #[x0, x1, x2, x3, x4] := by
    have hs : args.size = 5 := by simpa [Cond.value, given_1] using gc
    obtain ⟨L⟩ := args
    match L, hs with
    | [x0, x1, x2, x3, x4], _ => exact ⟨x0, x1, x2, x3, x4, rfl⟩
  have hw := fun d (hd : d ∈ tables_1) => atoms_spec (ws := Jvm.Cond.code x code maxLocals ret :: tables_1) hat d (List.mem_cons_of_mem _ hd)
  have hfit : Fit s := fun {y c} hc i hi => by
    obtain ⟨ha, rfl⟩ := Array.getElem?_eq_some_iff.mp hc
    have q := List.all_eq_true.mp ((Array.all_eq_true_iff_forall_mem.mp hF) _ (Array.getElem_mem ha)) i (List.mem_range.mpr hi)
    simpa [Array.getElem?_eq_getElem hi] using q
  obtain ⟨hsets, hown0⟩ := atoms_of _ (rest_1_c_eq ▸ (show rest_1_c.before _ s = true from hrest))
  obtain ⟨y0, ey0⟩ := is_v q0
  obtain rfl : x0 = (.int y0) := Option.some.inj ey0
  obtain ⟨y1, ey1⟩ := is_v q1
  obtain rfl : x1 = (.int y1) := Option.some.inj ey1
  obtain ⟨y2, ey2⟩ := is_v q2
  obtain rfl : x2 = (.int y2) := Option.some.inj ey2
  obtain ⟨y3, ey3⟩ := is_v q3
  obtain rfl : x3 = (.int y3) := Option.some.inj ey3
  obtain ⟨y4, ey4⟩ := is_v q4
  obtain rfl : x4 = (.int y4) := Option.some.inj ey4
  have n2 := not_v (Cond.before_iff.mp (hsets _ (List.mem_of_getElem? (i := 2) rfl)))
  obtain ⟨G1, eG1⟩ := is_v (Cond.before_iff.mp (hsets _ (List.mem_of_getElem? (i := 1) rfl)))
  have SG : Sta s s.heap "java/lang/String" "COMPACT_STRINGS" "Z" (.int G1) := Sta.start eG1 (Or.inl (hsets _ (List.mem_of_getElem? (i := 0) rfl)))
  have hG : ¬ G1 = 0 := gotF (Cond.eq_ints eG1 (Term.int_eval (0))) n2
  obtain ⟨G3, eG3, hG3⟩ := isR_v (Cond.before_iff.mp (hsets _ (List.mem_of_getElem? (i := 8) rfl)))
  have SF : Sta s s.heap "jdk/internal/util/Preconditions" "SIOOBE_FORMATTER" "Ljava/util/function/BiFunction;" G3 := Sta.start eG3 (Or.inl (hsets _ (List.mem_of_getElem? (i := 7) rfl)))
  have SA : Sta s s.heap "java/lang/StringUTF16" "$assertionsDisabled" "Z" (.int 1) := own_sta (hsets _ (List.mem_of_getElem? (i := 12) rfl)) (hsets _ (List.mem_of_getElem? (i := 11) rfl))
  have SHi : Sta s s.heap "java/lang/StringUTF16" "HI_BYTE_SHIFT" "I" (.int 0) := own_sta (hsets _ (List.mem_of_getElem? (i := 15) rfl)) (hsets _ (List.mem_of_getElem? (i := 14) rfl))
  have SLo : Sta s s.heap "java/lang/StringUTF16" "LO_BYTE_SHIFT" "I" (.int 8) := own_sta (hsets _ (List.mem_of_getElem? (i := 18) rfl)) (hsets _ (List.mem_of_getElem? (i := 17) rfl))
  obtain ⟨n, o, h1, h2, h3, _, L, rfl, ⟨rfl, N, -⟩, hq⟩ := own_law l s _ hw y0 y1 y2 y3 y4 G1 hG SG G3 hG3 SF SA SHi SLo s.heap s.heap.size (Old.start s)  p e ha hc hk s m _ below hf ((Spec.applies_iff_loose hf).mp happ).1 ⟨rfl, State.Warmed39.refl s, rfl⟩ trivial
  refine ⟨n, _, h1, h2, h3, hpost _ _ _ _ _ _ ⟨Cond.after_iff.mpr rfl, Cond.after_iff.mpr (eq_i res_at (Term.int_eval (1)) rfl), trivial⟩ ⟨hq.1, hq.2.1, (hq.2.2.sift fun y hy => Or.inr (N y hy)).mono (by decide) (by decide)⟩⟩
theorem main_1_1 : Claimed_1_1 := comes_1 fun _ _ _ _ _ _ h hF => ⟨h.1, hF⟩
theorem main_1_2 : Claimed_1_2 := comes_1 fun _ _ _ _ _ _ h hF => ⟨h.2.1, hF⟩
end Jvm.Pilot.@@N@@
namespace Jvm.Pilot.@@N@@
open Jvm Jvm.ClassFile Sem Op Lib Jvm.Free Jvm.Stand Jvm.Pilot.@@N@@.Jvm.D
/-! MADE BY PROGRAM (witnessworld.py) out of the Statement's table words and the real class files: 20 classes; the members and pool entries that the words name. The judged class is class 1, her method 1. -/
namespace start1
open Jvm.ClassFile
def u (s : String) : CpInfo := .utf8 (stringToUtf16 s)
/-- a pool by its gaps: so many unusable entries, then the entry; so many at the end -/
def gap : Nat → List CpInfo → List CpInfo
  | 0, r => r
  | n + 1, r => .unusable :: gap n r
def poolList (es : List (Nat × CpInfo)) (last : Nat) : List CpInfo := es.foldr (fun e r => gap e.1 (e.2 :: r)) (gap last [])
def pool (es : List (Nat × CpInfo)) (last : Nat) : Array CpInfo := ⟨poolList es last⟩
def fileOf (pool : Array CpInfo) (this : Nat) (attrs : Array Attribute := #[]) (ms : Array MethodInfo := #[]) (fl : Nat := 33) (sup : Nat := 0) (ifs : Array Nat := #[]) (fds : Array FieldInfo := #[]) : ClassFile where
  minorVersion := 0
  majorVersion := 65
  constantPool := pool
  accessFlags := fl
  thisClass := this
  superClass := sup
  interfaces := ifs
  fields := fds
  methods := ms
  attributes := attrs
def plain (name : String) (sup : Option ClassId) : Class where
  name := name
  kind := .ordinary
  loader := none
  accessFlags := 33
  super := sup
  interfaces := #[]
  cf := none
  fields := #[]
  methods := #[]
  instanceTypes := #[]
  staticTypes := #[]
  resolved := #[]
  callSites := []
  init := .initialized
  statics := none
  mirror := none

def pool0 : Array CpInfo := pool [(5, u "<init>"), (0, u "()V"), (1, .class_ 10), (1, u "java/lang/Object")] 113

def k0c0 : Code := { maxStack := 0, maxLocals := 1, code := object_method_1_code, exceptionTable := #[], attributes := #[] }
def k0m0 : Method := { name := "<init>", desc := "()V", sig := { parameters := [], returnType := none }, accessFlags := 1, code := some k0c0 }
/-- java/lang/Object -/
def k0 : Class := { plain "java/lang/Object" none with
  accessFlags := 33
  interfaces := #[]
  cf := some (fileOf pool0 8 #[] #[{ accessFlags := 1, nameIndex := 5, descriptorIndex := 6, attributes := #[] }] 33 0 #[] #[])
  fields := #[]
  methods := #[k0m0]
  instanceTypes := #[]
  staticTypes := #[]
  resolved := Array.replicate 124 none
  statics := none }

def pool1 : Array CpInfo := pool [(2, .class_ 4), (1, u "java/lang/Object"), (0, u "<init>"), (0, u "()V"), (0, .integer 2147483647), (0, .integer 65535), (0, .class_ 10), (0, u "java/lang/String"), (0, .methodref 9 12), (0, .nameAndType 5 13), (0, u "([C)V"), (0, .methodref 9 15), (0, .nameAndType 16 17), (0, u "valueOf"), (0, u "(C)Ljava/lang/String;"), (0, .methodref 19 20), (0, .class_ 21), (0, .nameAndType 22 23), (0, u "com/example/indexweave/indexweave/core/Lines"), (0, u "id"), (0, u "(Ljava/lang/String;Ljava/lang/String;)Ljava/lang/String;"), (0, .methodref 9 25), (0, .nameAndType 26 27), (0, u "length"), (0, u "()I"), (0, .methodref 9 29), (0, .nameAndType 30 31), (0, u "charAt"), (0, u "(I)C"), (0, .methodref 9 33), (0, .nameAndType 34 35), (0, u "equals"), (0, u "(Ljava/lang/Object;)Z"), (0, .class_ 37), (0, u "com/example/indexweave/indexweave/core/LinesIdPinLaw"), (2, u "law"), (0, u "(IIIII)Z")] 5

def k1m0 : Method := { name := "<init>", desc := "()V", sig := { parameters := [], returnType := none }, accessFlags := 1, code := none }
def k1c1 : Code := { maxStack := 4, maxLocals := 15, code := code, exceptionTable := #[], attributes := #[] }
def k1m1 : Method := { name := "law", desc := "(IIIII)Z", sig := { parameters := [.int, .int, .int, .int, .int], returnType := some .boolean }, accessFlags := 9, code := some k1c1 }
/-- com/example/indexweave/indexweave/core/LinesIdPinLaw -/
def k1 : Class := { plain "com/example/indexweave/indexweave/core/LinesIdPinLaw" (some 0) with
  accessFlags := 49
  interfaces := #[]
  cf := some (fileOf pool1 36 #[] #[{ accessFlags := 1, nameIndex := 5, descriptorIndex := 6, attributes := #[] }, { accessFlags := 9, nameIndex := 40, descriptorIndex := 41, attributes := #[] }] 49 2 #[] #[])
  fields := #[]
  methods := #[k1m0, k1m1]
  instanceTypes := #[]
  staticTypes := #[]
  resolved := Array.replicate 47 none
  statics := none }

def pool2 : Array CpInfo := pool [(1, .class_ 2), (0, u "java/io/Serializable"), (0, .class_ 4), (0, u "java/lang/Object")] 2

/-- java/io/Serializable -/
def k2 : Class := { plain "java/io/Serializable" (some 0) with
  accessFlags := 1537
  interfaces := #[]
  cf := some (fileOf pool2 1 #[] #[] 1537 3 #[] #[])
  fields := #[]
  methods := #[]
  instanceTypes := #[]
  staticTypes := #[]
  resolved := Array.replicate 7 none
  statics := none }

def pool3 : Array CpInfo := pool [(1, .class_ 2), (0, u "java/lang/Comparable"), (0, .class_ 4), (0, u "java/lang/Object")] 7

/-- java/lang/Comparable -/
def k3 : Class := { plain "java/lang/Comparable" (some 0) with
  accessFlags := 1537
  interfaces := #[]
  cf := some (fileOf pool3 1 #[] #[] 1537 3 #[] #[])
  fields := #[]
  methods := #[]
  instanceTypes := #[]
  staticTypes := #[]
  resolved := Array.replicate 12 none
  statics := none }

def pool4 : Array CpInfo := pool [(2, .class_ 4), (1, u "java/lang/CharSequence"), (42, .class_ 48), (0, u "java/lang/CharSequence$1CodePointIterator"), (10, .class_ 60), (0, u "java/lang/CharSequence$1CharIterator"), (5, .class_ 67), (0, u "java/lang/Object")] 63

/-- java/lang/CharSequence -/
def k4 : Class := { plain "java/lang/CharSequence" (some 0) with
  accessFlags := 1537
  interfaces := #[]
  cf := some (fileOf pool4 2 #[.nestMembers #[47, 59]] #[] 1537 66 #[] #[])
  fields := #[]
  methods := #[]
  instanceTypes := #[]
  staticTypes := #[]
  resolved := Array.replicate 131 none
  statics := none }

def pool5 : Array CpInfo := pool [(1, .class_ 2), (0, u "java/lang/constant/Constable"), (0, .class_ 4), (0, u "java/lang/Object")] 6

/-- java/lang/constant/Constable -/
def k5 : Class := { plain "java/lang/constant/Constable" (some 0) with
  accessFlags := 1537
  interfaces := #[]
  cf := some (fileOf pool5 1 #[] #[] 1537 3 #[] #[])
  fields := #[]
  methods := #[]
  instanceTypes := #[]
  staticTypes := #[]
  resolved := Array.replicate 11 none
  statics := none }

def pool6 : Array CpInfo := pool [(1, .class_ 2), (0, u "java/lang/constant/ConstantDesc"), (0, .class_ 4), (0, u "java/lang/Object")] 32

/-- java/lang/constant/ConstantDesc -/
def k6 : Class := { plain "java/lang/constant/ConstantDesc" (some 0) with
  accessFlags := 1537
  interfaces := #[]
  cf := some (fileOf pool6 1 #[] #[] 1537 3 #[] #[])
  fields := #[]
  methods := #[]
  instanceTypes := #[]
  staticTypes := #[]
  resolved := Array.replicate 37 none
  statics := none }

def pool7 : Array CpInfo := pool [(1, .methodref 2 3), (0, .class_ 4), (0, .nameAndType 5 6), (0, u "java/lang/Object"), (0, u "<init>"), (0, u "()V"), (2, .fieldref 10 11), (0, .class_ 12), (0, .nameAndType 13 14), (0, u "java/lang/String"), (0, u "value"), (0, u "[B"), (0, .fieldref 10 16), (0, .nameAndType 17 18), (0, u "coder"), (0, u "B"), (2, u "hash"), (0, u "I"), (2, u "hashIsZero"), (0, u "Z"), (0, .methodref 10 28), (0, .nameAndType 5 29), (0, u "([CIILjava/lang/Void;)V"), (8, .fieldref 10 39), (0, .nameAndType 40 26), (0, u "COMPACT_STRINGS"), (1, .class_ 44), (1, u "java/lang/StringUTF16"), (0, u "compress"), (1, .methodref 42 48), (0, .nameAndType 49 50), (0, u "coderFromArrayLen"), (0, u "([BI)B"), (2, u "toBytes"), (53, .class_ 109), (1, u "java/lang/StringLatin1"), (32, u "()Z"), (34, .methodref 42 178), (0, .nameAndType 45 179), (0, u "([CII)[B"), (29, .methodref 10 210), (0, .nameAndType 5 211), (0, u "([BB)V"), (122, u "()I"), (0, .methodref 10 336), (0, .nameAndType 17 337), (0, u "()B"), (25, u "([BI)C"), (5, u "(C)Z"), (21, u "(II)V"), (35, u "(I)C"), (64, .methodref 10 493), (0, .nameAndType 494 142), (0, u "isLatin1"), (0, .methodref 107 496), (0, .nameAndType 497 363), (0, u "charAt"), (0, .methodref 42 496), (2, u "checkIndex"), (5, u "length"), (35, u "equals"), (29, u "(Ljava/lang/Object;)Z"), (1, .class_ 576), (0, u "java/lang/CharSequence"), (22, u "CASE_INSENSITIVE_ORDER"), (0, u "Ljava/util/Comparator;"), (91, u "isEmpty"), (89, u "valueOf"), (0, u "(C)Ljava/lang/String;"), (226, u "([C)V"), (4, .methodref 107 1016), (0, .nameAndType 1017 369), (0, u "canEncode"), (0, .methodref 107 1019), (0, .nameAndType 53 1020), (0, u "(C)[B"), (32, .fieldref 1054 1055), (0, .class_ 1056), (0, .nameAndType 1057 1058), (0, u "jdk/internal/util/Preconditions"), (0, u "SIOOBE_FORMATTER"), (0, u "Ljava/util/function/BiFunction;"), (0, .methodref 1054 1060), (0, .nameAndType 501 1061), (0, u "(IILjava/util/function/BiFunction;)I"), (39, u "serialPersistentFields"), (0, u "[Ljava/io/ObjectStreamField;"), (0, .class_ 1104), (0, u "java/lang/String$CaseInsensitiveComparator"), (1, .class_ 1107), (0, u "java/io/Serializable"), (0, .class_ 1109), (0, u "java/lang/Comparable"), (0, .class_ 1111), (0, u "java/lang/constant/Constable"), (0, .class_ 1113), (0, u "java/lang/constant/ConstantDesc"), (2, u "serialVersionUID"), (0, u "J"), (3, u "REPL"), (0, u "C"), (2, u "LATIN1"), (1, u "UTF16")] 323

def k7m0 : Method := { name := "<init>", desc := "()V", sig := { parameters := [], returnType := none }, accessFlags := 1, code := none }
def k7c1 : Code := { maxStack := 5, maxLocals := 2, code := jdk_42_method_3_code, exceptionTable := #[], attributes := #[] }
def k7m1 : Method := { name := "<init>", desc := "([C)V", sig := { parameters := [(.array .char)], returnType := none }, accessFlags := 1, code := some k7c1 }
def k7c2 : Code := { maxStack := 2, maxLocals := 1, code := jdk_42_method_54_code, exceptionTable := #[], attributes := #[] }
def k7m2 : Method := { name := "length", desc := "()I", sig := { parameters := [], returnType := some .int }, accessFlags := 1, code := some k7c2 }
def k7c3 : Code := { maxStack := 1, maxLocals := 1, code := jdk_42_method_55_code, exceptionTable := #[], attributes := #[] }
def k7m3 : Method := { name := "isEmpty", desc := "()Z", sig := { parameters := [], returnType := some .boolean }, accessFlags := 1, code := some k7c3 }
def k7c4 : Code := { maxStack := 2, maxLocals := 2, code := jdk_42_method_56_code, exceptionTable := #[], attributes := #[] }
def k7m4 : Method := { name := "charAt", desc := "(I)C", sig := { parameters := [.int], returnType := some .char }, accessFlags := 1, code := some k7c4 }
def k7c5 : Code := { maxStack := 2, maxLocals := 3, code := jdk_42_method_66_code, exceptionTable := #[], attributes := #[] }
def k7m5 : Method := { name := "equals", desc := "(Ljava/lang/Object;)Z", sig := { parameters := [(.object "java/lang/Object")], returnType := some .boolean }, accessFlags := 1, code := some k7c5 }
def k7c6 : Code := { maxStack := 4, maxLocals := 1, code := jdk_42_method_139_code, exceptionTable := #[], attributes := #[] }
def k7m6 : Method := { name := "valueOf", desc := "(C)Ljava/lang/String;", sig := { parameters := [.char], returnType := some (.object "java/lang/String") }, accessFlags := 9, code := some k7c6 }
def k7c7 : Code := { maxStack := 4, maxLocals := 6, code := jdk_42_method_149_code, exceptionTable := #[], attributes := #[] }
def k7m7 : Method := { name := "<init>", desc := "([CIILjava/lang/Void;)V", sig := { parameters := [(.array .char), .int, .int, (.object "java/lang/Void")], returnType := none }, accessFlags := 2, code := some k7c7 }
def k7c8 : Code := { maxStack := 2, maxLocals := 3, code := jdk_42_method_151_code, exceptionTable := #[], attributes := #[] }
def k7m8 : Method := { name := "<init>", desc := "([BB)V", sig := { parameters := [(.array .byte), .byte], returnType := none }, accessFlags := 0, code := some k7c8 }
def k7c9 : Code := { maxStack := 1, maxLocals := 1, code := jdk_42_method_152_code, exceptionTable := #[], attributes := #[] }
def k7m9 : Method := { name := "coder", desc := "()B", sig := { parameters := [], returnType := some .byte }, accessFlags := 0, code := some k7c9 }
def k7c10 : Code := { maxStack := 1, maxLocals := 1, code := jdk_42_method_154_code, exceptionTable := #[], attributes := #[] }
def k7m10 : Method := { name := "isLatin1", desc := "()Z", sig := { parameters := [], returnType := some .boolean }, accessFlags := 0, code := some k7c10 }
def k7c11 : Code := { maxStack := 3, maxLocals := 2, code := jdk_42_method_155_code, exceptionTable := #[], attributes := #[] }
def k7m11 : Method := { name := "checkIndex", desc := "(II)V", sig := { parameters := [.int, .int], returnType := none }, accessFlags := 8, code := some k7c11 }
/-- java/lang/String -/
def k7 : Class := { plain "java/lang/String" (some 0) with
  accessFlags := 49
  interfaces := #[2, 3, 4, 5, 6]
  cf := some (fileOf pool7 10 #[.nestMembers #[1103]] #[{ accessFlags := 1, nameIndex := 5, descriptorIndex := 6, attributes := #[] }, { accessFlags := 1, nameIndex := 5, descriptorIndex := 1010, attributes := #[] }, { accessFlags := 1, nameIndex := 507, descriptorIndex := 334, attributes := #[] }, { accessFlags := 1, nameIndex := 692, descriptorIndex := 142, attributes := #[] }, { accessFlags := 1, nameIndex := 497, descriptorIndex := 427, attributes := #[] }, { accessFlags := 1, nameIndex := 543, descriptorIndex := 573, attributes := #[] }, { accessFlags := 9, nameIndex := 782, descriptorIndex := 783, attributes := #[] }, { accessFlags := 2, nameIndex := 5, descriptorIndex := 29, attributes := #[] }, { accessFlags := 0, nameIndex := 5, descriptorIndex := 211, attributes := #[] }, { accessFlags := 0, nameIndex := 17, descriptorIndex := 337, attributes := #[] }, { accessFlags := 0, nameIndex := 494, descriptorIndex := 142, attributes := #[] }, { accessFlags := 8, nameIndex := 501, descriptorIndex := 391, attributes := #[] }] 49 2 #[1106, 1108, 575, 1110, 1112] #[{ accessFlags := 18, nameIndex := 13, descriptorIndex := 14, attributes := #[] }, { accessFlags := 18, nameIndex := 17, descriptorIndex := 18, attributes := #[] }, { accessFlags := 2, nameIndex := 21, descriptorIndex := 22, attributes := #[] }, { accessFlags := 2, nameIndex := 25, descriptorIndex := 26, attributes := #[] }, { accessFlags := 26, nameIndex := 1116, descriptorIndex := 1117, attributes := #[] }, { accessFlags := 24, nameIndex := 40, descriptorIndex := 26, attributes := #[] }, { accessFlags := 26, nameIndex := 1101, descriptorIndex := 1102, attributes := #[] }, { accessFlags := 26, nameIndex := 1121, descriptorIndex := 1122, attributes := #[] }, { accessFlags := 25, nameIndex := 599, descriptorIndex := 600, attributes := #[] }, { accessFlags := 24, nameIndex := 1125, descriptorIndex := 18, attributes := #[] }, { accessFlags := 24, nameIndex := 1127, descriptorIndex := 18, attributes := #[] }])
  fields := #[{ name := "value", type := (.array .byte), accessFlags := 18, slot := 0, constantValue := 0 }, { name := "coder", type := .byte, accessFlags := 18, slot := 1, constantValue := 0 }, { name := "hash", type := .int, accessFlags := 2, slot := 2, constantValue := 0 }, { name := "hashIsZero", type := .boolean, accessFlags := 2, slot := 3, constantValue := 0 }, { name := "serialVersionUID", type := .long, accessFlags := 26, slot := 0, constantValue := 0 }, { name := "COMPACT_STRINGS", type := .boolean, accessFlags := 24, slot := 1, constantValue := 0 }, { name := "serialPersistentFields", type := (.array (.object "java/io/ObjectStreamField")), accessFlags := 26, slot := 2, constantValue := 0 }, { name := "REPL", type := .char, accessFlags := 26, slot := 3, constantValue := 0 }, { name := "CASE_INSENSITIVE_ORDER", type := (.object "java/util/Comparator"), accessFlags := 25, slot := 4, constantValue := 0 }, { name := "LATIN1", type := .byte, accessFlags := 24, slot := 5, constantValue := 0 }, { name := "UTF16", type := .byte, accessFlags := 24, slot := 6, constantValue := 0 }]
  methods := #[k7m0, k7m1, k7m2, k7m3, k7m4, k7m5, k7m6, k7m7, k7m8, k7m9, k7m10, k7m11]
  instanceTypes := #[(.array .byte), .byte, .int, .boolean]
  staticTypes := #[.long, .boolean, (.array (.object "java/io/ObjectStreamField")), .char, (.object "java/util/Comparator"), .byte, .byte]
  resolved := Array.replicate 1451 none
  statics := some 0 }

def pool8 : Array CpInfo := pool [(3, .class_ 4), (0, u "java/lang/String"), (1, .class_ 8), (1, u "java/lang/Object"), (0, u "<init>"), (0, u "()V"), (0, .methodref 12 13), (0, .class_ 14), (0, .nameAndType 15 16), (0, u "java/lang/StringUTF16"), (0, u "newBytesLength"), (0, u "(I)I"), (3, .integer 1073741823), (23, .fieldref 12 45), (0, .nameAndType 46 47), (0, u "$assertionsDisabled"), (0, u "Z"), (0, .methodref 12 49), (0, .nameAndType 50 51), (0, u "length"), (0, u "([B)I"), (7, .fieldref 12 60), (0, .nameAndType 61 62), (0, u "HI_BYTE_SHIFT"), (0, u "I"), (0, .fieldref 12 64), (0, .nameAndType 65 62), (0, u "LO_BYTE_SHIFT"), (1, .methodref 12 68), (0, .nameAndType 69 70), (0, u "checkIndex"), (0, u "(I[B)V"), (0, .methodref 12 72), (0, .nameAndType 73 74), (0, u "getChar"), (0, u "([BI)C"), (32, .methodref 12 108), (0, .nameAndType 109 110), (0, u "newBytesFor"), (0, u "(I)[B"), (0, .methodref 12 112), (0, .nameAndType 113 114), (0, u "putChar"), (0, u "([BII)V"), (0, .methodref 12 116), (0, .nameAndType 117 118), (0, u "compress"), (0, u "([CI[BII)I"), (0, .methodref 12 120), (0, .nameAndType 121 122), (0, u "toBytes"), (0, u "([CII)[B"), (138, u "coderFromArrayLen"), (0, u "([BI)B"), (106, .class_ 371), (1, u "java/lang/StringUTF16$LinesSpliterator"), (20, u "charAt"), (21, .methodref 3 415), (0, .nameAndType 69 416), (0, u "(II)V"), (13, u "MAX_LENGTH"), (196, .class_ 628), (0, u "java/lang/StringUTF16$CodePointsSpliterator"), (0, .class_ 630), (0, u "java/lang/StringUTF16$CharsSpliterator")] 4

def k8m0 : Method := { name := "<init>", desc := "()V", sig := { parameters := [], returnType := none }, accessFlags := 0, code := none }
def k8c1 : Code := { maxStack := 1, maxLocals := 1, code := jdk_52_method_2_code, exceptionTable := #[], attributes := #[] }
def k8m1 : Method := { name := "newBytesFor", desc := "(I)[B", sig := { parameters := [.int], returnType := some (.array .byte) }, accessFlags := 9, code := some k8c1 }
def k8c2 : Code := { maxStack := 4, maxLocals := 1, code := jdk_52_method_3_code, exceptionTable := #[], attributes := #[] }
def k8m2 : Method := { name := "newBytesLength", desc := "(I)I", sig := { parameters := [.int], returnType := some .int }, accessFlags := 9, code := some k8c2 }
def k8c3 : Code := { maxStack := 4, maxLocals := 3, code := jdk_52_method_4_code, exceptionTable := #[], attributes := #[] }
def k8m3 : Method := { name := "putChar", desc := "([BII)V", sig := { parameters := [(.array .byte), .int, .int], returnType := none }, accessFlags := 8, code := some k8c3 }
def k8c4 : Code := { maxStack := 3, maxLocals := 2, code := jdk_52_method_5_code, exceptionTable := #[], attributes := #[] }
def k8m4 : Method := { name := "getChar", desc := "([BI)C", sig := { parameters := [(.array .byte), .int], returnType := some .char }, accessFlags := 8, code := some k8c4 }
def k8c5 : Code := { maxStack := 2, maxLocals := 1, code := jdk_52_method_6_code, exceptionTable := #[], attributes := #[] }
def k8m5 : Method := { name := "length", desc := "([B)I", sig := { parameters := [(.array .byte)], returnType := some .int }, accessFlags := 9, code := some k8c5 }
def k8c6 : Code := { maxStack := 4, maxLocals := 5, code := jdk_52_method_14_code, exceptionTable := #[], attributes := #[] }
def k8m6 : Method := { name := "toBytes", desc := "([CII)[B", sig := { parameters := [(.array .char), .int, .int], returnType := some (.array .byte) }, accessFlags := 9, code := some k8c6 }
def k8c7 : Code := { maxStack := 2, maxLocals := 2, code := jdk_52_method_15_code, exceptionTable := #[], attributes := #[] }
def k8m7 : Method := { name := "coderFromArrayLen", desc := "([BI)B", sig := { parameters := [(.array .byte), .int], returnType := some .byte }, accessFlags := 8, code := some k8c7 }
def k8c8 : Code := { maxStack := 5, maxLocals := 6, code := jdk_52_method_16_code, exceptionTable := #[], attributes := #[] }
def k8m8 : Method := { name := "compress", desc := "([CII)[B", sig := { parameters := [(.array .char), .int, .int], returnType := some (.array .byte) }, accessFlags := 9, code := some k8c8 }
def k8c9 : Code := { maxStack := 3, maxLocals := 7, code := jdk_52_method_21_code, exceptionTable := #[], attributes := #[] }
def k8m9 : Method := { name := "compress", desc := "([CI[BII)I", sig := { parameters := [(.array .char), .int, (.array .byte), .int, .int], returnType := some .int }, accessFlags := 9, code := some k8c9 }
def k8c10 : Code := { maxStack := 2, maxLocals := 2, code := jdk_52_method_83_code, exceptionTable := #[], attributes := #[] }
def k8m10 : Method := { name := "charAt", desc := "([BI)C", sig := { parameters := [(.array .byte), .int], returnType := some .char }, accessFlags := 9, code := some k8c10 }
def k8c11 : Code := { maxStack := 2, maxLocals := 2, code := jdk_52_method_91_code, exceptionTable := #[], attributes := #[] }
def k8m11 : Method := { name := "checkIndex", desc := "(I[B)V", sig := { parameters := [.int, (.array .byte)], returnType := none }, accessFlags := 9, code := some k8c11 }
/-- java/lang/StringUTF16 -/
def k8 : Class := { plain "java/lang/StringUTF16" (some 0) with
  accessFlags := 48
  interfaces := #[]
  cf := some (fileOf pool8 12 #[.nestMembers #[627, 629, 369]] #[{ accessFlags := 0, nameIndex := 9, descriptorIndex := 10, attributes := #[] }, { accessFlags := 9, nameIndex := 109, descriptorIndex := 110, attributes := #[] }, { accessFlags := 9, nameIndex := 15, descriptorIndex := 16, attributes := #[] }, { accessFlags := 8, nameIndex := 113, descriptorIndex := 114, attributes := #[] }, { accessFlags := 8, nameIndex := 73, descriptorIndex := 74, attributes := #[] }, { accessFlags := 9, nameIndex := 50, descriptorIndex := 51, attributes := #[] }, { accessFlags := 9, nameIndex := 121, descriptorIndex := 122, attributes := #[] }, { accessFlags := 8, nameIndex := 261, descriptorIndex := 262, attributes := #[] }, { accessFlags := 9, nameIndex := 117, descriptorIndex := 122, attributes := #[] }, { accessFlags := 9, nameIndex := 117, descriptorIndex := 118, attributes := #[] }, { accessFlags := 9, nameIndex := 392, descriptorIndex := 74, attributes := #[] }, { accessFlags := 9, nameIndex := 69, descriptorIndex := 70, attributes := #[] }] 48 6 #[] #[{ accessFlags := 26, nameIndex := 61, descriptorIndex := 62, attributes := #[] }, { accessFlags := 26, nameIndex := 65, descriptorIndex := 62, attributes := #[] }, { accessFlags := 24, nameIndex := 430, descriptorIndex := 62, attributes := #[] }, { accessFlags := 4120, nameIndex := 46, descriptorIndex := 47, attributes := #[] }])
  fields := #[{ name := "HI_BYTE_SHIFT", type := .int, accessFlags := 26, slot := 0, constantValue := 0 }, { name := "LO_BYTE_SHIFT", type := .int, accessFlags := 26, slot := 1, constantValue := 0 }, { name := "MAX_LENGTH", type := .int, accessFlags := 24, slot := 2, constantValue := 0 }, { name := "$assertionsDisabled", type := .boolean, accessFlags := 4120, slot := 3, constantValue := 0 }]
  methods := #[k8m0, k8m1, k8m2, k8m3, k8m4, k8m5, k8m6, k8m7, k8m8, k8m9, k8m10, k8m11]
  instanceTypes := #[]
  staticTypes := #[.int, .int, .int, .boolean]
  resolved := Array.replicate 635 none
  statics := some 1 }

def pool9 : Array CpInfo := pool [(1, .class_ 2), (0, u "java/lang/String"), (1, .class_ 6), (1, u "java/lang/Object"), (0, u "<init>"), (0, u "()V"), (0, .methodref 1 10), (0, .nameAndType 11 12), (0, u "checkIndex"), (0, u "(II)V"), (1, .class_ 16), (1, u "java/lang/StringLatin1"), (36, u "([BI)C"), (36, u "canEncode"), (14, u "(C)Z"), (15, u "$assertionsDisabled"), (0, u "Z"), (98, .class_ 223), (1, u "java/lang/StringLatin1$LinesSpliterator"), (28, u "charAt"), (127, u "toBytes"), (1, u "(C)[B"), (7, .class_ 391), (0, u "java/lang/StringLatin1$CharsSpliterator")] 3

def k9m0 : Method := { name := "<init>", desc := "()V", sig := { parameters := [], returnType := none }, accessFlags := 0, code := none }
def k9c1 : Code := { maxStack := 2, maxLocals := 2, code := jdk_43_method_2_code, exceptionTable := #[], attributes := #[] }
def k9m1 : Method := { name := "charAt", desc := "([BI)C", sig := { parameters := [(.array .byte), .int], returnType := some .char }, accessFlags := 9, code := some k9c1 }
def k9c2 : Code := { maxStack := 2, maxLocals := 1, code := jdk_43_method_3_code, exceptionTable := #[], attributes := #[] }
def k9m2 : Method := { name := "canEncode", desc := "(C)Z", sig := { parameters := [.char], returnType := some .boolean }, accessFlags := 9, code := some k9c2 }
def k9c3 : Code := { maxStack := 4, maxLocals := 1, code := jdk_43_method_46_code, exceptionTable := #[], attributes := #[] }
def k9m3 : Method := { name := "toBytes", desc := "(C)[B", sig := { parameters := [.char], returnType := some (.array .byte) }, accessFlags := 9, code := some k9c3 }
/-- java/lang/StringLatin1 -/
def k9 : Class := { plain "java/lang/StringLatin1" (some 0) with
  accessFlags := 48
  interfaces := #[]
  cf := some (fileOf pool9 14 #[.nestMembers #[390, 221]] #[{ accessFlags := 0, nameIndex := 7, descriptorIndex := 8, attributes := #[] }, { accessFlags := 9, nameIndex := 252, descriptorIndex := 53, attributes := #[] }, { accessFlags := 9, nameIndex := 90, descriptorIndex := 105, attributes := #[] }, { accessFlags := 9, nameIndex := 380, descriptorIndex := 382, attributes := #[] }] 48 4 #[] #[{ accessFlags := 4120, nameIndex := 121, descriptorIndex := 122, attributes := #[] }])
  fields := #[{ name := "$assertionsDisabled", type := .boolean, accessFlags := 4120, slot := 0, constantValue := 0 }]
  methods := #[k9m0, k9m1, k9m2, k9m3]
  instanceTypes := #[]
  staticTypes := #[.boolean]
  resolved := Array.replicate 395 none
  statics := none }

def pool10 : Array CpInfo := pool [(2, .class_ 4), (1, u "java/lang/Object"), (15, .class_ 22), (1, u "com/example/indexweave/indexweave/core/Lines"), (0, u "utf8"), (0, u "Ljava/nio/charset/CharsetDecoder;"), (2, u "bytes"), (0, u "[B"), (37, u "number"), (0, u "I"), (10, u "(Ljava/lang/String;Ljava/lang/String;)Ljava/lang/String;"), (8, .class_ 89), (1, u "java/lang/String"), (56, .methodref 87 147), (0, .nameAndType 148 149), (0, u "isEmpty"), (0, u "()Z"), (87, u "start"), (68, u "id")] 53

def k10c0 : Code := { maxStack := 7, maxLocals := 2, code := prog_21_method_11_code, exceptionTable := #[], attributes := #[] }
def k10m0 : Method := { name := "id", desc := "(Ljava/lang/String;Ljava/lang/String;)Ljava/lang/String;", sig := { parameters := [(.object "java/lang/String"), (.object "java/lang/String")], returnType := some (.object "java/lang/String") }, accessFlags := 8, code := some k10c0 }
/-- com/example/indexweave/indexweave/core/Lines -/
def k10 : Class := { plain "com/example/indexweave/indexweave/core/Lines" (some 0) with
  accessFlags := 48
  interfaces := #[]
  cf := some (fileOf pool10 20 #[] #[{ accessFlags := 8, nameIndex := 306, descriptorIndex := 78, attributes := #[] }] 48 2 #[] #[{ accessFlags := 18, nameIndex := 27, descriptorIndex := 28, attributes := #[] }, { accessFlags := 18, nameIndex := 23, descriptorIndex := 24, attributes := #[] }, { accessFlags := 2, nameIndex := 237, descriptorIndex := 67, attributes := #[] }, { accessFlags := 2, nameIndex := 66, descriptorIndex := 67, attributes := #[] }])
  fields := #[{ name := "bytes", type := (.array .byte), accessFlags := 18, slot := 0, constantValue := 0 }, { name := "utf8", type := (.object "java/nio/charset/CharsetDecoder"), accessFlags := 18, slot := 1, constantValue := 0 }, { name := "start", type := .int, accessFlags := 2, slot := 2, constantValue := 0 }, { name := "number", type := .int, accessFlags := 2, slot := 3, constantValue := 0 }]
  methods := #[k10m0]
  instanceTypes := #[(.array .byte), (.object "java/nio/charset/CharsetDecoder"), .int, .int]
  staticTypes := #[]
  resolved := Array.replicate 360 none
  statics := none }

def pool11 : Array CpInfo := pool [(2, .class_ 4), (1, u "java/lang/Object"), (0, u "<init>"), (0, u "()V"), (17, .class_ 26), (1, u "jdk/internal/util/Preconditions"), (6, u "checkIndex"), (21, .class_ 56), (0, u "jdk/internal/util/Preconditions$4"), (57, .class_ 115), (0, u "jdk/internal/util/Preconditions$1"), (7, u "SIOOBE_FORMATTER"), (0, u "Ljava/util/function/BiFunction;"), (0, .class_ 126), (0, u "jdk/internal/util/Preconditions$2"), (3, u "AIOOBE_FORMATTER"), (0, .class_ 132), (0, u "jdk/internal/util/Preconditions$3"), (3, u "IOOBE_FORMATTER"), (41, u "(IILjava/util/function/BiFunction;)I")] 15

def k11m0 : Method := { name := "<init>", desc := "()V", sig := { parameters := [], returnType := none }, accessFlags := 1, code := none }
def k11c1 : Code := { maxStack := 3, maxLocals := 3, code := jdk_41_method_11_code, exceptionTable := #[], attributes := #[] }
def k11m1 : Method := { name := "checkIndex", desc := "(IILjava/util/function/BiFunction;)I", sig := { parameters := [.int, .int, (.object "java/util/function/BiFunction")], returnType := some .int }, accessFlags := 9, code := some k11c1 }
/-- jdk/internal/util/Preconditions -/
def k11 : Class := { plain "jdk/internal/util/Preconditions" (some 0) with
  accessFlags := 33
  interfaces := #[]
  cf := some (fileOf pool11 24 #[.nestMembers #[55, 131, 125, 114]] #[{ accessFlags := 1, nameIndex := 5, descriptorIndex := 6, attributes := #[] }, { accessFlags := 9, nameIndex := 33, descriptorIndex := 178, attributes := #[] }] 33 2 #[] #[{ accessFlags := 25, nameIndex := 123, descriptorIndex := 124, attributes := #[] }, { accessFlags := 25, nameIndex := 130, descriptorIndex := 124, attributes := #[] }, { accessFlags := 25, nameIndex := 136, descriptorIndex := 124, attributes := #[] }])
  fields := #[{ name := "SIOOBE_FORMATTER", type := (.object "java/util/function/BiFunction"), accessFlags := 25, slot := 0, constantValue := 0 }, { name := "AIOOBE_FORMATTER", type := (.object "java/util/function/BiFunction"), accessFlags := 25, slot := 1, constantValue := 0 }, { name := "IOOBE_FORMATTER", type := (.object "java/util/function/BiFunction"), accessFlags := 25, slot := 2, constantValue := 0 }]
  methods := #[k11m0, k11m1]
  instanceTypes := #[]
  staticTypes := #[(.object "java/util/function/BiFunction"), (.object "java/util/function/BiFunction"), (.object "java/util/function/BiFunction")]
  resolved := Array.replicate 194 none
  statics := some 2 }

def pool12 : Array CpInfo := pool [(9, u "<init>"), (6, .class_ 18), (1, u "java/lang/Object"), (0, u "()V"), (1, .class_ 23), (1, u "jdk/internal/util/ArraysSupport"), (0, u "LOG2_ARRAY_LONG_INDEX_SCALE"), (0, u "I"), (2, u "U"), (0, u "Ljdk/internal/misc/Unsafe;"), (8, u "BIG_ENDIAN"), (0, u "Z"), (8, u "LOG2_BYTE_BIT_SIZE"), (4, u "LOG2_ARRAY_INT_INDEX_SCALE"), (54, u "JLA"), (0, u "Ljdk/internal/access/JavaLangAccess;"), (11, u "LOG2_ARRAY_BOOLEAN_INDEX_SCALE"), (9, u "LOG2_ARRAY_BYTE_INDEX_SCALE"), (5, u "LOG2_ARRAY_CHAR_INDEX_SCALE"), (5, u "LOG2_ARRAY_SHORT_INDEX_SCALE"), (18, u "LOG2_ARRAY_FLOAT_INDEX_SCALE"), (24, u "LOG2_ARRAY_DOUBLE_INDEX_SCALE"), (89, u "T_BOOLEAN"), (2, u "T_CHAR"), (1, u "T_FLOAT"), (1, u "T_DOUBLE"), (1, u "T_BYTE"), (1, u "T_SHORT"), (1, u "T_INT"), (1, u "T_LONG"), (1, u "SOFT_MAX_ARRAY_LENGTH")] 83

def k12m0 : Method := { name := "<init>", desc := "()V", sig := { parameters := [], returnType := none }, accessFlags := 2, code := none }
/-- jdk/internal/util/ArraysSupport -/
def k12 : Class := { plain "jdk/internal/util/ArraysSupport" (some 0) with
  accessFlags := 33
  interfaces := #[]
  cf := some (fileOf pool12 21 #[] #[{ accessFlags := 2, nameIndex := 9, descriptorIndex := 19, attributes := #[] }] 33 16 #[] #[{ accessFlags := 24, nameIndex := 28, descriptorIndex := 29, attributes := #[] }, { accessFlags := 26, nameIndex := 38, descriptorIndex := 39, attributes := #[] }, { accessFlags := 25, nameIndex := 121, descriptorIndex := 25, attributes := #[] }, { accessFlags := 25, nameIndex := 131, descriptorIndex := 25, attributes := #[] }, { accessFlags := 25, nameIndex := 137, descriptorIndex := 25, attributes := #[] }, { accessFlags := 25, nameIndex := 143, descriptorIndex := 25, attributes := #[] }, { accessFlags := 25, nameIndex := 53, descriptorIndex := 25, attributes := #[] }, { accessFlags := 25, nameIndex := 24, descriptorIndex := 25, attributes := #[] }, { accessFlags := 25, nameIndex := 162, descriptorIndex := 25, attributes := #[] }, { accessFlags := 25, nameIndex := 187, descriptorIndex := 25, attributes := #[] }, { accessFlags := 26, nameIndex := 48, descriptorIndex := 25, attributes := #[] }, { accessFlags := 25, nameIndex := 277, descriptorIndex := 25, attributes := #[] }, { accessFlags := 25, nameIndex := 280, descriptorIndex := 25, attributes := #[] }, { accessFlags := 25, nameIndex := 282, descriptorIndex := 25, attributes := #[] }, { accessFlags := 25, nameIndex := 284, descriptorIndex := 25, attributes := #[] }, { accessFlags := 25, nameIndex := 286, descriptorIndex := 25, attributes := #[] }, { accessFlags := 25, nameIndex := 288, descriptorIndex := 25, attributes := #[] }, { accessFlags := 25, nameIndex := 290, descriptorIndex := 25, attributes := #[] }, { accessFlags := 25, nameIndex := 292, descriptorIndex := 25, attributes := #[] }, { accessFlags := 26, nameIndex := 108, descriptorIndex := 109, attributes := #[] }, { accessFlags := 25, nameIndex := 294, descriptorIndex := 25, attributes := #[] }])
  fields := #[{ name := "U", type := (.object "jdk/internal/misc/Unsafe"), accessFlags := 24, slot := 0, constantValue := 0 }, { name := "BIG_ENDIAN", type := .boolean, accessFlags := 26, slot := 1, constantValue := 0 }, { name := "LOG2_ARRAY_BOOLEAN_INDEX_SCALE", type := .int, accessFlags := 25, slot := 2, constantValue := 0 }, { name := "LOG2_ARRAY_BYTE_INDEX_SCALE", type := .int, accessFlags := 25, slot := 3, constantValue := 0 }, { name := "LOG2_ARRAY_CHAR_INDEX_SCALE", type := .int, accessFlags := 25, slot := 4, constantValue := 0 }, { name := "LOG2_ARRAY_SHORT_INDEX_SCALE", type := .int, accessFlags := 25, slot := 5, constantValue := 0 }, { name := "LOG2_ARRAY_INT_INDEX_SCALE", type := .int, accessFlags := 25, slot := 6, constantValue := 0 }, { name := "LOG2_ARRAY_LONG_INDEX_SCALE", type := .int, accessFlags := 25, slot := 7, constantValue := 0 }, { name := "LOG2_ARRAY_FLOAT_INDEX_SCALE", type := .int, accessFlags := 25, slot := 8, constantValue := 0 }, { name := "LOG2_ARRAY_DOUBLE_INDEX_SCALE", type := .int, accessFlags := 25, slot := 9, constantValue := 0 }, { name := "LOG2_BYTE_BIT_SIZE", type := .int, accessFlags := 26, slot := 10, constantValue := 0 }, { name := "T_BOOLEAN", type := .int, accessFlags := 25, slot := 11, constantValue := 0 }, { name := "T_CHAR", type := .int, accessFlags := 25, slot := 12, constantValue := 0 }, { name := "T_FLOAT", type := .int, accessFlags := 25, slot := 13, constantValue := 0 }, { name := "T_DOUBLE", type := .int, accessFlags := 25, slot := 14, constantValue := 0 }, { name := "T_BYTE", type := .int, accessFlags := 25, slot := 15, constantValue := 0 }, { name := "T_SHORT", type := .int, accessFlags := 25, slot := 16, constantValue := 0 }, { name := "T_INT", type := .int, accessFlags := 25, slot := 17, constantValue := 0 }, { name := "T_LONG", type := .int, accessFlags := 25, slot := 18, constantValue := 0 }, { name := "JLA", type := (.object "jdk/internal/access/JavaLangAccess"), accessFlags := 26, slot := 19, constantValue := 0 }, { name := "SOFT_MAX_ARRAY_LENGTH", type := .int, accessFlags := 25, slot := 20, constantValue := 0 }]
  methods := #[k12m0]
  instanceTypes := #[]
  staticTypes := #[(.object "jdk/internal/misc/Unsafe"), .boolean, .int, .int, .int, .int, .int, .int, .int, .int, .int, .int, .int, .int, .int, .int, .int, .int, .int, (.object "jdk/internal/access/JavaLangAccess"), .int]
  resolved := Array.replicate 378 none
  statics := none }

def pool13 : Array CpInfo := pool [(1, u "java/lang/Cloneable"), (0, .class_ 1), (0, u "java/lang/Object"), (0, .class_ 3)] 3

/-- java/lang/Cloneable -/
def k13 : Class := { plain "java/lang/Cloneable" (some 0) with
  accessFlags := 1537
  interfaces := #[]
  cf := some (fileOf pool13 2 #[] #[] 1537 4 #[] #[])
  fields := #[]
  methods := #[]
  instanceTypes := #[]
  staticTypes := #[]
  resolved := Array.replicate 8 none
  statics := none }

/-- the primitive byte -/
def k14 : Class := { plain "byte" none with kind := .primitive 'B', accessFlags := 0x411 }
/-- [B -/
def k15 : Class := { plain "[B" (some 0) with kind := .array 14 .byte, interfaces := #[13, 2], accessFlags := 1041 }

/-- the primitive char -/
def k16 : Class := { plain "char" none with kind := .primitive 'C', accessFlags := 0x411 }
/-- [C -/
def k17 : Class := { plain "[C" (some 0) with kind := .array 16 .char, interfaces := #[13, 2], accessFlags := 1041 }

/-- the primitive int -/
def k18 : Class := { plain "int" none with kind := .primitive 'I', accessFlags := 0x411 }
/-- [I -/
def k19 : Class := { plain "[I" (some 0) with kind := .array 18 .int, interfaces := #[13, 2], accessFlags := 1041 }

def heap : Heap := #[{ cls := 7, slots := #[.long 0, .int 1, .null, .int 0, .null, .int 0, .int 0], vm := .statics 7 },
  { cls := 8, slots := #[.int 0, .int 8, .int 0, .int 1], vm := .statics 8 },
  { cls := 11, slots := #[.null, .null, .null], vm := .statics 11 }]
def classes : Array Class := #[k0, k1, k2, k3, k4, k5, k6, k7, k8, k9, k10, k11, k12, k13, k14, k15, k16, k17, k18, k19]
def interned : List (Array UInt16 × Addr) := []
def slotsUsed : Nat := 14
def theMethod : MethodId := ⟨1, 1⟩
def args0 : Array Value := #[.int 65, .int 66, .int 300, .int 2, .int 7]
def aboutOver (below : List Frame) : State where
  vm := { classes := classes, interned := interned.toArray }
  heap := heap
  slotsUsed := slotsUsed
  threads := #[{ frames := .invoking theMethod args0 :: below }]
def below0 : List Frame := [.native { method := ⟨0, 0⟩, args := #[] }]
def about1 : State := aboutOver below0
def p0 : Program := .bare "" "" ""
def e0 : Env := launch0.env 0 0 0
theorem w_frames : about1.frames = Frame.invoking theMethod args0 :: below0 := rfl
set_option maxRecDepth 65536 in
theorem w_args : argsFit about1.vm theMethod args0 = true := by decide +kernel
set_option maxRecDepth 65536 in
theorem w_heap : heapFits about1 = true := by decide +kernel
set_option maxRecDepth 65536 in
theorem w_runnable : about1.curStatus? = some .runnable := by decide +kernel
set_option maxRecDepth 65536 in
theorem w_alone : about1.alone = true := by decide +kernel
set_option maxRecDepth 65536 in
theorem w_named : about1.methodNamed? x = some theMethod := by decide +kernel
set_option maxRecDepth 65536 in
theorem w_hears : about1.hears theMethod below0 = true := by decide +kernel
set_option maxRecDepth 65536 in
theorem w_ripe : about1.ripe theMethod args0 below0 = true := by decide +kernel
theorem w_running : about1.status = .running := rfl
set_option maxRecDepth 65536 in
theorem w_room : about1.hasRoom e0.platform room_1 = true :=
  launch0.hasRoom_least _ room_1 (by decide +kernel) (by decide +kernel) (by decide +kernel) (by decide +kernel) (by decide +kernel) (by decide +kernel)
theorem allAtoms_all (ts : List Jvm.Cond) (a : Array Jvm.Value) (st : Jvm.State) : (allAtoms ts).before a st = ts.all (fun c => c.before a st) := by
  induction ts with
  | nil => rfl
  | cons c t ih =>
    show (Jvm.Cond.and c (allAtoms t)).before a st = _
    rw [Jvm.Cond.before_and, ih, List.all_cons]
def words1 : List Jvm.Cond := Jvm.Cond.code x code maxLocals ret :: tables_1
/-- a 'code' word, met by the world's own term for the bytes: nothing is compared byte by byte -/
theorem code_word {y : MethodName} {bytes : ByteArray} {mx : Nat} {rt : Option FieldType} {a : Array Value} {s : State} {m : MethodId} {meth : Method} {c : Code} (h1 : s.methodNamed? y = some m) (h2 : s.vm.method? m = some meth) (h3 : meth.code = some c) (h4 : c.code = bytes)
    (h5 : (c.maxLocals == mx && c.exceptionTable.isEmpty && decide (c.maxStack ≤ mostOperands) && decide (meth.sig.returnType = rt) && !meth.locks && decide (parseMethodDescriptor y.desc = some meth.sig)) = true) : (Jvm.Cond.code y bytes mx rt).before a s = true := by
  simp only [Bool.and_eq_true, beq_iff_eq, Bool.not_eq_true', decide_eq_true_eq] at h5
  obtain ⟨⟨⟨⟨⟨g1, g2⟩, g3⟩, g4⟩, g5⟩, g6⟩ := h5
  simp [Cond.before, Cond.holds, Cond.value, h1, h2, h3, h4, g1, g2, g3, g4, g5, g6]
def isCode : Jvm.Cond → Bool
  | .code _ _ _ _ => true
  | _ => false
theorem all_split {L : List Jvm.Cond} {P : Jvm.Cond → Bool} (h1 : L.all (fun c => isCode c || P c) = true) (h2 : ∀ c ∈ L.filter isCode, P c = true) : L.all P = true := by
  refine List.all_eq_true.mpr fun c hc => ?_
  have h := List.all_eq_true.mp h1 c hc
  rcases Bool.eq_false_or_eq_true (isCode c) with hi | hi
  · exact h2 c (List.mem_filter.mpr ⟨hc, hi⟩)
  · simpa [hi] using h
set_option maxRecDepth 65536 in
theorem w_c0 : (Jvm.Cond.code x code maxLocals ret).before args0 about1 = true := code_word (m := ⟨1, 1⟩) (meth := k1m1) (c := k1c1) (by decide +kernel) rfl rfl rfl (by decide +kernel)
set_option maxRecDepth 65536 in
theorem w_c1 : (Jvm.Cond.code ({ cls := "java/lang/String", name := "<init>", desc := "([C)V" } : Jvm.MethodName) jdk_42_method_3_code (2 : Nat) (Option.none : Option Jvm.ClassFile.FieldType)).before args0 about1 = true := code_word (m := ⟨7, 1⟩) (meth := k7m1) (c := k7c1) (by decide +kernel) rfl rfl rfl (by decide +kernel)
set_option maxRecDepth 65536 in
theorem w_c2 : (Jvm.Cond.code ({ cls := "java/lang/String", name := "<init>", desc := "([CIILjava/lang/Void;)V" } : Jvm.MethodName) jdk_42_method_149_code (6 : Nat) (Option.none : Option Jvm.ClassFile.FieldType)).before args0 about1 = true := code_word (m := ⟨7, 7⟩) (meth := k7m7) (c := k7c7) (by decide +kernel) rfl rfl rfl (by decide +kernel)
set_option maxRecDepth 65536 in
theorem w_c3 : (Jvm.Cond.code ({ cls := "java/lang/Object", name := "<init>", desc := "()V" } : Jvm.MethodName) object_method_1_code (1 : Nat) (Option.none : Option Jvm.ClassFile.FieldType)).before args0 about1 = true := code_word (m := ⟨0, 0⟩) (meth := k0m0) (c := k0c0) (by decide +kernel) rfl rfl rfl (by decide +kernel)
set_option maxRecDepth 65536 in
theorem w_c4 : (Jvm.Cond.code ({ cls := "java/lang/StringUTF16", name := "compress", desc := "([CII)[B" } : Jvm.MethodName) jdk_52_method_16_code (6 : Nat) (Option.some (Jvm.ClassFile.FieldType.array Jvm.ClassFile.FieldType.byte))).before args0 about1 = true := code_word (m := ⟨8, 8⟩) (meth := k8m8) (c := k8c8) (by decide +kernel) rfl rfl rfl (by decide +kernel)
set_option maxRecDepth 65536 in
theorem w_c5 : (Jvm.Cond.code ({ cls := "java/lang/StringUTF16", name := "compress", desc := "([CI[BII)I" } : Jvm.MethodName) jdk_52_method_21_code (7 : Nat) (Option.some Jvm.ClassFile.FieldType.int)).before args0 about1 = true := code_word (m := ⟨8, 9⟩) (meth := k8m9) (c := k8c9) (by decide +kernel) rfl rfl rfl (by decide +kernel)
set_option maxRecDepth 65536 in
theorem w_c6 : (Jvm.Cond.code ({ cls := "java/lang/StringUTF16", name := "coderFromArrayLen", desc := "([BI)B" } : Jvm.MethodName) jdk_52_method_15_code (2 : Nat) (Option.some Jvm.ClassFile.FieldType.byte)).before args0 about1 = true := code_word (m := ⟨8, 7⟩) (meth := k8m7) (c := k8c7) (by decide +kernel) rfl rfl rfl (by decide +kernel)
set_option maxRecDepth 65536 in
theorem w_c7 : (Jvm.Cond.code ({ cls := "java/lang/String", name := "valueOf", desc := "(C)Ljava/lang/String;" } : Jvm.MethodName) jdk_42_method_139_code (1 : Nat) (Option.some (Jvm.ClassFile.FieldType.object "java/lang/String"))).before args0 about1 = true := code_word (m := ⟨7, 6⟩) (meth := k7m6) (c := k7c6) (by decide +kernel) rfl rfl rfl (by decide +kernel)
set_option maxRecDepth 65536 in
theorem w_c8 : (Jvm.Cond.code ({ cls := "java/lang/StringLatin1", name := "canEncode", desc := "(C)Z" } : Jvm.MethodName) jdk_43_method_3_code (1 : Nat) (Option.some Jvm.ClassFile.FieldType.boolean)).before args0 about1 = true := code_word (m := ⟨9, 2⟩) (meth := k9m2) (c := k9c2) (by decide +kernel) rfl rfl rfl (by decide +kernel)
set_option maxRecDepth 65536 in
theorem w_c9 : (Jvm.Cond.code ({ cls := "java/lang/StringLatin1", name := "toBytes", desc := "(C)[B" } : Jvm.MethodName) jdk_43_method_46_code (1 : Nat) (Option.some (Jvm.ClassFile.FieldType.array Jvm.ClassFile.FieldType.byte))).before args0 about1 = true := code_word (m := ⟨9, 3⟩) (meth := k9m3) (c := k9c3) (by decide +kernel) rfl rfl rfl (by decide +kernel)
set_option maxRecDepth 65536 in
theorem w_c10 : (Jvm.Cond.code ({ cls := "java/lang/String", name := "<init>", desc := "([BB)V" } : Jvm.MethodName) jdk_42_method_151_code (3 : Nat) (Option.none : Option Jvm.ClassFile.FieldType)).before args0 about1 = true := code_word (m := ⟨7, 8⟩) (meth := k7m8) (c := k7c8) (by decide +kernel) rfl rfl rfl (by decide +kernel)
set_option maxRecDepth 65536 in
theorem w_c11 : (Jvm.Cond.code ({ cls := "com/example/indexweave/indexweave/core/Lines", name := "id", desc := "(Ljava/lang/String;Ljava/lang/String;)Ljava/lang/String;" } : Jvm.MethodName) prog_21_method_11_code (2 : Nat) (Option.some (Jvm.ClassFile.FieldType.object "java/lang/String"))).before args0 about1 = true := code_word (m := ⟨10, 0⟩) (meth := k10m0) (c := k10c0) (by decide +kernel) rfl rfl rfl (by decide +kernel)
set_option maxRecDepth 65536 in
theorem w_c12 : (Jvm.Cond.code ({ cls := "java/lang/String", name := "isEmpty", desc := "()Z" } : Jvm.MethodName) jdk_42_method_55_code (1 : Nat) (Option.some Jvm.ClassFile.FieldType.boolean)).before args0 about1 = true := code_word (m := ⟨7, 3⟩) (meth := k7m3) (c := k7c3) (by decide +kernel) rfl rfl rfl (by decide +kernel)
set_option maxRecDepth 65536 in
theorem w_c13 : (Jvm.Cond.code ({ cls := "java/lang/String", name := "length", desc := "()I" } : Jvm.MethodName) jdk_42_method_54_code (1 : Nat) (Option.some Jvm.ClassFile.FieldType.int)).before args0 about1 = true := code_word (m := ⟨7, 2⟩) (meth := k7m2) (c := k7c2) (by decide +kernel) rfl rfl rfl (by decide +kernel)
set_option maxRecDepth 65536 in
theorem w_c14 : (Jvm.Cond.code ({ cls := "java/lang/String", name := "coder", desc := "()B" } : Jvm.MethodName) jdk_42_method_152_code (1 : Nat) (Option.some Jvm.ClassFile.FieldType.byte)).before args0 about1 = true := code_word (m := ⟨7, 9⟩) (meth := k7m9) (c := k7c9) (by decide +kernel) rfl rfl rfl (by decide +kernel)
set_option maxRecDepth 65536 in
theorem w_c15 : (Jvm.Cond.code ({ cls := "java/lang/String", name := "charAt", desc := "(I)C" } : Jvm.MethodName) jdk_42_method_56_code (2 : Nat) (Option.some Jvm.ClassFile.FieldType.char)).before args0 about1 = true := code_word (m := ⟨7, 4⟩) (meth := k7m4) (c := k7c4) (by decide +kernel) rfl rfl rfl (by decide +kernel)
set_option maxRecDepth 65536 in
theorem w_c16 : (Jvm.Cond.code ({ cls := "java/lang/String", name := "isLatin1", desc := "()Z" } : Jvm.MethodName) jdk_42_method_154_code (1 : Nat) (Option.some Jvm.ClassFile.FieldType.boolean)).before args0 about1 = true := code_word (m := ⟨7, 10⟩) (meth := k7m10) (c := k7c10) (by decide +kernel) rfl rfl rfl (by decide +kernel)
set_option maxRecDepth 65536 in
theorem w_c17 : (Jvm.Cond.code ({ cls := "java/lang/StringLatin1", name := "charAt", desc := "([BI)C" } : Jvm.MethodName) jdk_43_method_2_code (2 : Nat) (Option.some Jvm.ClassFile.FieldType.char)).before args0 about1 = true := code_word (m := ⟨9, 1⟩) (meth := k9m1) (c := k9c1) (by decide +kernel) rfl rfl rfl (by decide +kernel)
set_option maxRecDepth 65536 in
theorem w_c18 : (Jvm.Cond.code ({ cls := "java/lang/String", name := "checkIndex", desc := "(II)V" } : Jvm.MethodName) jdk_42_method_155_code (2 : Nat) (Option.none : Option Jvm.ClassFile.FieldType)).before args0 about1 = true := code_word (m := ⟨7, 11⟩) (meth := k7m11) (c := k7c11) (by decide +kernel) rfl rfl rfl (by decide +kernel)
set_option maxRecDepth 65536 in
theorem w_c19 : (Jvm.Cond.code ({ cls := "jdk/internal/util/Preconditions", name := "checkIndex", desc := "(IILjava/util/function/BiFunction;)I" } : Jvm.MethodName) jdk_41_method_11_code (3 : Nat) (Option.some Jvm.ClassFile.FieldType.int)).before args0 about1 = true := code_word (m := ⟨11, 1⟩) (meth := k11m1) (c := k11c1) (by decide +kernel) rfl rfl rfl (by decide +kernel)
set_option maxRecDepth 65536 in
theorem w_c20 : (Jvm.Cond.code ({ cls := "java/lang/String", name := "equals", desc := "(Ljava/lang/Object;)Z" } : Jvm.MethodName) jdk_42_method_66_code (3 : Nat) (Option.some Jvm.ClassFile.FieldType.boolean)).before args0 about1 = true := code_word (m := ⟨7, 5⟩) (meth := k7m5) (c := k7c5) (by decide +kernel) rfl rfl rfl (by decide +kernel)
set_option maxRecDepth 65536 in
theorem w_c21 : (Jvm.Cond.code ({ cls := "java/lang/StringUTF16", name := "toBytes", desc := "([CII)[B" } : Jvm.MethodName) jdk_52_method_14_code (5 : Nat) (Option.some (Jvm.ClassFile.FieldType.array Jvm.ClassFile.FieldType.byte))).before args0 about1 = true := code_word (m := ⟨8, 6⟩) (meth := k8m6) (c := k8c6) (by decide +kernel) rfl rfl rfl (by decide +kernel)
set_option maxRecDepth 65536 in
theorem w_c22 : (Jvm.Cond.code ({ cls := "java/lang/StringUTF16", name := "newBytesFor", desc := "(I)[B" } : Jvm.MethodName) jdk_52_method_2_code (1 : Nat) (Option.some (Jvm.ClassFile.FieldType.array Jvm.ClassFile.FieldType.byte))).before args0 about1 = true := code_word (m := ⟨8, 1⟩) (meth := k8m1) (c := k8c1) (by decide +kernel) rfl rfl rfl (by decide +kernel)
set_option maxRecDepth 65536 in
theorem w_c23 : (Jvm.Cond.code ({ cls := "java/lang/StringUTF16", name := "newBytesLength", desc := "(I)I" } : Jvm.MethodName) jdk_52_method_3_code (1 : Nat) (Option.some Jvm.ClassFile.FieldType.int)).before args0 about1 = true := code_word (m := ⟨8, 2⟩) (meth := k8m2) (c := k8c2) (by decide +kernel) rfl rfl rfl (by decide +kernel)
set_option maxRecDepth 65536 in
theorem w_c24 : (Jvm.Cond.code ({ cls := "java/lang/StringUTF16", name := "putChar", desc := "([BII)V" } : Jvm.MethodName) jdk_52_method_4_code (3 : Nat) (Option.none : Option Jvm.ClassFile.FieldType)).before args0 about1 = true := code_word (m := ⟨8, 3⟩) (meth := k8m3) (c := k8c3) (by decide +kernel) rfl rfl rfl (by decide +kernel)
set_option maxRecDepth 65536 in
theorem w_c25 : (Jvm.Cond.code ({ cls := "java/lang/StringUTF16", name := "getChar", desc := "([BI)C" } : Jvm.MethodName) jdk_52_method_5_code (2 : Nat) (Option.some Jvm.ClassFile.FieldType.char)).before args0 about1 = true := code_word (m := ⟨8, 4⟩) (meth := k8m4) (c := k8c4) (by decide +kernel) rfl rfl rfl (by decide +kernel)
set_option maxRecDepth 65536 in
theorem w_c26 : (Jvm.Cond.code ({ cls := "java/lang/StringUTF16", name := "charAt", desc := "([BI)C" } : Jvm.MethodName) jdk_52_method_83_code (2 : Nat) (Option.some Jvm.ClassFile.FieldType.char)).before args0 about1 = true := code_word (m := ⟨8, 10⟩) (meth := k8m10) (c := k8c10) (by decide +kernel) rfl rfl rfl (by decide +kernel)
set_option maxRecDepth 65536 in
theorem w_c27 : (Jvm.Cond.code ({ cls := "java/lang/StringUTF16", name := "checkIndex", desc := "(I[B)V" } : Jvm.MethodName) jdk_52_method_91_code (2 : Nat) (Option.none : Option Jvm.ClassFile.FieldType)).before args0 about1 = true := code_word (m := ⟨8, 11⟩) (meth := k8m11) (c := k8c11) (by decide +kernel) rfl rfl rfl (by decide +kernel)
set_option maxRecDepth 65536 in
theorem w_c28 : (Jvm.Cond.code ({ cls := "java/lang/StringUTF16", name := "length", desc := "([B)I" } : Jvm.MethodName) jdk_52_method_6_code (1 : Nat) (Option.some Jvm.ClassFile.FieldType.int)).before args0 about1 = true := code_word (m := ⟨8, 5⟩) (meth := k8m5) (c := k8c5) (by decide +kernel) rfl rfl rfl (by decide +kernel)
def codes1 : List Jvm.Cond := [Jvm.Cond.code x code maxLocals ret, Jvm.Cond.code ({ cls := "java/lang/String", name := "<init>", desc := "([C)V" } : Jvm.MethodName) jdk_42_method_3_code (2 : Nat) (Option.none : Option Jvm.ClassFile.FieldType), Jvm.Cond.code ({ cls := "java/lang/String", name := "<init>", desc := "([CIILjava/lang/Void;)V" } : Jvm.MethodName) jdk_42_method_149_code (6 : Nat) (Option.none : Option Jvm.ClassFile.FieldType), Jvm.Cond.code ({ cls := "java/lang/Object", name := "<init>", desc := "()V" } : Jvm.MethodName) object_method_1_code (1 : Nat) (Option.none : Option Jvm.ClassFile.FieldType), Jvm.Cond.code ({ cls := "java/lang/StringUTF16", name := "compress", desc := "([CII)[B" } : Jvm.MethodName) jdk_52_method_16_code (6 : Nat) (Option.some (Jvm.ClassFile.FieldType.array Jvm.ClassFile.FieldType.byte)), Jvm.Cond.code ({ cls := "java/lang/StringUTF16", name := "compress", desc := "([CI[BII)I" } : Jvm.MethodName) jdk_52_method_21_code (7 : Nat) (Option.some Jvm.ClassFile.FieldType.int), Jvm.Cond.code ({ cls := "java/lang/StringUTF16", name := "coderFromArrayLen", desc := "([BI)B" } : Jvm.MethodName) jdk_52_method_15_code (2 : Nat) (Option.some Jvm.ClassFile.FieldType.byte), Jvm.Cond.code ({ cls := "java/lang/String", name := "valueOf", desc := "(C)Ljava/lang/String;" } : Jvm.MethodName) jdk_42_method_139_code (1 : Nat) (Option.some (Jvm.ClassFile.FieldType.object "java/lang/String")), Jvm.Cond.code ({ cls := "java/lang/StringLatin1", name := "canEncode", desc := "(C)Z" } : Jvm.MethodName) jdk_43_method_3_code (1 : Nat) (Option.some Jvm.ClassFile.FieldType.boolean), Jvm.Cond.code ({ cls := "java/lang/StringLatin1", name := "toBytes", desc := "(C)[B" } : Jvm.MethodName) jdk_43_method_46_code (1 : Nat) (Option.some (Jvm.ClassFile.FieldType.array Jvm.ClassFile.FieldType.byte)), Jvm.Cond.code ({ cls := "java/lang/String", name := "<init>", desc := "([BB)V" } : Jvm.MethodName) jdk_42_method_151_code (3 : Nat) (Option.none : Option Jvm.ClassFile.FieldType), Jvm.Cond.code ({ cls := "com/example/indexweave/indexweave/core/Lines", name := "id", desc := "(Ljava/lang/String;Ljava/lang/String;)Ljava/lang/String;" } : Jvm.MethodName) prog_21_method_11_code (2 : Nat) (Option.some (Jvm.ClassFile.FieldType.object "java/lang/String")), Jvm.Cond.code ({ cls := "java/lang/String", name := "isEmpty", desc := "()Z" } : Jvm.MethodName) jdk_42_method_55_code (1 : Nat) (Option.some Jvm.ClassFile.FieldType.boolean), Jvm.Cond.code ({ cls := "java/lang/String", name := "length", desc := "()I" } : Jvm.MethodName) jdk_42_method_54_code (1 : Nat) (Option.some Jvm.ClassFile.FieldType.int), Jvm.Cond.code ({ cls := "java/lang/String", name := "coder", desc := "()B" } : Jvm.MethodName) jdk_42_method_152_code (1 : Nat) (Option.some Jvm.ClassFile.FieldType.byte), Jvm.Cond.code ({ cls := "java/lang/String", name := "charAt", desc := "(I)C" } : Jvm.MethodName) jdk_42_method_56_code (2 : Nat) (Option.some Jvm.ClassFile.FieldType.char), Jvm.Cond.code ({ cls := "java/lang/String", name := "isLatin1", desc := "()Z" } : Jvm.MethodName) jdk_42_method_154_code (1 : Nat) (Option.some Jvm.ClassFile.FieldType.boolean), Jvm.Cond.code ({ cls := "java/lang/StringLatin1", name := "charAt", desc := "([BI)C" } : Jvm.MethodName) jdk_43_method_2_code (2 : Nat) (Option.some Jvm.ClassFile.FieldType.char), Jvm.Cond.code ({ cls := "java/lang/String", name := "checkIndex", desc := "(II)V" } : Jvm.MethodName) jdk_42_method_155_code (2 : Nat) (Option.none : Option Jvm.ClassFile.FieldType), Jvm.Cond.code ({ cls := "jdk/internal/util/Preconditions", name := "checkIndex", desc := "(IILjava/util/function/BiFunction;)I" } : Jvm.MethodName) jdk_41_method_11_code (3 : Nat) (Option.some Jvm.ClassFile.FieldType.int), Jvm.Cond.code ({ cls := "java/lang/String", name := "equals", desc := "(Ljava/lang/Object;)Z" } : Jvm.MethodName) jdk_42_method_66_code (3 : Nat) (Option.some Jvm.ClassFile.FieldType.boolean), Jvm.Cond.code ({ cls := "java/lang/StringUTF16", name := "toBytes", desc := "([CII)[B" } : Jvm.MethodName) jdk_52_method_14_code (5 : Nat) (Option.some (Jvm.ClassFile.FieldType.array Jvm.ClassFile.FieldType.byte)), Jvm.Cond.code ({ cls := "java/lang/StringUTF16", name := "newBytesFor", desc := "(I)[B" } : Jvm.MethodName) jdk_52_method_2_code (1 : Nat) (Option.some (Jvm.ClassFile.FieldType.array Jvm.ClassFile.FieldType.byte)), Jvm.Cond.code ({ cls := "java/lang/StringUTF16", name := "newBytesLength", desc := "(I)I" } : Jvm.MethodName) jdk_52_method_3_code (1 : Nat) (Option.some Jvm.ClassFile.FieldType.int), Jvm.Cond.code ({ cls := "java/lang/StringUTF16", name := "putChar", desc := "([BII)V" } : Jvm.MethodName) jdk_52_method_4_code (3 : Nat) (Option.none : Option Jvm.ClassFile.FieldType), Jvm.Cond.code ({ cls := "java/lang/StringUTF16", name := "getChar", desc := "([BI)C" } : Jvm.MethodName) jdk_52_method_5_code (2 : Nat) (Option.some Jvm.ClassFile.FieldType.char), Jvm.Cond.code ({ cls := "java/lang/StringUTF16", name := "charAt", desc := "([BI)C" } : Jvm.MethodName) jdk_52_method_83_code (2 : Nat) (Option.some Jvm.ClassFile.FieldType.char), Jvm.Cond.code ({ cls := "java/lang/StringUTF16", name := "checkIndex", desc := "(I[B)V" } : Jvm.MethodName) jdk_52_method_91_code (2 : Nat) (Option.none : Option Jvm.ClassFile.FieldType), Jvm.Cond.code ({ cls := "java/lang/StringUTF16", name := "length", desc := "([B)I" } : Jvm.MethodName) jdk_52_method_6_code (1 : Nat) (Option.some Jvm.ClassFile.FieldType.int)]
set_option maxRecDepth 65536 in
theorem codes_eq : words1.filter isCode = codes1 := rfl
theorem w_codes : ∀ c ∈ words1.filter isCode, c.before args0 about1 = true := by
  rw [codes_eq]
  intro c hc
  simp only [codes1, List.mem_cons, List.not_mem_nil, or_false] at hc
  rcases hc with rfl | rfl | rfl | rfl | rfl | rfl | rfl | rfl | rfl | rfl | rfl | rfl | rfl | rfl | rfl | rfl | rfl | rfl | rfl | rfl | rfl | rfl | rfl | rfl | rfl | rfl | rfl | rfl | rfl
  · exact w_c0
  · exact w_c1
  · exact w_c2
  · exact w_c3
  · exact w_c4
  · exact w_c5
  · exact w_c6
  · exact w_c7
  · exact w_c8
  · exact w_c9
  · exact w_c10
  · exact w_c11
  · exact w_c12
  · exact w_c13
  · exact w_c14
  · exact w_c15
  · exact w_c16
  · exact w_c17
  · exact w_c18
  · exact w_c19
  · exact w_c20
  · exact w_c21
  · exact w_c22
  · exact w_c23
  · exact w_c24
  · exact w_c25
  · exact w_c26
  · exact w_c27
  · exact w_c28
set_option maxRecDepth 65536 in
theorem w_t1 : (words1.take 24).all (fun c => isCode c || c.before args0 about1) = true := by decide +kernel
set_option maxRecDepth 65536 in
theorem w_t2 : ((words1.drop 24).take 24).all (fun c => isCode c || c.before args0 about1) = true := by decide +kernel
set_option maxRecDepth 65536 in
theorem w_t3 : (((words1.drop 24).drop 24).take 24).all (fun c => isCode c || c.before args0 about1) = true := by decide +kernel
set_option maxRecDepth 65536 in
theorem w_t4 : ((((words1.drop 24).drop 24).drop 24).take 24).all (fun c => isCode c || c.before args0 about1) = true := by decide +kernel
set_option maxRecDepth 65536 in
theorem w_t5 : (((((words1.drop 24).drop 24).drop 24).drop 24).take 24).all (fun c => isCode c || c.before args0 about1) = true := by decide +kernel
set_option maxRecDepth 65536 in
theorem w_t6 : (((((words1.drop 24).drop 24).drop 24).drop 24).drop 24).all (fun c => isCode c || c.before args0 about1) = true := by decide +kernel
theorem w_tables : (allAtoms (Jvm.Cond.code x code maxLocals ret :: tables_1)).before args0 about1 = true := by
  rw [allAtoms_all]
  show words1.all (fun c => c.before args0 about1) = true
  refine all_split ?_ w_codes
  rw [← List.take_append_drop 24 words1, List.all_append, w_t1, ← List.take_append_drop 24 (words1.drop 24), List.all_append, w_t2, ← List.take_append_drop 24 ((words1.drop 24).drop 24), List.all_append, w_t3, ← List.take_append_drop 24 (((words1.drop 24).drop 24).drop 24), List.all_append, w_t4, ← List.take_append_drop 24 ((((words1.drop 24).drop 24).drop 24).drop 24), List.all_append, w_t5, w_t6]
  rfl
set_option maxRecDepth 65536 in
theorem w_rest : rest_1_c.before args0 about1 = true := by decide +kernel
set_option maxRecDepth 65536 in
theorem w_case : (Jvm.Cond.and given_1 narrow_1).before args0 about1 = true := by decide +kernel
theorem w_applies : (headSpec (Jvm.Cond.code x code maxLocals ret :: tables_1) room_1).applies x e0.platform about1 = true :=
  (Spec.applies_iff w_frames).mpr ⟨w_running, w_runnable, w_alone, w_named, w_hears, w_ripe, w_room, w_tables⟩
theorem atStart : AtStart classFile x code maxLocals ret World_1 tables_1 room_1 Calls_1 rest_1 Pre_1 launch0 p0 e0 about1 theMethod args0 below0 :=
  ⟨lists_1, trivial, launch0.admits_env _ _ _, launch0.least_env, fairChoices_fair.cas, fairChoices_fair.clock, w_frames, w_args, w_heap, w_applies, trivial, w_rest, w_case⟩
end start1
theorem witness_1 : WitnessClaimed_1 := ⟨start1.p0, start1.e0, start1.about1, start1.theMethod, start1.args0, start1.below0, start1.atStart⟩
end Jvm.Pilot.@@N@@
