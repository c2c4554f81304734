import JvmDerived
import JvmDerived.Pilot.@@N@@Statement
import JvmDerived.Pilot.@@N@@Code
set_option linter.unusedVariables false
set_option linter.unusedSimpArgs false
namespace Jvm.OwnKit
open Jvm Jvm.ClassFile Sem Op Lib Jvm.Free Jvm.Stand Jvm.LawKit Jvm.RoadKit
/-- from the frame f at T the invocation comes to an end of which P holds -/
def Goes (p : Program) (e : Env) (below : List Frame) (P : Outcome → State → Prop) (T : State) (f : JFrame) : Prop :=
  ∃ s₂ o, Steps p.tables e below (T.setTop f) s₂ ∧ s₂.status = .running ∧ Ended s₂ below o ∧ P o s₂
theorem Goes.step {p : Program} {e : Env} {below : List Frame} {P : Outcome → State → Prop} {T T' : State} {f f' : JFrame} (K : Goes p e below P T' f') (q : ∀ t, Steps p.tables e below (T'.setTop f') t → Steps p.tables e below (T.setTop f) t) : Goes p e below P T f := by
  obtain ⟨s₂, o, h1, h2⟩ := K; exact ⟨s₂, o, q _ h1, h2⟩
/-- THE WALK STANDS at T over the heap h: what was written lies above n0; at most k cells of n slots were made; over h0 only the cells of ws have turned -/
def Wk (p : Program) (l : Launch) (e : Env) (R : Room) (s : State) (m : MethodId) (args : Array Value) (below : List Frame) (meth : Method) (c : Code)
    (Z : State) (own : String) (bytes : ByteArray) (maxL : Nat) (ret : Option FieldType) (mn : String) (n0 : Nat) (h0 : Heap) (ws : List Addr) (T : State) (h : Heap) (k n : Nat) : Prop :=
  (p.tables.exec = Jvm.exec ∧ c.code = bytes ∧ c.maxLocals = maxL ∧ Z.Warmed39 s.vm ∧ s.vm.findClass own = some m.cls ∧ meth.sig.returnType = ret ∧ meth.locks = false ∧ meth.name = mn ∧ (∀ x ∈ ws, n0 ≤ x) ∧ n0 ≤ h0.size) ∧
  ∃ locs cells slots, Stand p l e R s m args below meth c T locs cells slots ∧ T.heap = h ∧ Fr n0 locs ∧ cells ≤ k ∧ slots ≤ n ∧ Old Z n0 h ∧ Keep h0 h ws
section Steps
variable {p : Program} {l : Launch} {e : Env} {R : Room} {s : State} {m : MethodId} {args : Array Value} {below : List Frame} {meth : Method} {c : Code} {Z : State} {own : String} {bytes : ByteArray} {maxL : Nat} {ret : Option FieldType} {mn : String} {n0 : Nat} {h0 : Heap} {ws : List Addr} {T : State} {h : Heap} {k n : Nat} {P : Outcome → State → Prop} {Ls : Array Slot} {st : List Value} {pc pc' : Nat} {a0 : Array Value}
theorem Wk.mono (w : Wk p l e R s m args below meth c Z own bytes maxL ret mn n0 h0 ws T h k n) {k' n' : Nat} (hk : k ≤ k') (hn : n ≤ n') : Wk p l e R s m args below meth c Z own bytes maxL ret mn n0 h0 ws T h k' n' := by
  obtain ⟨cx, locs, cells, slots, X, e1, N, a, b, r⟩ := w; exact ⟨cx, locs, cells, slots, X, e1, N, Nat.le_trans a hk, Nat.le_trans b hn, r⟩
theorem Wk.kp (w : Wk p l e R s m args below meth c Z own bytes maxL ret mn n0 h0 ws T h k n) : Keep h0 h ws := w.2.choose_spec.choose_spec.choose_spec.2.2.2.2.2.2
theorem Wk.old (w : Wk p l e R s m args below meth c Z own bytes maxL ret mn n0 h0 ws T h k n) : Old Z n0 h := w.2.choose_spec.choose_spec.choose_spec.2.2.2.2.2.1
theorem Wk.le0 (w : Wk p l e R s m args below meth c Z own bytes maxL ret mn n0 h0 ws T h k n) : h0.size ≤ h.size := w.kp.1
theorem Wk.n0h0 (w : Wk p l e R s m args below meth c Z own bytes maxL ret mn n0 h0 ws T h k n) : n0 ≤ h0.size := w.1.2.2.2.2.2.2.2.2.2
theorem Wk.le (w : Wk p l e R s m args below meth c Z own bytes maxL ret mn n0 h0 ws T h k n) : n0 ≤ h.size := Nat.le_trans w.n0h0 w.le0
theorem Wk.hZ (w : Wk p l e R s m args below meth c Z own bytes maxL ret mn n0 h0 ws T h k n) : Z.Warmed39 s.vm := w.1.2.2.2.1
theorem Wk.heap (w : Wk p l e R s m args below meth c Z own bytes maxL ret mn n0 h0 ws T h k n) : T.heap = h := w.2.choose_spec.choose_spec.choose_spec.2.1
theorem Wk.sta (w : Wk p l e R s m args below meth c Z own bytes maxL ret mn n0 h0 ws T h k n) {C nm d : String} {v : Value} (S : Sta Z Z.heap C nm d v) : Sta Z h C nm d v := S.ext w.old.2
theorem Wk.wsn {a : Addr} (w : Wk p l e R s m args below meth c Z own bytes maxL ret mn n0 h0 ws T h k n) (q : a ∈ ws ∨ h0.size ≤ a) : n0 ≤ a := q.elim (w.1.2.2.2.2.2.2.2.2.1 a) (Nat.le_trans w.n0h0)
theorem i_aload (w : Wk p l e R s m args below meth c Z own bytes maxL ret mn n0 h0 ws T h k n) {i : Nat} {v : Value} (d : decode bytes pc = .ok (.aload i, 2)) (hl : Ls[i]? = some (.val v)) (hv : v.isRef = true) (hp : pc + 2 = pc') (K : Goes p e below P T (mkF m pc' Ls (v :: st))) : Goes p e below P T (mkF m pc Ls (st)) := by
  obtain ⟨⟨hx, hb', -⟩, locs, cells, slots, X, -⟩ := w
  subst hp
  exact K.step fun t q => XS.aload X.here hx rfl (hb hb' d) hl hv q
theorem i_aloadN (w : Wk p l e R s m args below meth c Z own bytes maxL ret mn n0 h0 ws T h k n) {i : Fin 4} {v : Value} (d : decode bytes pc = .ok (.aload_n i, 1)) (hl : Ls[i.val]? = some (.val v)) (hv : v.isRef = true) (hp : pc + 1 = pc') (K : Goes p e below P T (mkF m pc' Ls (v :: st))) : Goes p e below P T (mkF m pc Ls (st)) := by
  obtain ⟨⟨hx, hb', -⟩, locs, cells, slots, X, -⟩ := w
  subst hp
  exact K.step fun t q => XS.aloadN X.here hx rfl (hb hb' d) hl hv q
theorem i_iload (w : Wk p l e R s m args below meth c Z own bytes maxL ret mn n0 h0 ws T h k n) {i : Nat} {z : Int32} (d : decode bytes pc = .ok (.iload i, 2)) (hl : Ls[i]? = some (.val (.int z))) (hp : pc + 2 = pc') (K : Goes p e below P T (mkF m pc' Ls (.int z :: st))) : Goes p e below P T (mkF m pc Ls (st)) := by
  obtain ⟨⟨hx, hb', -⟩, locs, cells, slots, X, -⟩ := w
  subst hp
  exact K.step fun t q => XS.iload X.here hx rfl (hb hb' d) hl q
theorem i_iloadN (w : Wk p l e R s m args below meth c Z own bytes maxL ret mn n0 h0 ws T h k n) {i : Fin 4} {z : Int32} (d : decode bytes pc = .ok (.iload_n i, 1)) (hl : Ls[i.val]? = some (.val (.int z))) (hp : pc + 1 = pc') (K : Goes p e below P T (mkF m pc' Ls (.int z :: st))) : Goes p e below P T (mkF m pc Ls (st)) := by
  obtain ⟨⟨hx, hb', -⟩, locs, cells, slots, X, -⟩ := w
  subst hp
  exact K.step fun t q => XS.iloadN X.here hx rfl (hb hb' d) hl q
theorem i_lload (w : Wk p l e R s m args below meth c Z own bytes maxL ret mn n0 h0 ws T h k n) {i : Nat} {z : Int64} (d : decode bytes pc = .ok (.lload i, 2)) (hl : Ls[i]? = some (.val (.long z))) (hp : pc + 2 = pc') (K : Goes p e below P T (mkF m pc' Ls (.long z :: st))) : Goes p e below P T (mkF m pc Ls (st)) := by
  obtain ⟨⟨hx, hb', -⟩, locs, cells, slots, X, -⟩ := w
  subst hp
  exact K.step fun t q => XT.lload X.here hx rfl (hb hb' d) hl q
theorem i_lloadN (w : Wk p l e R s m args below meth c Z own bytes maxL ret mn n0 h0 ws T h k n) {i : Fin 4} {z : Int64} (d : decode bytes pc = .ok (.lload_n i, 1)) (hl : Ls[i.val]? = some (.val (.long z))) (hp : pc + 1 = pc') (K : Goes p e below P T (mkF m pc' Ls (.long z :: st))) : Goes p e below P T (mkF m pc Ls (st)) := by
  obtain ⟨⟨hx, hb', -⟩, locs, cells, slots, X, -⟩ := w
  subst hp
  exact K.step fun t q => XT.lloadN X.here hx rfl (hb hb' d) hl q
theorem i_iconst (w : Wk p l e R s m args below meth c Z own bytes maxL ret mn n0 h0 ws T h k n) {i : Int} {z : Int32} (d : decode bytes pc = .ok (.iconst i, 1)) (hz : Int32.ofInt i = z) (hp : pc + 1 = pc') (K : Goes p e below P T (mkF m pc' Ls (.int z :: st))) : Goes p e below P T (mkF m pc Ls (st)) := by
  obtain ⟨⟨hx, hb', -⟩, locs, cells, slots, X, -⟩ := w
  subst hp
  exact K.step fun t q => XS.iconst X.here hx rfl (hb hb' d) (hz ▸ q)
theorem i_bipush (w : Wk p l e R s m args below meth c Z own bytes maxL ret mn n0 h0 ws T h k n) {i : Int} {z : Int32} (d : decode bytes pc = .ok (.bipush i, 2)) (hz : (Int8.ofInt i).toInt32 = z) (hp : pc + 2 = pc') (K : Goes p e below P T (mkF m pc' Ls (.int z :: st))) : Goes p e below P T (mkF m pc Ls (st)) := by
  obtain ⟨⟨hx, hb', -⟩, locs, cells, slots, X, -⟩ := w
  subst hp
  exact K.step fun t q => XS.bipush X.here hx rfl (hb hb' d) (hz ▸ q)
theorem i_sipush (w : Wk p l e R s m args below meth c Z own bytes maxL ret mn n0 h0 ws T h k n) {i : Int} {z : Int32} (d : decode bytes pc = .ok (.sipush i, 3)) (hz : (Int16.ofInt i).toInt32 = z) (hp : pc + 3 = pc') (K : Goes p e below P T (mkF m pc' Ls (.int z :: st))) : Goes p e below P T (mkF m pc Ls (st)) := by
  obtain ⟨⟨hx, hb', -⟩, locs, cells, slots, X, -⟩ := w
  subst hp
  exact K.step fun t q => XS.sipush X.here hx rfl (hb hb' d) (hz ▸ q)
theorem i_lconst (w : Wk p l e R s m args below meth c Z own bytes maxL ret mn n0 h0 ws T h k n) {i : Fin 2} {z : Int64} (d : decode bytes pc = .ok (.lconst i, 1)) (hz : Int64.ofNat i = z) (hp : pc + 1 = pc') (K : Goes p e below P T (mkF m pc' Ls (.long z :: st))) : Goes p e below P T (mkF m pc Ls (st)) := by
  obtain ⟨⟨hx, hb', -⟩, locs, cells, slots, X, -⟩ := w
  subst hp
  exact K.step fun t q => XT.lconst X.here hx rfl (hb hb' d) (hz ▸ q)
theorem i_aconstNull (w : Wk p l e R s m args below meth c Z own bytes maxL ret mn n0 h0 ws T h k n)  (d : decode bytes pc = .ok (.aconst_null, 1))  (hp : pc + 1 = pc') (K : Goes p e below P T (mkF m pc' Ls (.null :: st))) : Goes p e below P T (mkF m pc Ls (st)) := by
  obtain ⟨⟨hx, hb', -⟩, locs, cells, slots, X, -⟩ := w
  subst hp
  exact K.step fun t q => XS.aconstNull X.here hx rfl (hb hb' d) q
theorem i_iadd (w : Wk p l e R s m args below meth c Z own bytes maxL ret mn n0 h0 ws T h k n) {x y : Int32} (d : decode bytes pc = .ok (.iadd, 1))  (hp : pc + 1 = pc') (K : Goes p e below P T (mkF m pc' Ls (.int (x + y) :: st))) : Goes p e below P T (mkF m pc Ls (.int y :: .int x :: st)) := by
  obtain ⟨⟨hx, hb', -⟩, locs, cells, slots, X, -⟩ := w
  subst hp
  exact K.step fun t q => XS.iadd X.here hx rfl (hb hb' d) rfl q
theorem i_isub (w : Wk p l e R s m args below meth c Z own bytes maxL ret mn n0 h0 ws T h k n) {x y : Int32} (d : decode bytes pc = .ok (.isub, 1))  (hp : pc + 1 = pc') (K : Goes p e below P T (mkF m pc' Ls (.int (x - y) :: st))) : Goes p e below P T (mkF m pc Ls (.int y :: .int x :: st)) := by
  obtain ⟨⟨hx, hb', -⟩, locs, cells, slots, X, -⟩ := w
  subst hp
  exact K.step fun t q => XS.isub X.here hx rfl (hb hb' d) rfl q
theorem i_imul (w : Wk p l e R s m args below meth c Z own bytes maxL ret mn n0 h0 ws T h k n) {x y : Int32} (d : decode bytes pc = .ok (.imul, 1))  (hp : pc + 1 = pc') (K : Goes p e below P T (mkF m pc' Ls (.int (x * y) :: st))) : Goes p e below P T (mkF m pc Ls (.int y :: .int x :: st)) := by
  obtain ⟨⟨hx, hb', -⟩, locs, cells, slots, X, -⟩ := w
  subst hp
  exact K.step fun t q => XS.imul X.here hx rfl (hb hb' d) rfl q
theorem i_iand (w : Wk p l e R s m args below meth c Z own bytes maxL ret mn n0 h0 ws T h k n) {x y : Int32} (d : decode bytes pc = .ok (.iand, 1))  (hp : pc + 1 = pc') (K : Goes p e below P T (mkF m pc' Ls (.int (x &&& y) :: st))) : Goes p e below P T (mkF m pc Ls (.int y :: .int x :: st)) := by
  obtain ⟨⟨hx, hb', -⟩, locs, cells, slots, X, -⟩ := w
  subst hp
  exact K.step fun t q => XS.iand X.here hx rfl (hb hb' d) rfl q
theorem i_ior (w : Wk p l e R s m args below meth c Z own bytes maxL ret mn n0 h0 ws T h k n) {x y : Int32} (d : decode bytes pc = .ok (.ior, 1))  (hp : pc + 1 = pc') (K : Goes p e below P T (mkF m pc' Ls (.int (x ||| y) :: st))) : Goes p e below P T (mkF m pc Ls (.int y :: .int x :: st)) := by
  obtain ⟨⟨hx, hb', -⟩, locs, cells, slots, X, -⟩ := w
  subst hp
  exact K.step fun t q => XT.ior X.here hx rfl (hb hb' d) rfl q
theorem i_ixor (w : Wk p l e R s m args below meth c Z own bytes maxL ret mn n0 h0 ws T h k n) {x y : Int32} (d : decode bytes pc = .ok (.ixor, 1))  (hp : pc + 1 = pc') (K : Goes p e below P T (mkF m pc' Ls (.int (x ^^^ y) :: st))) : Goes p e below P T (mkF m pc Ls (.int y :: .int x :: st)) := by
  obtain ⟨⟨hx, hb', -⟩, locs, cells, slots, X, -⟩ := w
  subst hp
  exact K.step fun t q => XT.ixor X.here hx rfl (hb hb' d) rfl q
theorem i_ishl (w : Wk p l e R s m args below meth c Z own bytes maxL ret mn n0 h0 ws T h k n) {x y : Int32} (d : decode bytes pc = .ok (.ishl, 1))  (hp : pc + 1 = pc') (K : Goes p e below P T (mkF m pc' Ls (.int (x <<< (y &&& 31)) :: st))) : Goes p e below P T (mkF m pc Ls (.int y :: .int x :: st)) := by
  obtain ⟨⟨hx, hb', -⟩, locs, cells, slots, X, -⟩ := w
  subst hp
  exact K.step fun t q => XT.ishl X.here hx rfl (hb hb' d) rfl q
theorem i_ishr (w : Wk p l e R s m args below meth c Z own bytes maxL ret mn n0 h0 ws T h k n) {x y : Int32} (d : decode bytes pc = .ok (.ishr, 1))  (hp : pc + 1 = pc') (K : Goes p e below P T (mkF m pc' Ls (.int (x >>> (y &&& 31)) :: st))) : Goes p e below P T (mkF m pc Ls (.int y :: .int x :: st)) := by
  obtain ⟨⟨hx, hb', -⟩, locs, cells, slots, X, -⟩ := w
  subst hp
  exact K.step fun t q => XT.ishr X.here hx rfl (hb hb' d) rfl q
theorem i_iushr (w : Wk p l e R s m args below meth c Z own bytes maxL ret mn n0 h0 ws T h k n) {x y : Int32} (d : decode bytes pc = .ok (.iushr, 1))  (hp : pc + 1 = pc') (K : Goes p e below P T (mkF m pc' Ls (.int (XT.ushr x y) :: st))) : Goes p e below P T (mkF m pc Ls (.int y :: .int x :: st)) := by
  obtain ⟨⟨hx, hb', -⟩, locs, cells, slots, X, -⟩ := w
  subst hp
  exact K.step fun t q => XT.iushr X.here hx rfl (hb hb' d) rfl q
theorem i_ladd (w : Wk p l e R s m args below meth c Z own bytes maxL ret mn n0 h0 ws T h k n) {x y : Int64} (d : decode bytes pc = .ok (.ladd, 1))  (hp : pc + 1 = pc') (K : Goes p e below P T (mkF m pc' Ls (.long (x + y) :: st))) : Goes p e below P T (mkF m pc Ls (.long y :: .long x :: st)) := by
  obtain ⟨⟨hx, hb', -⟩, locs, cells, slots, X, -⟩ := w
  subst hp
  exact K.step fun t q => XT.ladd X.here hx rfl (hb hb' d) rfl q
theorem i_lsub (w : Wk p l e R s m args below meth c Z own bytes maxL ret mn n0 h0 ws T h k n) {x y : Int64} (d : decode bytes pc = .ok (.lsub, 1))  (hp : pc + 1 = pc') (K : Goes p e below P T (mkF m pc' Ls (.long (x - y) :: st))) : Goes p e below P T (mkF m pc Ls (.long y :: .long x :: st)) := by
  obtain ⟨⟨hx, hb', -⟩, locs, cells, slots, X, -⟩ := w
  subst hp
  exact K.step fun t q => XT.lsub X.here hx rfl (hb hb' d) rfl q
theorem i_lmul (w : Wk p l e R s m args below meth c Z own bytes maxL ret mn n0 h0 ws T h k n) {x y : Int64} (d : decode bytes pc = .ok (.lmul, 1))  (hp : pc + 1 = pc') (K : Goes p e below P T (mkF m pc' Ls (.long (x * y) :: st))) : Goes p e below P T (mkF m pc Ls (.long y :: .long x :: st)) := by
  obtain ⟨⟨hx, hb', -⟩, locs, cells, slots, X, -⟩ := w
  subst hp
  exact K.step fun t q => XT.lmul X.here hx rfl (hb hb' d) rfl q
theorem i_land (w : Wk p l e R s m args below meth c Z own bytes maxL ret mn n0 h0 ws T h k n) {x y : Int64} (d : decode bytes pc = .ok (.land, 1))  (hp : pc + 1 = pc') (K : Goes p e below P T (mkF m pc' Ls (.long (x &&& y) :: st))) : Goes p e below P T (mkF m pc Ls (.long y :: .long x :: st)) := by
  obtain ⟨⟨hx, hb', -⟩, locs, cells, slots, X, -⟩ := w
  subst hp
  exact K.step fun t q => XT.land X.here hx rfl (hb hb' d) rfl q
theorem i_lor (w : Wk p l e R s m args below meth c Z own bytes maxL ret mn n0 h0 ws T h k n) {x y : Int64} (d : decode bytes pc = .ok (.lor, 1))  (hp : pc + 1 = pc') (K : Goes p e below P T (mkF m pc' Ls (.long (x ||| y) :: st))) : Goes p e below P T (mkF m pc Ls (.long y :: .long x :: st)) := by
  obtain ⟨⟨hx, hb', -⟩, locs, cells, slots, X, -⟩ := w
  subst hp
  exact K.step fun t q => XT.lor X.here hx rfl (hb hb' d) rfl q
theorem i_lxor (w : Wk p l e R s m args below meth c Z own bytes maxL ret mn n0 h0 ws T h k n) {x y : Int64} (d : decode bytes pc = .ok (.lxor, 1))  (hp : pc + 1 = pc') (K : Goes p e below P T (mkF m pc' Ls (.long (x ^^^ y) :: st))) : Goes p e below P T (mkF m pc Ls (.long y :: .long x :: st)) := by
  obtain ⟨⟨hx, hb', -⟩, locs, cells, slots, X, -⟩ := w
  subst hp
  exact K.step fun t q => XT.lxor X.here hx rfl (hb hb' d) rfl q
theorem i_lshl (w : Wk p l e R s m args below meth c Z own bytes maxL ret mn n0 h0 ws T h k n) {x : Int64} {y : Int32} (d : decode bytes pc = .ok (.lshl, 1))  (hp : pc + 1 = pc') (K : Goes p e below P T (mkF m pc' Ls (.long (x <<< (y.toInt64 &&& 63)) :: st))) : Goes p e below P T (mkF m pc Ls (.int y :: .long x :: st)) := by
  obtain ⟨⟨hx, hb', -⟩, locs, cells, slots, X, -⟩ := w
  subst hp
  exact K.step fun t q => XT.lshl X.here hx rfl (hb hb' d) rfl q
theorem i_lshr (w : Wk p l e R s m args below meth c Z own bytes maxL ret mn n0 h0 ws T h k n) {x : Int64} {y : Int32} (d : decode bytes pc = .ok (.lshr, 1))  (hp : pc + 1 = pc') (K : Goes p e below P T (mkF m pc' Ls (.long (x >>> (y.toInt64 &&& 63)) :: st))) : Goes p e below P T (mkF m pc Ls (.int y :: .long x :: st)) := by
  obtain ⟨⟨hx, hb', -⟩, locs, cells, slots, X, -⟩ := w
  subst hp
  exact K.step fun t q => XT.lshr X.here hx rfl (hb hb' d) rfl q
theorem i_lushr (w : Wk p l e R s m args below meth c Z own bytes maxL ret mn n0 h0 ws T h k n) {x : Int64} {y : Int32} (d : decode bytes pc = .ok (.lushr, 1))  (hp : pc + 1 = pc') (K : Goes p e below P T (mkF m pc' Ls (.long (XT.ushrL x y) :: st))) : Goes p e below P T (mkF m pc Ls (.int y :: .long x :: st)) := by
  obtain ⟨⟨hx, hb', -⟩, locs, cells, slots, X, -⟩ := w
  subst hp
  exact K.step fun t q => XT.lushr X.here hx rfl (hb hb' d) rfl q
theorem i_idiv (w : Wk p l e R s m args below meth c Z own bytes maxL ret mn n0 h0 ws T h k n) {x y : Int32} (d : decode bytes pc = .ok (.idiv, 1)) (hy : y ≠ 0) (hp : pc + 1 = pc') (K : Goes p e below P T (mkF m pc' Ls (.int (x / y) :: st))) : Goes p e below P T (mkF m pc Ls (.int y :: .int x :: st)) := by
  obtain ⟨⟨hx, hb', -⟩, locs, cells, slots, X, -⟩ := w
  subst hp
  exact K.step fun t q => XS.idiv X.here hx rfl (hb hb' d) rfl hy q
theorem i_irem (w : Wk p l e R s m args below meth c Z own bytes maxL ret mn n0 h0 ws T h k n) {x y : Int32} (d : decode bytes pc = .ok (.irem, 1)) (hy : y ≠ 0) (hp : pc + 1 = pc') (K : Goes p e below P T (mkF m pc' Ls (.int (x % y) :: st))) : Goes p e below P T (mkF m pc Ls (.int y :: .int x :: st)) := by
  obtain ⟨⟨hx, hb', -⟩, locs, cells, slots, X, -⟩ := w
  subst hp
  exact K.step fun t q => iremM X hx rfl (hb hb' d) rfl hy q
theorem i_lrem (w : Wk p l e R s m args below meth c Z own bytes maxL ret mn n0 h0 ws T h k n) {x y : Int64} (d : decode bytes pc = .ok (.lrem, 1)) (hy : y ≠ 0) (hp : pc + 1 = pc') (K : Goes p e below P T (mkF m pc' Ls (.long (x - (x / y) * y) :: st))) : Goes p e below P T (mkF m pc Ls (.long y :: .long x :: st)) := by
  obtain ⟨⟨hx, hb', -⟩, locs, cells, slots, X, -⟩ := w
  subst hp
  exact K.step fun t q => XT.lrem X.here hx rfl (hb hb' d) rfl hy q
theorem i_ineg (w : Wk p l e R s m args below meth c Z own bytes maxL ret mn n0 h0 ws T h k n) {x : Int32} (d : decode bytes pc = .ok (.ineg, 1))  (hp : pc + 1 = pc') (K : Goes p e below P T (mkF m pc' Ls (.int (-x) :: st))) : Goes p e below P T (mkF m pc Ls (.int x :: st)) := by
  obtain ⟨⟨hx, hb', -⟩, locs, cells, slots, X, -⟩ := w
  subst hp
  exact K.step fun t q => XS.ineg X.here hx rfl (hb hb' d) rfl q
theorem i_i2l (w : Wk p l e R s m args below meth c Z own bytes maxL ret mn n0 h0 ws T h k n) {x : Int32} (d : decode bytes pc = .ok (.i2l, 1))  (hp : pc + 1 = pc') (K : Goes p e below P T (mkF m pc' Ls (.long x.toInt64 :: st))) : Goes p e below P T (mkF m pc Ls (.int x :: st)) := by
  obtain ⟨⟨hx, hb', -⟩, locs, cells, slots, X, -⟩ := w
  subst hp
  exact K.step fun t q => XT.i2l X.here hx rfl (hb hb' d) rfl q
theorem i_l2i (w : Wk p l e R s m args below meth c Z own bytes maxL ret mn n0 h0 ws T h k n) {x : Int64} (d : decode bytes pc = .ok (.l2i, 1))  (hp : pc + 1 = pc') (K : Goes p e below P T (mkF m pc' Ls (.int x.toInt32 :: st))) : Goes p e below P T (mkF m pc Ls (.long x :: st)) := by
  obtain ⟨⟨hx, hb', -⟩, locs, cells, slots, X, -⟩ := w
  subst hp
  exact K.step fun t q => XT.l2i X.here hx rfl (hb hb' d) rfl q
theorem i_i2b (w : Wk p l e R s m args below meth c Z own bytes maxL ret mn n0 h0 ws T h k n) {x : Int32} (d : decode bytes pc = .ok (.i2b, 1))  (hp : pc + 1 = pc') (K : Goes p e below P T (mkF m pc' Ls (.int x.toInt8.toInt32 :: st))) : Goes p e below P T (mkF m pc Ls (.int x :: st)) := by
  obtain ⟨⟨hx, hb', -⟩, locs, cells, slots, X, -⟩ := w
  subst hp
  exact K.step fun t q => XT.i2b X.here hx rfl (hb hb' d) rfl q
theorem i_i2c (w : Wk p l e R s m args below meth c Z own bytes maxL ret mn n0 h0 ws T h k n) {x : Int32} (d : decode bytes pc = .ok (.i2c, 1))  (hp : pc + 1 = pc') (K : Goes p e below P T (mkF m pc' Ls (.int (nar .char x) :: st))) : Goes p e below P T (mkF m pc Ls (.int x :: st)) := by
  obtain ⟨⟨hx, hb', -⟩, locs, cells, slots, X, -⟩ := w
  subst hp
  exact K.step fun t q => XT.i2c X.here hx rfl (hb hb' d) rfl q
theorem i_lcmp (w : Wk p l e R s m args below meth c Z own bytes maxL ret mn n0 h0 ws T h k n) {x y : Int64} (d : decode bytes pc = .ok (.lcmp, 1))  (hp : pc + 1 = pc') (K : Goes p e below P T (mkF m pc' Ls (.int (XT.cmpL x y) :: st))) : Goes p e below P T (mkF m pc Ls (.long y :: .long x :: st)) := by
  obtain ⟨⟨hx, hb', -⟩, locs, cells, slots, X, -⟩ := w
  subst hp
  exact K.step fun t q => XT.lcmp X.here hx rfl (hb hb' d) rfl q
theorem i_pop (w : Wk p l e R s m args below meth c Z own bytes maxL ret mn n0 h0 ws T h k n) {x : Value} (d : decode bytes pc = .ok (.pop, 1)) (hc : x.category = 1) (hp : pc + 1 = pc') (K : Goes p e below P T (mkF m pc' Ls (st))) : Goes p e below P T (mkF m pc Ls (x :: st)) := by
  obtain ⟨⟨hx, hb', -⟩, locs, cells, slots, X, -⟩ := w
  subst hp
  exact K.step fun t q => XT.pop X.here hx rfl (hb hb' d) rfl hc q
theorem i_dup (w : Wk p l e R s m args below meth c Z own bytes maxL ret mn n0 h0 ws T h k n) {x : Value} (d : decode bytes pc = .ok (.dup, 1)) (hc : x.category = 1) (hp : pc + 1 = pc') (K : Goes p e below P T (mkF m pc' Ls (x :: x :: st))) : Goes p e below P T (mkF m pc Ls (x :: st)) := by
  obtain ⟨⟨hx, hb', -⟩, locs, cells, slots, X, -⟩ := w
  subst hp
  exact K.step fun t q => XS.dup X.here hx rfl (hb hb' d) rfl hc q
theorem i_dupX1 (w : Wk p l e R s m args below meth c Z own bytes maxL ret mn n0 h0 ws T h k n) {x y : Value} (d : decode bytes pc = .ok (.dup_x1, 1)) (hc : x.category = 1) (hc' : y.category = 1) (hp : pc + 1 = pc') (K : Goes p e below P T (mkF m pc' Ls (x :: y :: x :: st))) : Goes p e below P T (mkF m pc Ls (x :: y :: st)) := by
  obtain ⟨⟨hx, hb', -⟩, locs, cells, slots, X, -⟩ := w
  subst hp
  exact K.step fun t q => XT.dupX1 X.here hx rfl (hb hb' d) rfl hc hc' q
theorem i_dup2 (w : Wk p l e R s m args below meth c Z own bytes maxL ret mn n0 h0 ws T h k n) {x y : Value} (d : decode bytes pc = .ok (.dup2, 1)) (hc : x.category = 1) (hc' : y.category = 1) (hp : pc + 1 = pc') (K : Goes p e below P T (mkF m pc' Ls (x :: y :: x :: y :: st))) : Goes p e below P T (mkF m pc Ls (x :: y :: st)) := by
  obtain ⟨⟨hx, hb', -⟩, locs, cells, slots, X, -⟩ := w
  subst hp
  exact K.step fun t q => XT.dup2 X.here hx rfl (hb hb' d) rfl hc hc' q
theorem i_istore (w : Wk p l e R s m args below meth c Z own bytes maxL ret mn n0 h0 ws T h k n) {i : Nat} {z : Int32} {l' : Array Slot} (d : decode bytes pc = .ok (.istore i, 2)) (hl : storeLocals Ls i (.int z) = some l') (hp : pc + 2 = pc') (K : Goes p e below P T (mkF m pc' l' (st))) : Goes p e below P T (mkF m pc Ls (.int z :: st)) := by
  obtain ⟨⟨hx, hb', -⟩, locs, cells, slots, X, -⟩ := w
  subst hp
  exact K.step fun t q => XS.istore X.here hx rfl (hb hb' d) rfl hl q
theorem i_istoreN (w : Wk p l e R s m args below meth c Z own bytes maxL ret mn n0 h0 ws T h k n) {i : Fin 4} {z : Int32} {l' : Array Slot} (d : decode bytes pc = .ok (.istore_n i, 1)) (hl : storeLocals Ls i.val (.int z) = some l') (hp : pc + 1 = pc') (K : Goes p e below P T (mkF m pc' l' (st))) : Goes p e below P T (mkF m pc Ls (.int z :: st)) := by
  obtain ⟨⟨hx, hb', -⟩, locs, cells, slots, X, -⟩ := w
  subst hp
  exact K.step fun t q => XS.istoreN X.here hx rfl (hb hb' d) rfl hl q
theorem i_lstore (w : Wk p l e R s m args below meth c Z own bytes maxL ret mn n0 h0 ws T h k n) {i : Nat} {z : Int64} {l' : Array Slot} (d : decode bytes pc = .ok (.lstore i, 2)) (hl : storeLocals Ls i (.long z) = some l') (hp : pc + 2 = pc') (K : Goes p e below P T (mkF m pc' l' (st))) : Goes p e below P T (mkF m pc Ls (.long z :: st)) := by
  obtain ⟨⟨hx, hb', -⟩, locs, cells, slots, X, -⟩ := w
  subst hp
  exact K.step fun t q => XT.lstore X.here hx rfl (hb hb' d) rfl hl q
theorem i_lstoreN (w : Wk p l e R s m args below meth c Z own bytes maxL ret mn n0 h0 ws T h k n) {i : Fin 4} {z : Int64} {l' : Array Slot} (d : decode bytes pc = .ok (.lstore_n i, 1)) (hl : storeLocals Ls i.val (.long z) = some l') (hp : pc + 1 = pc') (K : Goes p e below P T (mkF m pc' l' (st))) : Goes p e below P T (mkF m pc Ls (.long z :: st)) := by
  obtain ⟨⟨hx, hb', -⟩, locs, cells, slots, X, -⟩ := w
  subst hp
  exact K.step fun t q => XT.lstoreN X.here hx rfl (hb hb' d) rfl hl q
theorem i_astore (w : Wk p l e R s m args below meth c Z own bytes maxL ret mn n0 h0 ws T h k n) {i : Nat} {v : Value} {l' : Array Slot} (d : decode bytes pc = .ok (.astore i, 2)) (hv : v.isRef = true) (hl : storeLocals Ls i v = some l') (hp : pc + 2 = pc') (K : Goes p e below P T (mkF m pc' l' (st))) : Goes p e below P T (mkF m pc Ls (v :: st)) := by
  obtain ⟨⟨hx, hb', -⟩, locs, cells, slots, X, -⟩ := w
  subst hp
  exact K.step fun t q => XS.astore X.here hx rfl (hb hb' d) rfl hv hl q
theorem i_astoreN (w : Wk p l e R s m args below meth c Z own bytes maxL ret mn n0 h0 ws T h k n) {i : Fin 4} {v : Value} {l' : Array Slot} (d : decode bytes pc = .ok (.astore_n i, 1)) (hv : v.isRef = true) (hl : storeLocals Ls i.val v = some l') (hp : pc + 1 = pc') (K : Goes p e below P T (mkF m pc' l' (st))) : Goes p e below P T (mkF m pc Ls (v :: st)) := by
  obtain ⟨⟨hx, hb', -⟩, locs, cells, slots, X, -⟩ := w
  subst hp
  exact K.step fun t q => XS.astoreN X.here hx rfl (hb hb' d) rfl hv hl q
theorem i_iinc (w : Wk p l e R s m args below meth c Z own bytes maxL ret mn n0 h0 ws T h k n) {i : Nat} {cst : Int} {x z : Int32} {l' : Array Slot} (d : decode bytes pc = .ok (.iinc i cst, 3)) (hl : Ls[i]? = some (.val (.int x))) (hz : x + Int32.ofInt cst = z) (hl' : storeLocals Ls i (.int z) = some l') (hp : pc + 3 = pc') (K : Goes p e below P T (mkF m pc' l' (st))) : Goes p e below P T (mkF m pc Ls (st)) := by
  obtain ⟨⟨hx, hb', -⟩, locs, cells, slots, X, -⟩ := w
  subst hp
  exact K.step fun t q => XS.iinc X.here hx rfl (hb hb' d) hl (by rw [hz]; exact hl') q
theorem i_goto (w : Wk p l e R s m args below meth c Z own bytes maxL ret mn n0 h0 ws T h k n) {o : Int} (d : decode bytes pc = .ok (.goto o, 3)) (hp : (pc : Int) + o = (pc' : Int)) (K : Goes p e below P T (mkF m pc' Ls (st))) : Goes p e below P T (mkF m pc Ls (st)) := by
  obtain ⟨⟨hx, hb', -⟩, locs, cells, slots, X, -⟩ := w
  exact K.step fun t q => XS.goto X.here hx rfl (pc0 := pc) (pc' := pc') rfl (hb hb' d) (by omega) (by omega) q
theorem i_icmp_eq_Y (w : Wk p l e R s m args below meth c Z own bytes maxL ret mn n0 h0 ws T h k n) {x y : Int32} {o : Int} (hc : x = y) (d : decode bytes pc = .ok (.if_icmp .eq o, 3)) (hp : (pc : Int) + o = (pc' : Int)) (K : Goes p e below P T (mkF m pc' Ls (st))) : Goes p e below P T (mkF m pc Ls (.int y :: .int x :: st)) := by
  obtain ⟨⟨hx, hb', -⟩, locs, cells, slots, X, -⟩ := w
  exact K.step fun t q => XS.icmpYes X.here hx rfl (pc0 := pc) (pc' := pc') rfl (hb hb' d) rfl (teq hc).1 (by omega) (by omega) q
theorem i_icmp_eq_N (w : Wk p l e R s m args below meth c Z own bytes maxL ret mn n0 h0 ws T h k n) {x y : Int32} {o : Int} (hc : ¬ x = y) (d : decode bytes pc = .ok (.if_icmp .eq o, 3)) (hp : pc + 3 = pc') (K : Goes p e below P T (mkF m pc' Ls (st))) : Goes p e below P T (mkF m pc Ls (.int y :: .int x :: st)) := by
  obtain ⟨⟨hx, hb', -⟩, locs, cells, slots, X, -⟩ := w
  subst hp
  exact K.step fun t q => XS.icmpNo X.here hx rfl (hb hb' d) rfl (feq hc).1 q
theorem i_icmp_eq (w : Wk p l e R s m args below meth c Z own bytes maxL ret mn n0 h0 ws T h k n) {x y : Int32} {o : Int} {pcY : Nat} (d : decode bytes pc = .ok (.if_icmp .eq o, 3)) (hy : (pc : Int) + o = (pcY : Int)) (hp : pc + 3 = pc') (KY : x = y → Goes p e below P T (mkF m pcY Ls (st))) (KN : ¬ x = y → Goes p e below P T (mkF m pc' Ls (st))) : Goes p e below P T (mkF m pc Ls (.int y :: .int x :: st)) :=
  Decidable.byCases (fun hc : x = y => i_icmp_eq_Y w hc d hy (KY hc)) (fun hc => i_icmp_eq_N w (hc) d hp (KN (hc)))
theorem i_if_eq_Y (w : Wk p l e R s m args below meth c Z own bytes maxL ret mn n0 h0 ws T h k n) {x : Int32} {o : Int} (hc : x = 0) (d : decode bytes pc = .ok (.ifCond .eq o, 3)) (hp : (pc : Int) + o = (pc' : Int)) (K : Goes p e below P T (mkF m pc' Ls (st))) : Goes p e below P T (mkF m pc Ls (.int x :: st)) := by
  obtain ⟨⟨hx, hb', -⟩, locs, cells, slots, X, -⟩ := w
  exact K.step fun t q => XS.ifYes X.here hx rfl (pc0 := pc) (pc' := pc') rfl (hb hb' d) rfl ((if0 _ _).trans (teq hc).1) (by omega) (by omega) q
theorem i_if_eq_N (w : Wk p l e R s m args below meth c Z own bytes maxL ret mn n0 h0 ws T h k n) {x : Int32} {o : Int} (hc : ¬ x = 0) (d : decode bytes pc = .ok (.ifCond .eq o, 3)) (hp : pc + 3 = pc') (K : Goes p e below P T (mkF m pc' Ls (st))) : Goes p e below P T (mkF m pc Ls (.int x :: st)) := by
  obtain ⟨⟨hx, hb', -⟩, locs, cells, slots, X, -⟩ := w
  subst hp
  exact K.step fun t q => XS.ifNo X.here hx rfl (hb hb' d) rfl ((if0 _ _).trans (feq hc).1) q
theorem i_if_eq (w : Wk p l e R s m args below meth c Z own bytes maxL ret mn n0 h0 ws T h k n) {x : Int32} {o : Int} {pcY : Nat} (d : decode bytes pc = .ok (.ifCond .eq o, 3)) (hy : (pc : Int) + o = (pcY : Int)) (hp : pc + 3 = pc') (KY : x = 0 → Goes p e below P T (mkF m pcY Ls (st))) (KN : ¬ x = 0 → Goes p e below P T (mkF m pc' Ls (st))) : Goes p e below P T (mkF m pc Ls (.int x :: st)) :=
  Decidable.byCases (fun hc : x = 0 => i_if_eq_Y w hc d hy (KY hc)) (fun hc => i_if_eq_N w (hc) d hp (KN (hc)))
theorem i_icmp_ne_Y (w : Wk p l e R s m args below meth c Z own bytes maxL ret mn n0 h0 ws T h k n) {x y : Int32} {o : Int} (hc : ¬ x = y) (d : decode bytes pc = .ok (.if_icmp .ne o, 3)) (hp : (pc : Int) + o = (pc' : Int)) (K : Goes p e below P T (mkF m pc' Ls (st))) : Goes p e below P T (mkF m pc Ls (.int y :: .int x :: st)) := by
  obtain ⟨⟨hx, hb', -⟩, locs, cells, slots, X, -⟩ := w
  exact K.step fun t q => XS.icmpYes X.here hx rfl (pc0 := pc) (pc' := pc') rfl (hb hb' d) rfl (feq hc).2 (by omega) (by omega) q
theorem i_icmp_ne_N (w : Wk p l e R s m args below meth c Z own bytes maxL ret mn n0 h0 ws T h k n) {x y : Int32} {o : Int} (hc : x = y) (d : decode bytes pc = .ok (.if_icmp .ne o, 3)) (hp : pc + 3 = pc') (K : Goes p e below P T (mkF m pc' Ls (st))) : Goes p e below P T (mkF m pc Ls (.int y :: .int x :: st)) := by
  obtain ⟨⟨hx, hb', -⟩, locs, cells, slots, X, -⟩ := w
  subst hp
  exact K.step fun t q => XS.icmpNo X.here hx rfl (hb hb' d) rfl (teq hc).2 q
theorem i_icmp_ne (w : Wk p l e R s m args below meth c Z own bytes maxL ret mn n0 h0 ws T h k n) {x y : Int32} {o : Int} {pcY : Nat} (d : decode bytes pc = .ok (.if_icmp .ne o, 3)) (hy : (pc : Int) + o = (pcY : Int)) (hp : pc + 3 = pc') (KY : ¬ x = y → Goes p e below P T (mkF m pcY Ls (st))) (KN : x = y → Goes p e below P T (mkF m pc' Ls (st))) : Goes p e below P T (mkF m pc Ls (.int y :: .int x :: st)) :=
  Decidable.byCases (fun hc : ¬ x = y => i_icmp_ne_Y w hc d hy (KY hc)) (fun hc => i_icmp_ne_N w (Decidable.not_not.mp hc) d hp (KN (Decidable.not_not.mp hc)))
theorem i_if_ne_Y (w : Wk p l e R s m args below meth c Z own bytes maxL ret mn n0 h0 ws T h k n) {x : Int32} {o : Int} (hc : ¬ x = 0) (d : decode bytes pc = .ok (.ifCond .ne o, 3)) (hp : (pc : Int) + o = (pc' : Int)) (K : Goes p e below P T (mkF m pc' Ls (st))) : Goes p e below P T (mkF m pc Ls (.int x :: st)) := by
  obtain ⟨⟨hx, hb', -⟩, locs, cells, slots, X, -⟩ := w
  exact K.step fun t q => XS.ifYes X.here hx rfl (pc0 := pc) (pc' := pc') rfl (hb hb' d) rfl ((if0 _ _).trans (feq hc).2) (by omega) (by omega) q
theorem i_if_ne_N (w : Wk p l e R s m args below meth c Z own bytes maxL ret mn n0 h0 ws T h k n) {x : Int32} {o : Int} (hc : x = 0) (d : decode bytes pc = .ok (.ifCond .ne o, 3)) (hp : pc + 3 = pc') (K : Goes p e below P T (mkF m pc' Ls (st))) : Goes p e below P T (mkF m pc Ls (.int x :: st)) := by
  obtain ⟨⟨hx, hb', -⟩, locs, cells, slots, X, -⟩ := w
  subst hp
  exact K.step fun t q => XS.ifNo X.here hx rfl (hb hb' d) rfl ((if0 _ _).trans (teq hc).2) q
theorem i_if_ne (w : Wk p l e R s m args below meth c Z own bytes maxL ret mn n0 h0 ws T h k n) {x : Int32} {o : Int} {pcY : Nat} (d : decode bytes pc = .ok (.ifCond .ne o, 3)) (hy : (pc : Int) + o = (pcY : Int)) (hp : pc + 3 = pc') (KY : ¬ x = 0 → Goes p e below P T (mkF m pcY Ls (st))) (KN : x = 0 → Goes p e below P T (mkF m pc' Ls (st))) : Goes p e below P T (mkF m pc Ls (.int x :: st)) :=
  Decidable.byCases (fun hc : ¬ x = 0 => i_if_ne_Y w hc d hy (KY hc)) (fun hc => i_if_ne_N w (Decidable.not_not.mp hc) d hp (KN (Decidable.not_not.mp hc)))
theorem i_icmp_lt_Y (w : Wk p l e R s m args below meth c Z own bytes maxL ret mn n0 h0 ws T h k n) {x y : Int32} {o : Int} (hc : x < y) (d : decode bytes pc = .ok (.if_icmp .lt o, 3)) (hp : (pc : Int) + o = (pc' : Int)) (K : Goes p e below P T (mkF m pc' Ls (st))) : Goes p e below P T (mkF m pc Ls (.int y :: .int x :: st)) := by
  obtain ⟨⟨hx, hb', -⟩, locs, cells, slots, X, -⟩ := w
  exact K.step fun t q => XS.icmpYes X.here hx rfl (pc0 := pc) (pc' := pc') rfl (hb hb' d) rfl (tlt hc).1 (by omega) (by omega) q
theorem i_icmp_lt_N (w : Wk p l e R s m args below meth c Z own bytes maxL ret mn n0 h0 ws T h k n) {x y : Int32} {o : Int} (hc : ¬ x < y) (d : decode bytes pc = .ok (.if_icmp .lt o, 3)) (hp : pc + 3 = pc') (K : Goes p e below P T (mkF m pc' Ls (st))) : Goes p e below P T (mkF m pc Ls (.int y :: .int x :: st)) := by
  obtain ⟨⟨hx, hb', -⟩, locs, cells, slots, X, -⟩ := w
  subst hp
  exact K.step fun t q => XS.icmpNo X.here hx rfl (hb hb' d) rfl (flt hc).1 q
theorem i_icmp_lt (w : Wk p l e R s m args below meth c Z own bytes maxL ret mn n0 h0 ws T h k n) {x y : Int32} {o : Int} {pcY : Nat} (d : decode bytes pc = .ok (.if_icmp .lt o, 3)) (hy : (pc : Int) + o = (pcY : Int)) (hp : pc + 3 = pc') (KY : x < y → Goes p e below P T (mkF m pcY Ls (st))) (KN : ¬ x < y → Goes p e below P T (mkF m pc' Ls (st))) : Goes p e below P T (mkF m pc Ls (.int y :: .int x :: st)) :=
  Decidable.byCases (fun hc : x < y => i_icmp_lt_Y w hc d hy (KY hc)) (fun hc => i_icmp_lt_N w (hc) d hp (KN (hc)))
theorem i_if_lt_Y (w : Wk p l e R s m args below meth c Z own bytes maxL ret mn n0 h0 ws T h k n) {x : Int32} {o : Int} (hc : x < 0) (d : decode bytes pc = .ok (.ifCond .lt o, 3)) (hp : (pc : Int) + o = (pc' : Int)) (K : Goes p e below P T (mkF m pc' Ls (st))) : Goes p e below P T (mkF m pc Ls (.int x :: st)) := by
  obtain ⟨⟨hx, hb', -⟩, locs, cells, slots, X, -⟩ := w
  exact K.step fun t q => XS.ifYes X.here hx rfl (pc0 := pc) (pc' := pc') rfl (hb hb' d) rfl ((if0 _ _).trans (tlt hc).1) (by omega) (by omega) q
theorem i_if_lt_N (w : Wk p l e R s m args below meth c Z own bytes maxL ret mn n0 h0 ws T h k n) {x : Int32} {o : Int} (hc : ¬ x < 0) (d : decode bytes pc = .ok (.ifCond .lt o, 3)) (hp : pc + 3 = pc') (K : Goes p e below P T (mkF m pc' Ls (st))) : Goes p e below P T (mkF m pc Ls (.int x :: st)) := by
  obtain ⟨⟨hx, hb', -⟩, locs, cells, slots, X, -⟩ := w
  subst hp
  exact K.step fun t q => XS.ifNo X.here hx rfl (hb hb' d) rfl ((if0 _ _).trans (flt hc).1) q
theorem i_if_lt (w : Wk p l e R s m args below meth c Z own bytes maxL ret mn n0 h0 ws T h k n) {x : Int32} {o : Int} {pcY : Nat} (d : decode bytes pc = .ok (.ifCond .lt o, 3)) (hy : (pc : Int) + o = (pcY : Int)) (hp : pc + 3 = pc') (KY : x < 0 → Goes p e below P T (mkF m pcY Ls (st))) (KN : ¬ x < 0 → Goes p e below P T (mkF m pc' Ls (st))) : Goes p e below P T (mkF m pc Ls (.int x :: st)) :=
  Decidable.byCases (fun hc : x < 0 => i_if_lt_Y w hc d hy (KY hc)) (fun hc => i_if_lt_N w (hc) d hp (KN (hc)))
theorem i_icmp_ge_Y (w : Wk p l e R s m args below meth c Z own bytes maxL ret mn n0 h0 ws T h k n) {x y : Int32} {o : Int} (hc : ¬ x < y) (d : decode bytes pc = .ok (.if_icmp .ge o, 3)) (hp : (pc : Int) + o = (pc' : Int)) (K : Goes p e below P T (mkF m pc' Ls (st))) : Goes p e below P T (mkF m pc Ls (.int y :: .int x :: st)) := by
  obtain ⟨⟨hx, hb', -⟩, locs, cells, slots, X, -⟩ := w
  exact K.step fun t q => XS.icmpYes X.here hx rfl (pc0 := pc) (pc' := pc') rfl (hb hb' d) rfl (flt hc).2.1 (by omega) (by omega) q
theorem i_icmp_ge_N (w : Wk p l e R s m args below meth c Z own bytes maxL ret mn n0 h0 ws T h k n) {x y : Int32} {o : Int} (hc : x < y) (d : decode bytes pc = .ok (.if_icmp .ge o, 3)) (hp : pc + 3 = pc') (K : Goes p e below P T (mkF m pc' Ls (st))) : Goes p e below P T (mkF m pc Ls (.int y :: .int x :: st)) := by
  obtain ⟨⟨hx, hb', -⟩, locs, cells, slots, X, -⟩ := w
  subst hp
  exact K.step fun t q => XS.icmpNo X.here hx rfl (hb hb' d) rfl (tlt hc).2.1 q
theorem i_icmp_ge (w : Wk p l e R s m args below meth c Z own bytes maxL ret mn n0 h0 ws T h k n) {x y : Int32} {o : Int} {pcY : Nat} (d : decode bytes pc = .ok (.if_icmp .ge o, 3)) (hy : (pc : Int) + o = (pcY : Int)) (hp : pc + 3 = pc') (KY : ¬ x < y → Goes p e below P T (mkF m pcY Ls (st))) (KN : x < y → Goes p e below P T (mkF m pc' Ls (st))) : Goes p e below P T (mkF m pc Ls (.int y :: .int x :: st)) :=
  Decidable.byCases (fun hc : ¬ x < y => i_icmp_ge_Y w hc d hy (KY hc)) (fun hc => i_icmp_ge_N w (Decidable.not_not.mp hc) d hp (KN (Decidable.not_not.mp hc)))
theorem i_if_ge_Y (w : Wk p l e R s m args below meth c Z own bytes maxL ret mn n0 h0 ws T h k n) {x : Int32} {o : Int} (hc : ¬ x < 0) (d : decode bytes pc = .ok (.ifCond .ge o, 3)) (hp : (pc : Int) + o = (pc' : Int)) (K : Goes p e below P T (mkF m pc' Ls (st))) : Goes p e below P T (mkF m pc Ls (.int x :: st)) := by
  obtain ⟨⟨hx, hb', -⟩, locs, cells, slots, X, -⟩ := w
  exact K.step fun t q => XS.ifYes X.here hx rfl (pc0 := pc) (pc' := pc') rfl (hb hb' d) rfl ((if0 _ _).trans (flt hc).2.1) (by omega) (by omega) q
theorem i_if_ge_N (w : Wk p l e R s m args below meth c Z own bytes maxL ret mn n0 h0 ws T h k n) {x : Int32} {o : Int} (hc : x < 0) (d : decode bytes pc = .ok (.ifCond .ge o, 3)) (hp : pc + 3 = pc') (K : Goes p e below P T (mkF m pc' Ls (st))) : Goes p e below P T (mkF m pc Ls (.int x :: st)) := by
  obtain ⟨⟨hx, hb', -⟩, locs, cells, slots, X, -⟩ := w
  subst hp
  exact K.step fun t q => XS.ifNo X.here hx rfl (hb hb' d) rfl ((if0 _ _).trans (tlt hc).2.1) q
theorem i_if_ge (w : Wk p l e R s m args below meth c Z own bytes maxL ret mn n0 h0 ws T h k n) {x : Int32} {o : Int} {pcY : Nat} (d : decode bytes pc = .ok (.ifCond .ge o, 3)) (hy : (pc : Int) + o = (pcY : Int)) (hp : pc + 3 = pc') (KY : ¬ x < 0 → Goes p e below P T (mkF m pcY Ls (st))) (KN : x < 0 → Goes p e below P T (mkF m pc' Ls (st))) : Goes p e below P T (mkF m pc Ls (.int x :: st)) :=
  Decidable.byCases (fun hc : ¬ x < 0 => i_if_ge_Y w hc d hy (KY hc)) (fun hc => i_if_ge_N w (Decidable.not_not.mp hc) d hp (KN (Decidable.not_not.mp hc)))
theorem i_icmp_gt_Y (w : Wk p l e R s m args below meth c Z own bytes maxL ret mn n0 h0 ws T h k n) {x y : Int32} {o : Int} (hc : y < x) (d : decode bytes pc = .ok (.if_icmp .gt o, 3)) (hp : (pc : Int) + o = (pc' : Int)) (K : Goes p e below P T (mkF m pc' Ls (st))) : Goes p e below P T (mkF m pc Ls (.int y :: .int x :: st)) := by
  obtain ⟨⟨hx, hb', -⟩, locs, cells, slots, X, -⟩ := w
  exact K.step fun t q => XS.icmpYes X.here hx rfl (pc0 := pc) (pc' := pc') rfl (hb hb' d) rfl (tlt hc).2.2.1 (by omega) (by omega) q
theorem i_icmp_gt_N (w : Wk p l e R s m args below meth c Z own bytes maxL ret mn n0 h0 ws T h k n) {x y : Int32} {o : Int} (hc : ¬ y < x) (d : decode bytes pc = .ok (.if_icmp .gt o, 3)) (hp : pc + 3 = pc') (K : Goes p e below P T (mkF m pc' Ls (st))) : Goes p e below P T (mkF m pc Ls (.int y :: .int x :: st)) := by
  obtain ⟨⟨hx, hb', -⟩, locs, cells, slots, X, -⟩ := w
  subst hp
  exact K.step fun t q => XS.icmpNo X.here hx rfl (hb hb' d) rfl (flt hc).2.2.1 q
theorem i_icmp_gt (w : Wk p l e R s m args below meth c Z own bytes maxL ret mn n0 h0 ws T h k n) {x y : Int32} {o : Int} {pcY : Nat} (d : decode bytes pc = .ok (.if_icmp .gt o, 3)) (hy : (pc : Int) + o = (pcY : Int)) (hp : pc + 3 = pc') (KY : y < x → Goes p e below P T (mkF m pcY Ls (st))) (KN : ¬ y < x → Goes p e below P T (mkF m pc' Ls (st))) : Goes p e below P T (mkF m pc Ls (.int y :: .int x :: st)) :=
  Decidable.byCases (fun hc : y < x => i_icmp_gt_Y w hc d hy (KY hc)) (fun hc => i_icmp_gt_N w (hc) d hp (KN (hc)))
theorem i_if_gt_Y (w : Wk p l e R s m args below meth c Z own bytes maxL ret mn n0 h0 ws T h k n) {x : Int32} {o : Int} (hc : 0 < x) (d : decode bytes pc = .ok (.ifCond .gt o, 3)) (hp : (pc : Int) + o = (pc' : Int)) (K : Goes p e below P T (mkF m pc' Ls (st))) : Goes p e below P T (mkF m pc Ls (.int x :: st)) := by
  obtain ⟨⟨hx, hb', -⟩, locs, cells, slots, X, -⟩ := w
  exact K.step fun t q => XS.ifYes X.here hx rfl (pc0 := pc) (pc' := pc') rfl (hb hb' d) rfl ((if0 _ _).trans (tlt hc).2.2.1) (by omega) (by omega) q
theorem i_if_gt_N (w : Wk p l e R s m args below meth c Z own bytes maxL ret mn n0 h0 ws T h k n) {x : Int32} {o : Int} (hc : ¬ 0 < x) (d : decode bytes pc = .ok (.ifCond .gt o, 3)) (hp : pc + 3 = pc') (K : Goes p e below P T (mkF m pc' Ls (st))) : Goes p e below P T (mkF m pc Ls (.int x :: st)) := by
  obtain ⟨⟨hx, hb', -⟩, locs, cells, slots, X, -⟩ := w
  subst hp
  exact K.step fun t q => XS.ifNo X.here hx rfl (hb hb' d) rfl ((if0 _ _).trans (flt hc).2.2.1) q
theorem i_if_gt (w : Wk p l e R s m args below meth c Z own bytes maxL ret mn n0 h0 ws T h k n) {x : Int32} {o : Int} {pcY : Nat} (d : decode bytes pc = .ok (.ifCond .gt o, 3)) (hy : (pc : Int) + o = (pcY : Int)) (hp : pc + 3 = pc') (KY : 0 < x → Goes p e below P T (mkF m pcY Ls (st))) (KN : ¬ 0 < x → Goes p e below P T (mkF m pc' Ls (st))) : Goes p e below P T (mkF m pc Ls (.int x :: st)) :=
  Decidable.byCases (fun hc : 0 < x => i_if_gt_Y w hc d hy (KY hc)) (fun hc => i_if_gt_N w (hc) d hp (KN (hc)))
theorem i_icmp_le_Y (w : Wk p l e R s m args below meth c Z own bytes maxL ret mn n0 h0 ws T h k n) {x y : Int32} {o : Int} (hc : ¬ y < x) (d : decode bytes pc = .ok (.if_icmp .le o, 3)) (hp : (pc : Int) + o = (pc' : Int)) (K : Goes p e below P T (mkF m pc' Ls (st))) : Goes p e below P T (mkF m pc Ls (.int y :: .int x :: st)) := by
  obtain ⟨⟨hx, hb', -⟩, locs, cells, slots, X, -⟩ := w
  exact K.step fun t q => XS.icmpYes X.here hx rfl (pc0 := pc) (pc' := pc') rfl (hb hb' d) rfl (flt hc).2.2.2 (by omega) (by omega) q
theorem i_icmp_le_N (w : Wk p l e R s m args below meth c Z own bytes maxL ret mn n0 h0 ws T h k n) {x y : Int32} {o : Int} (hc : y < x) (d : decode bytes pc = .ok (.if_icmp .le o, 3)) (hp : pc + 3 = pc') (K : Goes p e below P T (mkF m pc' Ls (st))) : Goes p e below P T (mkF m pc Ls (.int y :: .int x :: st)) := by
  obtain ⟨⟨hx, hb', -⟩, locs, cells, slots, X, -⟩ := w
  subst hp
  exact K.step fun t q => XS.icmpNo X.here hx rfl (hb hb' d) rfl (tlt hc).2.2.2 q
theorem i_icmp_le (w : Wk p l e R s m args below meth c Z own bytes maxL ret mn n0 h0 ws T h k n) {x y : Int32} {o : Int} {pcY : Nat} (d : decode bytes pc = .ok (.if_icmp .le o, 3)) (hy : (pc : Int) + o = (pcY : Int)) (hp : pc + 3 = pc') (KY : ¬ y < x → Goes p e below P T (mkF m pcY Ls (st))) (KN : y < x → Goes p e below P T (mkF m pc' Ls (st))) : Goes p e below P T (mkF m pc Ls (.int y :: .int x :: st)) :=
  Decidable.byCases (fun hc : ¬ y < x => i_icmp_le_Y w hc d hy (KY hc)) (fun hc => i_icmp_le_N w (Decidable.not_not.mp hc) d hp (KN (Decidable.not_not.mp hc)))
theorem i_if_le_Y (w : Wk p l e R s m args below meth c Z own bytes maxL ret mn n0 h0 ws T h k n) {x : Int32} {o : Int} (hc : ¬ 0 < x) (d : decode bytes pc = .ok (.ifCond .le o, 3)) (hp : (pc : Int) + o = (pc' : Int)) (K : Goes p e below P T (mkF m pc' Ls (st))) : Goes p e below P T (mkF m pc Ls (.int x :: st)) := by
  obtain ⟨⟨hx, hb', -⟩, locs, cells, slots, X, -⟩ := w
  exact K.step fun t q => XS.ifYes X.here hx rfl (pc0 := pc) (pc' := pc') rfl (hb hb' d) rfl ((if0 _ _).trans (flt hc).2.2.2) (by omega) (by omega) q
theorem i_if_le_N (w : Wk p l e R s m args below meth c Z own bytes maxL ret mn n0 h0 ws T h k n) {x : Int32} {o : Int} (hc : 0 < x) (d : decode bytes pc = .ok (.ifCond .le o, 3)) (hp : pc + 3 = pc') (K : Goes p e below P T (mkF m pc' Ls (st))) : Goes p e below P T (mkF m pc Ls (.int x :: st)) := by
  obtain ⟨⟨hx, hb', -⟩, locs, cells, slots, X, -⟩ := w
  subst hp
  exact K.step fun t q => XS.ifNo X.here hx rfl (hb hb' d) rfl ((if0 _ _).trans (tlt hc).2.2.2) q
theorem i_if_le (w : Wk p l e R s m args below meth c Z own bytes maxL ret mn n0 h0 ws T h k n) {x : Int32} {o : Int} {pcY : Nat} (d : decode bytes pc = .ok (.ifCond .le o, 3)) (hy : (pc : Int) + o = (pcY : Int)) (hp : pc + 3 = pc') (KY : ¬ 0 < x → Goes p e below P T (mkF m pcY Ls (st))) (KN : 0 < x → Goes p e below P T (mkF m pc' Ls (st))) : Goes p e below P T (mkF m pc Ls (.int x :: st)) :=
  Decidable.byCases (fun hc : ¬ 0 < x => i_if_le_Y w hc d hy (KY hc)) (fun hc => i_if_le_N w (Decidable.not_not.mp hc) d hp (KN (Decidable.not_not.mp hc)))
theorem i_ifnull_Y (w : Wk p l e R s m args below meth c Z own bytes maxL ret mn n0 h0 ws T h k n) {o : Int} {b : Addr} (d : decode bytes pc = .ok (.ifnull o, 3)) (hp : (pc : Int) + o = (pc' : Int)) (K : Goes p e below P T (mkF m pc' Ls (st))) : Goes p e below P T (mkF m pc Ls (.null :: st)) := by
  obtain ⟨⟨hx, hb', -⟩, locs, cells, slots, X, -⟩ := w
  exact K.step fun t q => XS.ifnullYes X.here hx rfl (pc0 := pc) (pc' := pc') rfl (hb hb' d) rfl (by omega) (by omega) q
theorem i_ifnull_N (w : Wk p l e R s m args below meth c Z own bytes maxL ret mn n0 h0 ws T h k n) {o : Int} {b : Addr} (d : decode bytes pc = .ok (.ifnull o, 3)) (hp : pc + 3 = pc') (K : Goes p e below P T (mkF m pc' Ls (st))) : Goes p e below P T (mkF m pc Ls (.ref b :: st)) := by
  obtain ⟨⟨hx, hb', -⟩, locs, cells, slots, X, -⟩ := w
  subst hp
  exact K.step fun t q => XS.ifnullNo X.here hx rfl (hb hb' d) rfl q
theorem i_ifnonnull_Y (w : Wk p l e R s m args below meth c Z own bytes maxL ret mn n0 h0 ws T h k n) {o : Int} {b : Addr} (d : decode bytes pc = .ok (.ifnonnull o, 3)) (hp : (pc : Int) + o = (pc' : Int)) (K : Goes p e below P T (mkF m pc' Ls (st))) : Goes p e below P T (mkF m pc Ls (.ref b :: st)) := by
  obtain ⟨⟨hx, hb', -⟩, locs, cells, slots, X, -⟩ := w
  exact K.step fun t q => XT.ifnonnullYes X.here hx rfl (pc0 := pc) (pc' := pc') rfl (hb hb' d) rfl (by omega) (by omega) q
theorem i_ifnonnull_N (w : Wk p l e R s m args below meth c Z own bytes maxL ret mn n0 h0 ws T h k n) {o : Int} {b : Addr} (d : decode bytes pc = .ok (.ifnonnull o, 3)) (hp : pc + 3 = pc') (K : Goes p e below P T (mkF m pc' Ls (st))) : Goes p e below P T (mkF m pc Ls (.null :: st)) := by
  obtain ⟨⟨hx, hb', -⟩, locs, cells, slots, X, -⟩ := w
  subst hp
  exact K.step fun t q => XT.ifnonnullNo X.here hx rfl (hb hb' d) rfl q
theorem i_acmp_eq_Y (w : Wk p l e R s m args below meth c Z own bytes maxL ret mn n0 h0 ws T h k n) {o : Int} {x y : Value} (hx1 : x.isRef = true) (hy1 : y.isRef = true) (hc : XT.acmp .eq x y = true) (d : decode bytes pc = .ok (.if_acmp .eq o, 3)) (hp : (pc : Int) + o = (pc' : Int)) (K : Goes p e below P T (mkF m pc' Ls (st))) : Goes p e below P T (mkF m pc Ls (y :: x :: st)) := by
  obtain ⟨⟨hx, hb', -⟩, locs, cells, slots, X, -⟩ := w
  exact K.step fun t q => XT.acmpYes X.here hx rfl (pc0 := pc) (pc' := pc') rfl (hb hb' d) rfl hx1 hy1 hc (by omega) (by omega) q
theorem i_acmp_eq_N (w : Wk p l e R s m args below meth c Z own bytes maxL ret mn n0 h0 ws T h k n) {o : Int} {x y : Value} (hx1 : x.isRef = true) (hy1 : y.isRef = true) (hc : XT.acmp .eq x y = false) (d : decode bytes pc = .ok (.if_acmp .eq o, 3)) (hp : pc + 3 = pc') (K : Goes p e below P T (mkF m pc' Ls (st))) : Goes p e below P T (mkF m pc Ls (y :: x :: st)) := by
  obtain ⟨⟨hx, hb', -⟩, locs, cells, slots, X, -⟩ := w
  subst hp
  exact K.step fun t q => XT.acmpNo X.here hx rfl (hb hb' d) rfl hx1 hy1 hc q
theorem i_acmp_ne_Y (w : Wk p l e R s m args below meth c Z own bytes maxL ret mn n0 h0 ws T h k n) {o : Int} {x y : Value} (hx1 : x.isRef = true) (hy1 : y.isRef = true) (hc : XT.acmp .ne x y = true) (d : decode bytes pc = .ok (.if_acmp .ne o, 3)) (hp : (pc : Int) + o = (pc' : Int)) (K : Goes p e below P T (mkF m pc' Ls (st))) : Goes p e below P T (mkF m pc Ls (y :: x :: st)) := by
  obtain ⟨⟨hx, hb', -⟩, locs, cells, slots, X, -⟩ := w
  exact K.step fun t q => XT.acmpYes X.here hx rfl (pc0 := pc) (pc' := pc') rfl (hb hb' d) rfl hx1 hy1 hc (by omega) (by omega) q
theorem i_acmp_ne_N (w : Wk p l e R s m args below meth c Z own bytes maxL ret mn n0 h0 ws T h k n) {o : Int} {x y : Value} (hx1 : x.isRef = true) (hy1 : y.isRef = true) (hc : XT.acmp .ne x y = false) (d : decode bytes pc = .ok (.if_acmp .ne o, 3)) (hp : pc + 3 = pc') (K : Goes p e below P T (mkF m pc' Ls (st))) : Goes p e below P T (mkF m pc Ls (y :: x :: st)) := by
  obtain ⟨⟨hx, hb', -⟩, locs, cells, slots, X, -⟩ := w
  subst hp
  exact K.step fun t q => XT.acmpNo X.here hx rfl (hb hb' d) rfl hx1 hy1 hc q
theorem i_ldcI (w : Wk p l e R s m args below meth c Z own bytes maxL ret mn n0 h0 ws T h k n) {index : Nat} {z : Int32} (w1 : (Cond.constant own index z).before a0 Z = true) (d : decode bytes pc = .ok (.ldc index, 2)) (hp : pc + 2 = pc') (K : Goes p e below P T (mkF m pc' Ls (.int z :: st))) : Goes p e below P T (mkF m pc Ls (st)) := by
  obtain ⟨⟨hx, hb', hml, hZ, hown, -⟩, locs, cells, slots, X, -⟩ := w
  subst hp
  exact K.step fun t q => X.ldcInt hx hown (mvT hZ w1) (g := mkF m pc Ls st) rfl (hb hb' d) t q
theorem i_ldc2 (w : Wk p l e R s m args below meth c Z own bytes maxL ret mn n0 h0 ws T h k n) {index : Nat} {z : Int64} (w1 : (Cond.constantLong own index z).before a0 Z = true) (d : decode bytes pc = .ok (.ldc2_w index, 3)) (hp : pc + 3 = pc') (K : Goes p e below P T (mkF m pc' Ls (.long z :: st))) : Goes p e below P T (mkF m pc Ls (st)) := by
  obtain ⟨⟨hx, hb', hml, hZ, hown, -⟩, locs, cells, slots, X, -⟩ := w
  subst hp
  exact K.step fun t q => X.ldc2Long hx hown (mvT hZ w1) (g := mkF m pc Ls st) rfl (hb hb' d) t q
theorem i_getF (w : Wk p l e R s m args below meth c Z own bytes maxL ret mn n0 h0 ws T h k n) {index : Nat} {O nm ds : String} {a : Addr} {v : Value} (d : decode bytes pc = .ok (.getfield index, 3)) (w1 : (Cond.fieldLink own index O nm ds).before a0 Z = true) (F : Fld Z h a O nm ds v) (hp : pc + 3 = pc') (K : ∀ T', Wk p l e R s m args below meth c Z own bytes maxL ret mn n0 h0 ws T' h k n → Goes p e below P T' (mkF m pc' Ls (v :: st))) : Goes p e below P T (mkF m pc Ls (.ref a :: st)) := by
  obtain ⟨cx, locs, cells, slots, X, e1, r⟩ := w
  obtain ⟨hx, hb', hml, hZ, hown, cr⟩ := id cx
  subst hp
  obtain ⟨T', X', e', stp⟩ := getF X hx hZ hown (host := "") (Or.inl w1) Via.refl e1 F (g := mkF m pc Ls (.ref a :: st)) rfl rfl (hb hb' d)
  exact (K T' ⟨cx, locs, cells, slots, X', e', r⟩).step stp
theorem i_getS (w : Wk p l e R s m args below meth c Z own bytes maxL ret mn n0 h0 ws T h k n) {index : Nat} {O nm ds : String} {v : Value} (d : decode bytes pc = .ok (.getstatic index, 3)) (w1 : (Cond.fieldLink own index O nm ds).before a0 Z = true) (S : Sta Z Z.heap O nm ds v) (hp : pc + 3 = pc') (K : ∀ T', Wk p l e R s m args below meth c Z own bytes maxL ret mn n0 h0 ws T' h k n → Goes p e below P T' (mkF m pc' Ls (v :: st))) : Goes p e below P T (mkF m pc Ls (st)) := by
  have S' := w.sta S
  obtain ⟨cx, locs, cells, slots, X, e1, r⟩ := w
  obtain ⟨hx, hb', hml, hZ, hown, cr⟩ := id cx
  subst hp
  obtain ⟨T', X', e', stp⟩ := getS X hx hZ hown (host := "") w1 Via.refl e1 S' (g := mkF m pc Ls st) rfl (hb hb' d)
  exact (K T' ⟨cx, locs, cells, slots, X', e', r⟩).step stp
theorem i_putF (w : Wk p l e R s m args below meth c Z own bytes maxL ret mn n0 h0 ws T h k n) {index kk : Nat} {O nm ds C : String} {ty : FieldType} {a : Addr} {v old : Value} (d : decode bytes pc = .ok (.putfield index, 3)) (w1 : (Cond.fieldLink own index O nm ds).before a0 Z = true) (F : Fld Z h a O nm ds old) (E : Exa Z h a C)
    (L : (Cond.lays C O nm ds).before a0 Z = true ∨ ((Cond.laysFinal C O nm ds).before a0 Z = true ∧ own = O ∧ mn = "<init>")) (wi : (Cond.instantiable C kk).before a0 Z = true) (hty : parseFieldDescriptor ds = some ty) (hn : narrow ty v = v) (hf : fits ty v = true) (ha : a ∈ ws ∨ h0.size ≤ a) (hp : pc + 3 = pc')
    (K : ∀ T' h', Wk p l e R s m args below meth c Z own bytes maxL ret mn n0 h0 ws T' h' k n → Wr h h' a (Jvm.RoadKit.slotOf Z O nm ds) v → Goes p e below P T' (mkF m pc' Ls (st))) : Goes p e below P T (mkF m pc Ls (v :: .ref a :: st)) := by
  have hna := w.wsn ha
  obtain ⟨cx, locs, cells, slots, X, e1, N, b1, b2, O1, K1⟩ := w
  obtain ⟨hx, hb', hml, hZ, hown, hret, hlk, hmn, cr⟩ := id cx
  subst hp
  obtain ⟨T', h', X', e', W, stp⟩ := putF X hx hZ hown (host := "") (Or.inl w1) Via.refl e1 F E (L.imp id fun q => ⟨q.1, q.2.1, hmn.trans q.2.2⟩) wi hty hn hf (g := mkF m pc Ls (v :: .ref a :: st)) rfl rfl (hb hb' d)
  exact (K T' h' ⟨cx, _, cells, slots, X', e', Fr.snoc X' N hna, b1, b2, O1.wr W hna, K1.wr W ha⟩ W).step stp
theorem i_new (w : Wk p l e R s m args below meth c Z own bytes maxL ret mn n0 h0 ws T h k n) {index sz : Nat} {C : String} (d : decode bytes pc = .ok (.new index, 3)) (w1 : (Cond.classLink own index C).before a0 Z = true) (w2 : (Cond.instantiable C sz).before a0 Z = true) (w3 : (Cond.initialized C).before a0 Z = true) (hc : k + 1 ≤ R.cells) (hs : n + sz ≤ R.slots) (hp : pc + 3 = pc')
    (K : ∀ a T' h', a = h.size → Wk p l e R s m args below meth c Z own bytes maxL ret mn n0 h0 ws T' h' (k + 1) (n + sz) → h0.size ≤ a → Ext h h' → Exa Z h' a C → (∀ {O nm ds : String} {ty : FieldType}, Laid Z a0 C O nm ds → parseFieldDescriptor ds = some ty → Fld Z h' a O nm ds (defaultValue ty)) → Goes p e below P T' (mkF m pc' Ls (.ref a :: st))) : Goes p e below P T (mkF m pc Ls (st)) := by
  obtain ⟨cx, locs, cells, slots, X, e1, N, b1, b2, O1, K1⟩ := w
  obtain ⟨hx, hb', hml, hZ, hown, cr⟩ := id cx
  subst hp
  obtain ⟨T', h', X', e', E, A, D, -, stp⟩ := newO X hx hZ hown w1 w2 w3 e1 (g := mkF m pc Ls st) rfl (hb hb' d) (by omega) (by omega)
  exact (K h.size T' h' rfl ⟨cx, locs, _, _, X', e', N, by omega, by omega, O1.ext E, K1.ext E⟩ K1.1 E A D).step stp
/-- the array at a holds just vs -/
def Ary (Z : State) (h : Heap) (a : Addr) (ca : ClassId) (ty : FieldType) (vs : List Value) : Prop := vs.length < 2147483648 ∧ Arv Z h a ca ty (Int32.ofNat vs.length) vs (defaultValue ty)
theorem Ary.lt {Z : State} {h : Heap} {a : Addr} {ca : ClassId} {ty : FieldType} {vs : List Value} (F : Ary Z h a ca ty vs) : a < h.size := F.2.lt
theorem Ary.ext {Z : State} {h h' : Heap} {a : Addr} {ca : ClassId} {ty : FieldType} {vs : List Value} (E : Ext h h') (F : Ary Z h a ca ty vs) : Ary Z h' a ca ty vs := ⟨F.1, F.2.ext E⟩
theorem Ary.keep {Z : State} {h h' : Heap} {a : Addr} {ca : ClassId} {ty : FieldType} {vs : List Value} {ws : List Addr} (F : Ary Z h a ca ty vs) (K : Keep h h' ws) (q : a ∉ ws) : Ary Z h' a ca ty vs := ⟨F.1, F.2.keep K q⟩
theorem Ary.other {Z : State} {h h' : Heap} {a b : Addr} {ca : ClassId} {ty : FieldType} {vs : List Value} {sl : Nat} {v : Value} (F : Ary Z h b ca ty vs) (W : Wr h h' a sl v) (q : b ≠ a) : Ary Z h' b ca ty vs := ⟨F.1, F.2.other W q⟩
theorem clamp_ofNat {i : Nat} (h : i < 2147483648) : (Int32.ofNat i).toNatClampNeg = i := by
  have e : (Int32.ofNat i).toInt = i := Int32.toInt_ofNat_small h
  show (Int32.ofNat i).toInt.toNat = i
  rw [e]; rfl
theorem nonneg_ofNat {i : Nat} (h : i < 2147483648) : ¬ Int32.ofNat i < 0 := by
  rw [Int32.lt_iff_toInt_lt, Int32.toInt_ofNat_small h]; show ¬ (i : Int) < 0; omega
theorem Ary.in {Z : State} {h : Heap} {a : Addr} {ca : ClassId} {ty : FieldType} {vs : List Value} {i : Nat} {cl : Cell} (hv : vs.length < 2147483648) (S : cl.slots.size = (Int32.ofNat vs.length).toNatClampNeg) (hi : i < vs.length) : ¬ (Int32.ofNat i < 0 ∨ cl.slots.size ≤ (Int32.ofNat i).toNatClampNeg) := by
  rw [S, clamp_ofNat hv, clamp_ofNat (by omega)]
  exact fun q => q.elim (nonneg_ofNat (by omega)) (by omega)
theorem i_newP (w : Wk p l e R s m args below meth c Z own bytes maxL ret mn n0 h0 ws T h k n) {aty : ArrayType} {N : Nat} {z : Int32} (d : decode bytes pc = .ok (.newarray aty, 2)) (w1 : (Cond.arrayClass (newarray.typeOf aty)).before a0 Z = true) (hz : z = Int32.ofNat N) (hN : N ≤ 65536) {cap : Nat} (hcap : N ≤ cap) (hcap' : cap ≤ 65536) (hc : k + 1 ≤ R.cells) (hs : n + cap ≤ R.slots) (hp : pc + 2 = pc')
    (K : ∀ a T' h' ca, a = h.size → Wk p l e R s m args below meth c Z own bytes maxL ret mn n0 h0 ws T' h' (k + 1) (n + cap) → h0.size ≤ a → Ext h h' → Ary Z h' a ca (newarray.typeOf aty) (List.replicate N (defaultValue (newarray.typeOf aty))) → Goes p e below P T' (mkF m pc' Ls (.ref a :: st))) : Goes p e below P T (mkF m pc Ls (.int z :: st)) := by
  obtain ⟨cx, locs, cells, slots, X, e1, N1, b1, b2, O1, K1⟩ := w
  obtain ⟨hx, hb', hml, hZ, hown, cr⟩ := id cx
  subst hp hz
  have cl := clamp_ofNat (i := N) (by omega)
  obtain ⟨T', h', cA, X', e', E, A, stp⟩ := newP X hx hZ w1 e1 (g := mkF m pc Ls (.int (Int32.ofNat N) :: st)) rfl (hb hb' d) rfl (nonneg_ofNat (by omega)) (cap := cap) (by rw [cl]; exact hcap) (by omega) (by omega) (by omega)
  refine (K h.size T' h' cA rfl ⟨cx, locs, _, _, X', e', N1, by omega, by omega, O1.ext E, K1.ext E⟩ K1.1 E ⟨by simp; omega, ?_⟩).step stp
  rw [List.length_replicate]
  exact (Arv.new A (nonneg_ofNat (by omega))).pad (by simpa using pad_rep [] (defaultValue (newarray.typeOf aty)) N)
theorem i_iaload (w : Wk p l e R s m args below meth c Z own bytes maxL ret mn n0 h0 ws T h k n) {a : Addr} {ca : ClassId} {vs : List Value} {i : Nat} {j z : Int32} (d : decode bytes pc = .ok (.iaload, 1)) (A : Ary Z h a ca .int vs) (hj : j = Int32.ofNat i) (hv : vs[i]? = some (.int z)) (hp : pc + 1 = pc') (K : Goes p e below P T (mkF m pc' Ls (.int z :: st))) : Goes p e below P T (mkF m pc Ls (.int j :: .ref a :: st)) := by
  obtain ⟨⟨hx, hb', hml, hZ, cr⟩, locs, cells, slots, X, e1, r⟩ := w
  subst hp hj
  obtain ⟨hl, cl, Ar, q, S, M, H, U⟩ := A
  obtain ⟨hi, hv'⟩ := List.getElem?_eq_some_iff.mp hv
  have hin := Ary.in (Z := Z) (h := h) (a := a) (ca := ca) (ty := .int) hl S hi
  exact K.step fun t q' => X.iaload hx (j := Int32.ofNat i) (v := .int z) (by rw [e1]; exact Ar.1) (State.isArrayOf_alike hZ.alike Ar.2.1) Ar.2.2 hin (Has.at H hin (by rw [clamp_ofNat (by omega), List.getD_eq_getElem?_getD, hv]; rfl)) (g := mkF m pc Ls (.int (Int32.ofNat i) :: .ref a :: st)) rfl rfl (hb hb' d) t q'
theorem i_caload (w : Wk p l e R s m args below meth c Z own bytes maxL ret mn n0 h0 ws T h k n) {a : Addr} {ca : ClassId} {vs : List Value} {i : Nat} {j z : Int32} (d : decode bytes pc = .ok (.caload, 1)) (A : Ary Z h a ca .char vs) (hj : j = Int32.ofNat i) (hv : vs[i]? = some (.int z)) (hp : pc + 1 = pc') (K : Goes p e below P T (mkF m pc' Ls (.int z :: st))) : Goes p e below P T (mkF m pc Ls (.int j :: .ref a :: st)) := by
  obtain ⟨⟨hx, hb', hml, hZ, cr⟩, locs, cells, slots, X, e1, r⟩ := w
  subst hp hj
  obtain ⟨hl, cl, Ar, q, S, M, H, U⟩ := A
  obtain ⟨hi, hv'⟩ := List.getElem?_eq_some_iff.mp hv
  have hin := Ary.in (Z := Z) (h := h) (a := a) (ca := ca) (ty := .char) hl S hi
  exact K.step fun t q' => X.caload hx (j := Int32.ofNat i) (v := .int z) (by rw [e1]; exact Ar.1) (State.isArrayOf_alike hZ.alike Ar.2.1) Ar.2.2 hin (Has.at H hin (by rw [clamp_ofNat (by omega), List.getD_eq_getElem?_getD, hv]; rfl)) (g := mkF m pc Ls (.int (Int32.ofNat i) :: .ref a :: st)) rfl rfl (hb hb' d) t q'
theorem i_baload (w : Wk p l e R s m args below meth c Z own bytes maxL ret mn n0 h0 ws T h k n) {a : Addr} {ca : ClassId} {vs : List Value} {i : Nat} {j z : Int32} (d : decode bytes pc = .ok (.baload, 1)) (A : Ary Z h a ca .byte vs) (hj : j = Int32.ofNat i) (hv : vs[i]? = some (.int z)) (hp : pc + 1 = pc') (K : Goes p e below P T (mkF m pc' Ls (.int z :: st))) : Goes p e below P T (mkF m pc Ls (.int j :: .ref a :: st)) := by
  obtain ⟨⟨hx, hb', hml, hZ, cr⟩, locs, cells, slots, X, e1, r⟩ := w
  subst hp hj
  obtain ⟨hl, cl, Ar, q, S, M, H, U⟩ := A
  obtain ⟨hi, hv'⟩ := List.getElem?_eq_some_iff.mp hv
  have hin := Ary.in (Z := Z) (h := h) (a := a) (ca := ca) (ty := .byte) hl S hi
  exact K.step fun t q' => X.baloadBytes hx (j := Int32.ofNat i) (v := .int z) (by rw [e1]; exact Ar.1) (State.isArrayOf_alike hZ.alike Ar.2.1) Ar.2.2 hin (Has.at H hin (by rw [clamp_ofNat (by omega), List.getD_eq_getElem?_getD, hv]; rfl)) (g := mkF m pc Ls (.int (Int32.ofNat i) :: .ref a :: st)) rfl rfl (hb hb' d) t q'
theorem i_aaload (w : Wk p l e R s m args below meth c Z own bytes maxL ret mn n0 h0 ws T h k n) {a : Addr} {ca : ClassId} {vs : List Value} {i : Nat} {j : Int32} {v : Value} {ty : FieldType} (d : decode bytes pc = .ok (.aaload, 1)) (A : Ary Z h a ca ty vs) (hty : ty.isReference = true) (hj : j = Int32.ofNat i) (hv : vs[i]? = some v) (hp : pc + 1 = pc') (K : Goes p e below P T (mkF m pc' Ls (v :: st))) : Goes p e below P T (mkF m pc Ls (.int j :: .ref a :: st)) := by
  obtain ⟨⟨hx, hb', hml, hZ, cr⟩, locs, cells, slots, X, e1, r⟩ := w
  subst hp hj
  obtain ⟨hl, cl, Ar, q, S, M, H, U⟩ := A
  obtain ⟨hi, hv'⟩ := List.getElem?_eq_some_iff.mp hv
  have hin := Ary.in (Z := Z) (h := h) (a := a) (ca := ca) (ty := ty) hl S hi
  exact K.step fun t q' => X.aaload hx (j := Int32.ofNat i) (v := v) (by rw [e1]; exact Ar.1) (State.isArrayOf_alike hZ.alike Ar.2.1) hty Ar.2.2 hin (Has.at H hin (by rw [clamp_ofNat (by omega), List.getD_eq_getElem?_getD, hv]; rfl)) (g := mkF m pc Ls (.int (Int32.ofNat i) :: .ref a :: st)) rfl rfl (hb hb' d) t q'
theorem i_iastore (w : Wk p l e R s m args below meth c Z own bytes maxL ret mn n0 h0 ws T h k n) {a : Addr} {ca : ClassId} {vs : List Value} {i : Nat} {j x : Int32} (d : decode bytes pc = .ok (.iastore, 1)) (A : Ary Z h a ca .int vs) (hj : j = Int32.ofNat i) (hi : i < vs.length) (ha : a ∈ ws ∨ h0.size ≤ a) (hp : pc + 1 = pc')
    (K : ∀ T' h', Wk p l e R s m args below meth c Z own bytes maxL ret mn n0 h0 ws T' h' k n → Keep h h' [a] → Ary Z h' a ca .int (vs.set i (.int x)) → Goes p e below P T' (mkF m pc' Ls (st))) : Goes p e below P T (mkF m pc Ls (.int x :: .int j :: .ref a :: st)) := by
  have hna := w.wsn ha
  obtain ⟨cx, locs, cells, slots, X, e1, N, b1, b2, O1, K1⟩ := w
  obtain ⟨hx, hb', hml, hZ, cr⟩ := id cx
  subst hp hj
  obtain ⟨hl, cl, Ar, q, S, M, H, U⟩ := A
  have hin := Ary.in (Z := Z) (h := h) (a := a) (ca := ca) (ty := .int) hl S hi
  obtain ⟨T', h', X', e', W, stp⟩ := stI X hx hZ e1 Ar (j := Int32.ofNat i) hin (g := mkF m pc Ls (.int x :: .int (Int32.ofNat i) :: .ref a :: st)) rfl rfl (hb hb' d)
  refine (K T' h' ⟨cx, _, cells, slots, X', e', Fr.snoc X' N hna, b1, b2, O1.wr W hna, K1.wr W ha⟩ (Keep.of_wr W) ⟨by simpa using hl, ?_⟩).step stp
  rw [List.length_set]
  exact Arv.set Ar q S M H U rfl W i (clamp_ofNat (by omega)) hi
theorem i_castore (w : Wk p l e R s m args below meth c Z own bytes maxL ret mn n0 h0 ws T h k n) {a : Addr} {ca : ClassId} {vs : List Value} {i : Nat} {j x : Int32} (d : decode bytes pc = .ok (.castore, 1)) (A : Ary Z h a ca .char vs) (hj : j = Int32.ofNat i) (hi : i < vs.length) (ha : a ∈ ws ∨ h0.size ≤ a) (hp : pc + 1 = pc')
    (K : ∀ T' h', Wk p l e R s m args below meth c Z own bytes maxL ret mn n0 h0 ws T' h' k n → Keep h h' [a] → Ary Z h' a ca .char (vs.set i (.int (nar .char x))) → Goes p e below P T' (mkF m pc' Ls (st))) : Goes p e below P T (mkF m pc Ls (.int x :: .int j :: .ref a :: st)) := by
  have hna := w.wsn ha
  obtain ⟨cx, locs, cells, slots, X, e1, N, b1, b2, O1, K1⟩ := w
  obtain ⟨hx, hb', hml, hZ, cr⟩ := id cx
  subst hp hj
  obtain ⟨hl, cl, Ar, q, S, M, H, U⟩ := A
  have hin := Ary.in (Z := Z) (h := h) (a := a) (ca := ca) (ty := .char) hl S hi
  obtain ⟨T', h', X', e', W, stp⟩ := stC X hx hZ e1 Ar (j := Int32.ofNat i) hin (g := mkF m pc Ls (.int x :: .int (Int32.ofNat i) :: .ref a :: st)) rfl rfl (hb hb' d)
  refine (K T' h' ⟨cx, _, cells, slots, X', e', Fr.snoc X' N hna, b1, b2, O1.wr W hna, K1.wr W ha⟩ (Keep.of_wr W) ⟨by simpa using hl, ?_⟩).step stp
  rw [List.length_set]
  exact Arv.set Ar q S M H U (fits_nar_char x) W i (clamp_ofNat (by omega)) hi
theorem i_bastore (w : Wk p l e R s m args below meth c Z own bytes maxL ret mn n0 h0 ws T h k n) {a : Addr} {ca : ClassId} {vs : List Value} {i : Nat} {j x : Int32} (d : decode bytes pc = .ok (.bastore, 1)) (A : Ary Z h a ca .byte vs) (hj : j = Int32.ofNat i) (hi : i < vs.length) (ha : a ∈ ws ∨ h0.size ≤ a) (hp : pc + 1 = pc')
    (K : ∀ T' h', Wk p l e R s m args below meth c Z own bytes maxL ret mn n0 h0 ws T' h' k n → Keep h h' [a] → Ary Z h' a ca .byte (vs.set i (.int (nar .byte x))) → Goes p e below P T' (mkF m pc' Ls (st))) : Goes p e below P T (mkF m pc Ls (.int x :: .int j :: .ref a :: st)) := by
  have hna := w.wsn ha
  obtain ⟨cx, locs, cells, slots, X, e1, N, b1, b2, O1, K1⟩ := w
  obtain ⟨hx, hb', hml, hZ, cr⟩ := id cx
  subst hp hj
  obtain ⟨hl, cl, Ar, q, S, M, H, U⟩ := A
  have hin := Ary.in (Z := Z) (h := h) (a := a) (ca := ca) (ty := .byte) hl S hi
  obtain ⟨T', h', X', e', W, stp⟩ := stB X hx hZ e1 Ar (j := Int32.ofNat i) hin (g := mkF m pc Ls (.int x :: .int (Int32.ofNat i) :: .ref a :: st)) rfl rfl (hb hb' d)
  refine (K T' h' ⟨cx, _, cells, slots, X', e', Fr.snoc X' N hna, b1, b2, O1.wr W hna, K1.wr W ha⟩ (Keep.of_wr W) ⟨by simpa using hl, ?_⟩).step stp
  rw [List.length_set]
  exact Arv.set Ar q S M H U (fits_nar_byte x) W i (clamp_ofNat (by omega)) hi
theorem i_len (w : Wk p l e R s m args below meth c Z own bytes maxL ret mn n0 h0 ws T h k n) {a : Addr} {ca : ClassId} {vs : List Value} {ty : FieldType} {z : Int32} (d : decode bytes pc = .ok (.arraylength, 1)) (A : Ary Z h a ca ty vs) (hz : Int32.ofNat vs.length = z) (hp : pc + 1 = pc') (K : Goes p e below P T (mkF m pc' Ls (.int z :: st))) : Goes p e below P T (mkF m pc Ls (.ref a :: st)) := by
  obtain ⟨⟨hx, hb', hml, hZ, cr⟩, locs, cells, slots, X, e1, r⟩ := w
  subst hp hz
  obtain ⟨hl, cl, Ar, q, S, M, H, U⟩ := A
  exact K.step fun t q' => X.arraylength hx (by rw [e1]; exact Ar.1) (State.isArrayOf_alike hZ.alike Ar.2.1) (g := mkF m pc Ls (.ref a :: st)) rfl rfl (hb hb' d) t (by rw [len_of S M]; exact q')
theorem i_initO (w : Wk p l e R s m args below meth c Z own bytes maxL ret mn n0 h0 ws T h k n) {index : Nat} {a : Addr} (d : decode bytes pc = .ok (.invokespecial index, 3)) (w1 : (Cond.methodLink own index Lib.objectInit).before a0 Z = true) (w2 : (Cond.instanceMethod Lib.objectInit).before a0 Z = true) (w3 : (Cond.code Lib.objectInit ⟨#[0xb1]⟩ 1 none).before a0 Z = true) (hsz : Ls.size = maxL) (hf : 1 ≤ R.frames) {W : Nat} (hW : (st.map fun v => v.category).sum ≤ W) (hl : W + 12 ≤ R.locals) (hp : pc + 3 = pc')
    (K : ∀ T', Wk p l e R s m args below meth c Z own bytes maxL ret mn n0 h0 ws T' h k n → Goes p e below P T' (mkF m pc' Ls (st))) : Goes p e below P T (mkF m pc Ls (.ref a :: st)) := by
  obtain ⟨cx, locs, cells, slots, X, e1, r⟩ := w
  obtain ⟨hx, hb', hml, hZ, hown, cr⟩ := id cx
  subst hp
  obtain ⟨T', X', e', stp⟩ := initO X hx hZ hown w1 w2 w3 e1 (g := mkF m pc Ls (.ref a :: st)) rfl (hsz.trans hml.symm) rfl (hb hb' d) hf (W := W) (by show 2 * 0 + _ ≤ _; omega) hl
  exact (K T' ⟨cx, locs, cells, slots, X', e', r⟩).step stp
end Steps
/-- the end: narrow -/
def PN (s : State) (n0 : Nat) (h0 : Heap) (ws : List Addr) (Q : Option Value → Heap → Prop) (kc ns : Nat) (o : Outcome) (t : State) : Prop := ∃ v L, o = .returned v ∧ (Q v t.heap ∧ Fr n0 L ∧ Keep h0 t.heap ws) ∧ FrameEnd s o t L kc ns
/-- the end: wide (the walk may have interned) -/
def PW (s : State) (n0 : Nat) (h0 : Heap) (ws : List Addr) (Q : Option Value → Heap → Prop) (kc ns : Nat) (o : Outcome) (t : State) : Prop := ∃ v L, o = .returned v ∧ (Q v t.heap ∧ Fr n0 L ∧ Keep h0 t.heap ws) ∧ ReturnedEndW s o t L kc ns
/-- **A CONTRACT**, narrow -/
def Ctr (l : Launch) (Z : State) (n0 : Nat) (y : MethodName) (bytes : ByteArray) (maxL : Nat) (ret : Option FieldType) (cs : List Jvm.Cond) (rm : Room) (as' : Array Value) (h0 : Heap) (ws : List Addr) (Q : Option Value → Heap → Prop) : Prop :=
  MetFree l y (head1 (Cond.code y bytes maxL ret :: cs) rm) (fun a U => a = as' ∧ Z.Warmed39 U.vm ∧ U.heap = h0) (fun _ _ _ _ _ => True) (fun _ U o U' => PN U n0 h0 ws Q rm.cells rm.slots o U')
def CtrW (l : Launch) (Z : State) (n0 : Nat) (y : MethodName) (bytes : ByteArray) (maxL : Nat) (ret : Option FieldType) (cs : List Jvm.Cond) (rm : Room) (as' : Array Value) (h0 : Heap) (ws : List Addr) (Q : Option Value → Heap → Prop) : Prop :=
  MetFree l y (head1 (Cond.code y bytes maxL ret :: cs) rm) (fun a U => a = as' ∧ Z.Warmed39 U.vm ∧ U.heap = h0) (fun _ _ _ _ _ => True) (fun _ U o U' => PW U n0 h0 ws Q rm.cells rm.slots o U')
section Ends
variable {p : Program} {l : Launch} {e : Env} {R : Room} {s : State} {m : MethodId} {args : Array Value} {below : List Frame} {meth : Method} {c : Code} {Z : State} {own : String} {bytes : ByteArray} {maxL : Nat} {ret : Option FieldType} {mn : String} {n0 : Nat} {h0 : Heap} {ws : List Addr} {T : State} {h : Heap} {k n : Nat} {P : Outcome → State → Prop} {Ls : Array Slot} {st : List Value} {pc pc' : Nat} {a0 : Array Value} {Q : Option Value → Heap → Prop} {kc ns : Nat}
theorem i_retI (w : Wk p l e R s m args below meth c Z own bytes maxL ret mn n0 h0 ws T h k n) {z : Int32} (d : decode bytes pc = .ok (.ireturn, 1)) (hr : ret = some .int) (q : Q (some (.int z)) h) (hk : k ≤ kc) (hn : n ≤ ns) : Goes p e below (PN s n0 h0 ws Q kc ns) T (mkF m pc Ls (.int z :: st)) := by
  obtain ⟨⟨hx, hb', hml, hZ, hown, hret, hlk, cr⟩, locs, cells, slots, X, e1, N, b1, b2, O1, K1⟩ := w
  obtain ⟨fs, hl, hrun, hended, hW, hsame⟩ := X.leave (v := some (.int z)) (fun h => by first | rfl | (rw [hret, hr] at h; cases h)) hlk
  exact ⟨_, _, retOut X hx (t := .int) (i := .ireturn) (hret.trans hr) rfl (Or.inl ⟨rfl, by simp, z, rfl⟩) (hb hb' d) hl, hrun, hended, _, _, rfl, ⟨by show Q _ T.heap; rw [e1]; exact q, N, by show Keep h0 T.heap ws; rw [e1]; exact K1⟩, ⟨_, rfl⟩, hW, hsame.mono (by omega) (by omega)⟩
theorem i_retIW {s0 : State} {vm0 : Vm} (w : Wk p l e R (s0.setVm vm0) m args below meth c Z own bytes maxL ret mn n0 h0 ws T h k n) {k0 : Nat} (hS : s0.Since vm0 k0) (hk0 : k0 ≤ h.size) {z : Int32} (d : decode bytes pc = .ok (.ireturn, 1)) (hr : ret = some .int) (q : Q (some (.int z)) h) (hk : k ≤ kc) (hn : n ≤ ns) : Goes p e below (PW s0 n0 h0 ws Q kc ns) T (mkF m pc Ls (.int z :: st)) := by
  obtain ⟨⟨hx, hb', hml, hZ, hown, hret, hlk, cr⟩, locs, cells, slots, X, e1, N, b1, b2, O1, K1⟩ := w
  obtain ⟨fs, hl, hrun, hended, hE1, hE2, hE3, hE4⟩ := X.leaveW hS (by rw [e1]; exact hk0) (v := some (.int z)) (fun h => by first | rfl | (rw [hret, hr] at h; cases h)) hlk
  exact ⟨_, _, retOut X hx (t := .int) (i := .ireturn) (hret.trans hr) rfl (Or.inl ⟨rfl, by simp, z, rfl⟩) (hb hb' d) hl, hrun, hended, _, _, rfl, ⟨by show Q _ T.heap; rw [e1]; exact q, N, by show Keep h0 T.heap ws; rw [e1]; exact K1⟩, hE1, hE2, hE3, hE4.mono (by omega) (by omega)⟩
theorem i_retN (w : Wk p l e R s m args below meth c Z own bytes maxL ret mn n0 h0 ws T h k n) {z : Int32} {t : FieldType} (d : decode bytes pc = .ok (.ireturn, 1)) (hr : ret = some t) (ht : t = .boolean ∨ t = .byte ∨ t = .char ∨ t = .short) (q : Q (some (.int (nar t z))) h) (hk : k ≤ kc) (hn : n ≤ ns) : Goes p e below (PN s n0 h0 ws Q kc ns) T (mkF m pc Ls (.int z :: st)) := by
  obtain ⟨⟨hx, hb', hml, hZ, hown, hret, hlk, cr⟩, locs, cells, slots, X, e1, N, b1, b2, O1, K1⟩ := w
  obtain ⟨fs, hl, hrun, hended, hW, hsame⟩ := X.leave (v := some (.int (nar t z))) (fun h => by first | rfl | (rw [hret, hr] at h; cases h)) hlk
  exact ⟨_, _, retN X hx (hret.trans hr) ht (hb hb' d) hl, hrun, hended, _, _, rfl, ⟨by show Q _ T.heap; rw [e1]; exact q, N, by show Keep h0 T.heap ws; rw [e1]; exact K1⟩, ⟨_, rfl⟩, hW, hsame.mono (by omega) (by omega)⟩
theorem i_retNW {s0 : State} {vm0 : Vm} (w : Wk p l e R (s0.setVm vm0) m args below meth c Z own bytes maxL ret mn n0 h0 ws T h k n) {k0 : Nat} (hS : s0.Since vm0 k0) (hk0 : k0 ≤ h.size) {z : Int32} {t : FieldType} (d : decode bytes pc = .ok (.ireturn, 1)) (hr : ret = some t) (ht : t = .boolean ∨ t = .byte ∨ t = .char ∨ t = .short) (q : Q (some (.int (nar t z))) h) (hk : k ≤ kc) (hn : n ≤ ns) : Goes p e below (PW s0 n0 h0 ws Q kc ns) T (mkF m pc Ls (.int z :: st)) := by
  obtain ⟨⟨hx, hb', hml, hZ, hown, hret, hlk, cr⟩, locs, cells, slots, X, e1, N, b1, b2, O1, K1⟩ := w
  obtain ⟨fs, hl, hrun, hended, hE1, hE2, hE3, hE4⟩ := X.leaveW hS (by rw [e1]; exact hk0) (v := some (.int (nar t z))) (fun h => by first | rfl | (rw [hret, hr] at h; cases h)) hlk
  exact ⟨_, _, retN X hx (hret.trans hr) ht (hb hb' d) hl, hrun, hended, _, _, rfl, ⟨by show Q _ T.heap; rw [e1]; exact q, N, by show Keep h0 T.heap ws; rw [e1]; exact K1⟩, hE1, hE2, hE3, hE4.mono (by omega) (by omega)⟩
theorem i_retA (w : Wk p l e R s m args below meth c Z own bytes maxL ret mn n0 h0 ws T h k n) {v : Value} {t : FieldType} (d : decode bytes pc = .ok (.areturn, 1)) (hr : ret = some t) (ht : t.isReference = true) (hv : v.isRef = true) (q : Q (some v) h) (hk : k ≤ kc) (hn : n ≤ ns) : Goes p e below (PN s n0 h0 ws Q kc ns) T (mkF m pc Ls (v :: st)) := by
  obtain ⟨⟨hx, hb', hml, hZ, hown, hret, hlk, cr⟩, locs, cells, slots, X, e1, N, b1, b2, O1, K1⟩ := w
  obtain ⟨fs, hl, hrun, hended, hW, hsame⟩ := X.leave (v := some v) (fun h => by first | rfl | (rw [hret, hr] at h; cases h)) hlk
  exact ⟨_, _, retOut X hx (hret.trans hr) (by cases t <;> cases v <;> simp_all [narrow, Value.isRef]) (Or.inr (Or.inr (Or.inr (Or.inr ⟨rfl, ht, hv⟩)))) (hb hb' d) hl, hrun, hended, _, _, rfl, ⟨by show Q _ T.heap; rw [e1]; exact q, N, by show Keep h0 T.heap ws; rw [e1]; exact K1⟩, ⟨_, rfl⟩, hW, hsame.mono (by omega) (by omega)⟩
theorem i_retAW {s0 : State} {vm0 : Vm} (w : Wk p l e R (s0.setVm vm0) m args below meth c Z own bytes maxL ret mn n0 h0 ws T h k n) {k0 : Nat} (hS : s0.Since vm0 k0) (hk0 : k0 ≤ h.size) {v : Value} {t : FieldType} (d : decode bytes pc = .ok (.areturn, 1)) (hr : ret = some t) (ht : t.isReference = true) (hv : v.isRef = true) (q : Q (some v) h) (hk : k ≤ kc) (hn : n ≤ ns) : Goes p e below (PW s0 n0 h0 ws Q kc ns) T (mkF m pc Ls (v :: st)) := by
  obtain ⟨⟨hx, hb', hml, hZ, hown, hret, hlk, cr⟩, locs, cells, slots, X, e1, N, b1, b2, O1, K1⟩ := w
  obtain ⟨fs, hl, hrun, hended, hE1, hE2, hE3, hE4⟩ := X.leaveW hS (by rw [e1]; exact hk0) (v := some v) (fun h => by first | rfl | (rw [hret, hr] at h; cases h)) hlk
  exact ⟨_, _, retOut X hx (hret.trans hr) (by cases t <;> cases v <;> simp_all [narrow, Value.isRef]) (Or.inr (Or.inr (Or.inr (Or.inr ⟨rfl, ht, hv⟩)))) (hb hb' d) hl, hrun, hended, _, _, rfl, ⟨by show Q _ T.heap; rw [e1]; exact q, N, by show Keep h0 T.heap ws; rw [e1]; exact K1⟩, hE1, hE2, hE3, hE4.mono (by omega) (by omega)⟩
theorem i_ret0 (w : Wk p l e R s m args below meth c Z own bytes maxL ret mn n0 h0 ws T h k n) (d : decode bytes pc = .ok (.return_, 1)) (hr : ret = none) (q : Q (none) h) (hk : k ≤ kc) (hn : n ≤ ns) : Goes p e below (PN s n0 h0 ws Q kc ns) T (mkF m pc Ls ([])) := by
  obtain ⟨⟨hx, hb', hml, hZ, hown, hret, hlk, cr⟩, locs, cells, slots, X, e1, N, b1, b2, O1, K1⟩ := w
  obtain ⟨fs, hl, hrun, hended, hW, hsame⟩ := X.leave (v := none) (fun h => by first | rfl | (rw [hret, hr] at h; cases h)) hlk
  exact ⟨_, _, X.returnOut hx (hret.trans hr) (hb hb' d) hl, hrun, hended, _, _, rfl, ⟨by show Q _ T.heap; rw [e1]; exact q, N, by show Keep h0 T.heap ws; rw [e1]; exact K1⟩, ⟨_, rfl⟩, hW, hsame.mono (by omega) (by omega)⟩
theorem i_ret0W {s0 : State} {vm0 : Vm} (w : Wk p l e R (s0.setVm vm0) m args below meth c Z own bytes maxL ret mn n0 h0 ws T h k n) {k0 : Nat} (hS : s0.Since vm0 k0) (hk0 : k0 ≤ h.size) (d : decode bytes pc = .ok (.return_, 1)) (hr : ret = none) (q : Q (none) h) (hk : k ≤ kc) (hn : n ≤ ns) : Goes p e below (PW s0 n0 h0 ws Q kc ns) T (mkF m pc Ls ([])) := by
  obtain ⟨⟨hx, hb', hml, hZ, hown, hret, hlk, cr⟩, locs, cells, slots, X, e1, N, b1, b2, O1, K1⟩ := w
  obtain ⟨fs, hl, hrun, hended, hE1, hE2, hE3, hE4⟩ := X.leaveW hS (by rw [e1]; exact hk0) (v := none) (fun h => by first | rfl | (rw [hret, hr] at h; cases h)) hlk
  exact ⟨_, _, X.returnOut hx (hret.trans hr) (hb hb' d) hl, hrun, hended, _, _, rfl, ⟨by show Q _ T.heap; rw [e1]; exact q, N, by show Keep h0 T.heap ws; rw [e1]; exact K1⟩, hE1, hE2, hE3, hE4.mono (by omega) (by omega)⟩
end Ends
theorem enter {l : Launch} {Z : State} {n0 : Nat} {y : MethodName} {bytes : ByteArray} {maxL : Nat} {ret : Option FieldType} {cs : List Jvm.Cond} {rm : Room} {as' : Array Value} {h0 : Heap} {ws : List Addr} {Q : Option Value → Heap → Prop} {Ls : Array Slot}
    (pn : plainFor y = true) (ef : ∀ m, entryFrame m as' maxL = mkF m 0 Ls []) (O : Old Z n0 h0) (hws : ∀ x ∈ ws, n0 ≤ x)
    (body : ∀ p e s m below meth c T, Wk p l e rm s m as' below meth c Z y.cls bytes maxL ret y.name n0 h0 ws T h0 0 0 → Goes p e below (PN s n0 h0 ws Q rm.cells rm.slots) T (mkF m 0 Ls [])) :
    Ctr l Z n0 y bytes maxL ret cs rm as' h0 ws Q := by
  refine MetFree.of_bodySF pn hisR ?_
  intro p e s m args below meth c s₁ Bd hml0 hP hK
  obtain ⟨rfl, hZ, hh⟩ := hP
  rw [ef m]
  exact body p e s m below meth c s₁ ⟨⟨Bd.exec, Bd.bytes, hml0, hZ, findClass_of_methodNamed Bd.named, Bd.returns, Bd.notSynchronized, (name_of_methodNamed Bd.named Bd.method).1, hws, Nat.le_trans (Nat.le_of_eq O.1.symm) O.2.1⟩,
    [], 0, 0, Stand.of_body Bd, by rw [← hh, Bd.state]; rfl, Fr.nil n0, Nat.le_refl _, Nat.le_refl _, O, Keep.refl _ _⟩
theorem enterW {l : Launch} {Z : State} {n0 : Nat} {y : MethodName} {bytes : ByteArray} {maxL : Nat} {ret : Option FieldType} {cs : List Jvm.Cond} {rm : Room} {as' : Array Value} {h0 : Heap} {ws : List Addr} {Q : Option Value → Heap → Prop} {Ls : Array Slot}
    (pn : plainFor y = true) (ef : ∀ m, entryFrame m as' maxL = mkF m 0 Ls []) (O : Old Z n0 h0) (hws : ∀ x ∈ ws, n0 ≤ x)
    (body : ∀ p e s m below meth c T, Wk p l e rm (s.setVm s.vm) m as' below meth c Z y.cls bytes maxL ret y.name n0 h0 ws T h0 0 0 → s.Since s.vm h0.size → Goes p e below (PW s n0 h0 ws Q rm.cells rm.slots) T (mkF m 0 Ls [])) :
    CtrW l Z n0 y bytes maxL ret cs rm as' h0 ws Q := by
  refine MetFree.of_bodySF pn hisR ?_
  intro p e s m args below meth c s₁ Bd hml0 hP hK
  obtain ⟨rfl, hZ, hh⟩ := hP
  rw [ef m]
  exact body p e s m below meth c s₁ ⟨⟨Bd.exec, Bd.bytes, hml0, hZ, findClass_of_methodNamed Bd.named, Bd.returns, Bd.notSynchronized, (name_of_methodNamed Bd.named Bd.method).1, hws, Nat.le_trans (Nat.le_of_eq O.1.symm) O.2.1⟩,
    [], 0, 0, Stand.of_body Bd, by rw [← hh, Bd.state]; rfl, Fr.nil n0, Nat.le_refl _, Nat.le_refl _, O, Keep.refl _ _⟩ ⟨State.Warmed39.refl s, fun j p hj hp => absurd (Array.getElem?_eq_some_iff.mp hp).1 (Nat.not_lt.mpr hj)⟩
section Calls
variable {p : Program} {l : Launch} {e : Env} {R : Room} {s : State} {m : MethodId} {args : Array Value} {below : List Frame} {meth : Method} {c : Code} {Z : State} {own : String} {bytes : ByteArray} {maxL : Nat} {ret : Option FieldType} {mn : String} {n0 : Nat} {h0 : Heap} {ws : List Addr} {T : State} {h : Heap} {k n : Nat} {P : Outcome → State → Prop} {Ls : Array Slot} {st : List Value} {pc pc' : Nat} {a0 : Array Value}
theorem c_static (w : Wk p l e R s m args below meth c Z own bytes maxL ret mn n0 h0 ws T h k n) {index : Nat} {y : MethodName} {bytes' : ByteArray} {maxL' : Nat} {ret' : Option FieldType} {rm : Room} {ws' : List Addr} {Q : Option Value → Heap → Prop} {argsL : List Value} {sg : MethodDescriptor} (d : decode bytes pc = .ok (.invokestatic index, 3)) (w1 : (Cond.methodLink own index y).before a0 Z = true) (w2 : (Cond.static y).before a0 Z = true) (w3 : (Cond.initialized y.cls).before a0 Z = true) (w4 : (Cond.code y bytes' maxL' ret').before a0 Z = true) (hy : y.cls ≠ "java/lang/invoke/MethodHandle" ∧ y.cls ≠ "java/lang/invoke/VarHandle") (pd : parseMethodDescriptor y.desc = some sg) (ha : argsL.length = sg.parameters.length)
    (C : Ctr l Z n0 y bytes' maxL' ret' [] rm argsL.toArray h ws' Q) (hsz : Ls.size = maxL) (hf : rm.frames + 1 ≤ R.frames) {W : Nat} (hW : (st.map fun v => v.category).sum ≤ W) (hl : W + (maxL' + 11) + rm.locals ≤ R.locals) (hc : k + rm.cells ≤ R.cells) (hs : n + rm.slots ≤ R.slots) (hws : ∀ x ∈ ws', x ∈ ws ∨ h0.size ≤ x) (hp : pc + 3 = pc') (K : ∀ v T' h', Wk p l e R s m args below meth c Z own bytes maxL ret mn n0 h0 ws T' h' (k + rm.cells) (n + rm.slots) → Keep h h' ws' → Q v h' → Goes p e below P T' (mkF m pc' Ls (v.toList ++ st))) : Goes p e below P T (mkF m pc Ls (argsL.reverse ++ st)) := by
  obtain ⟨cx, locs, cells, slots, X, e1, N, b1, b2, O1, K1⟩ := w
  obtain ⟨hx, hb', hml, hZ, hown, hret, hlk, hmn, hw0, hn0⟩ := id cx
  subst hp
  obtain ⟨_, _, ⟨T', L', k', n'⟩, -, X', ⟨Lc, ⟨q1, N', K'⟩, l1, y1, z1⟩, stp⟩ := Jvm.LawKit.callS X hx (y := y) hown (mvT hZ w1) (mvT hZ w2) (mvT hZ w3) (mvT hZ w4) hy (backOf (W := W) (Q := fun v t L => Q v t ∧ Fr n0 L ∧ Keep h t ws') C hZ w4 w3 hf hl) (g := mkF m pc Ls (argsL.reverse ++ st)) rfl (hsz.trans hml.symm) (argsL := argsL) (rest := st) (fun sig h => by rw [pd] at h; cases h; exact ha) rfl (by show 2 * 0 + _ ≤ _; omega) (hb hb' d) (fun _ _ => ⟨rfl, e1, by show cells + _ ≤ _; omega, by show slots + _ ≤ _; omega⟩)
  dsimp only [Pt.U, Pt.locs, Pt.cells, Pt.slots] at X' l1 y1 z1 stp q1 K'
  subst l1 y1 z1
  refine (K _ T' T'.heap ⟨cx, _, _, _, X', rfl, Fr.app N N', by omega, by omega, O1.keep K' (fun x hx => (hws x hx).elim (hw0 x) (Nat.le_trans hn0)), K1.trans K' hws⟩ K' q1).step stp
theorem c_special (w : Wk p l e R s m args below meth c Z own bytes maxL ret mn n0 h0 ws T h k n) {index : Nat} {y : MethodName} {bytes' : ByteArray} {maxL' : Nat} {rm : Room} {ws' : List Addr} {Q : Option Value → Heap → Prop} {argsL : List Value} {a : Addr} {sg : MethodDescriptor} (d : decode bytes pc = .ok (.invokespecial index, 3)) (hi : y.name = "<init>") (w1 : (Cond.methodLink own index y).before a0 Z = true) (w2 : (Cond.instanceMethod y).before a0 Z = true) (w3 : (Cond.initialized y.cls).before a0 Z = true) (w4 : (Cond.code y bytes' maxL' none).before a0 Z = true) (hy : y.cls ≠ "java/lang/invoke/MethodHandle" ∧ y.cls ≠ "java/lang/invoke/VarHandle") (pd : parseMethodDescriptor y.desc = some sg) (ha : argsL.length = sg.parameters.length)
    (C : Ctr l Z n0 y bytes' maxL' none [] rm (.ref a :: argsL).toArray h ws' Q) (hsz : Ls.size = maxL) (hf : rm.frames + 1 ≤ R.frames) {W : Nat} (hW : (st.map fun v => v.category).sum ≤ W) (hl : W + (maxL' + 11) + rm.locals ≤ R.locals) (hc : k + rm.cells ≤ R.cells) (hs : n + rm.slots ≤ R.slots) (hws : ∀ x ∈ ws', x ∈ ws ∨ h0.size ≤ x) (hp : pc + 3 = pc') (K : ∀ v T' h', Wk p l e R s m args below meth c Z own bytes maxL ret mn n0 h0 ws T' h' (k + rm.cells) (n + rm.slots) → Keep h h' ws' → Q v h' → Goes p e below P T' (mkF m pc' Ls (v.toList ++ st))) : Goes p e below P T (mkF m pc Ls (argsL.reverse ++ .ref a :: st)) := by
  obtain ⟨cx, locs, cells, slots, X, e1, N, b1, b2, O1, K1⟩ := w
  obtain ⟨hx, hb', hml, hZ, hown, hret, hlk, hmn, hw0, hn0⟩ := id cx
  subst hp
  obtain ⟨_, _, ⟨T', L', k', n'⟩, -, X', ⟨Lc, ⟨q1, N', K'⟩, l1, y1, z1⟩, stp⟩ := X.specialBack hx (y := y) hi hown (mvT hZ w1) (mvT hZ w2) (mvT hZ w4) hy (backOf (W := W) (Q := fun v t L => Q v t ∧ Fr n0 L ∧ Keep h t ws') C hZ w4 w3 hf hl) (g := mkF m pc Ls (argsL.reverse ++ .ref a :: st)) rfl (hsz.trans hml.symm) (Steps.refl _) (a := a) (argsL := argsL) (rest := st) (fun sig h => by rw [pd] at h; cases h; exact ha) rfl (by show 2 * 0 + _ ≤ _; omega) (hb hb' d) (fun _ _ => ⟨rfl, e1, by show cells + _ ≤ _; omega, by show slots + _ ≤ _; omega⟩)
  dsimp only [Pt.U, Pt.locs, Pt.cells, Pt.slots] at X' l1 y1 z1 stp q1 K'
  subst l1 y1 z1
  refine (K _ T' T'.heap ⟨cx, _, _, _, X', rfl, Fr.app N N', by omega, by omega, O1.keep K' (fun x hx => (hws x hx).elim (hw0 x) (Nat.le_trans hn0)), K1.trans K' hws⟩ K' q1).step (fun t q => stp.trans q)
theorem c_virtual (w : Wk p l e R s m args below meth c Z own bytes maxL ret mn n0 h0 ws T h k n) {index : Nat} {C : String} {y : MethodName} {bytes' : ByteArray} {maxL' : Nat} {ret' : Option FieldType} {rm : Room} {ws' : List Addr} {Q : Option Value → Heap → Prop} {argsL : List Value} {a : Addr} {sg : MethodDescriptor} (d : decode bytes pc = .ok (.invokevirtual index, 3)) (w1 : (Cond.methodLink own index y).before a0 Z = true) (w2 : (Cond.declares y).before a0 Z = true) (w3 : (Cond.selects C y y).before a0 Z = true) (w4 : (Cond.instanceMethod y).before a0 Z = true) (w5 : (Cond.code y bytes' maxL' ret').before a0 Z = true) (w6 : (Cond.initialized y.cls).before a0 Z = true) (hy : y.cls ≠ "java/lang/invoke/MethodHandle" ∧ y.cls ≠ "java/lang/invoke/VarHandle") (pd : parseMethodDescriptor y.desc = some sg) (ha : argsL.length = sg.parameters.length) (E : Exa Z h a C)
    (C' : Ctr l Z n0 y bytes' maxL' ret' [] rm (.ref a :: argsL).toArray h ws' Q) (hsz : Ls.size = maxL) (hf : rm.frames + 1 ≤ R.frames) {W : Nat} (hW : (st.map fun v => v.category).sum ≤ W) (hl : W + (maxL' + 11) + rm.locals ≤ R.locals) (hc : k + rm.cells ≤ R.cells) (hs : n + rm.slots ≤ R.slots) (hws : ∀ x ∈ ws', x ∈ ws ∨ h0.size ≤ x) (hp : pc + 3 = pc') (K : ∀ v T' h', Wk p l e R s m args below meth c Z own bytes maxL ret mn n0 h0 ws T' h' (k + rm.cells) (n + rm.slots) → Keep h h' ws' → Q v h' → Goes p e below P T' (mkF m pc' Ls (v.toList ++ st))) : Goes p e below P T (mkF m pc Ls (argsL.reverse ++ .ref a :: st)) := by
  obtain ⟨cx, locs, cells, slots, X, e1, N, b1, b2, O1, K1⟩ := w
  obtain ⟨hx, hb', hml, hZ, hown, hret, hlk, hmn, hw0, hn0⟩ := id cx
  subst hp
  obtain ⟨cq, kq, qa, qb, qc⟩ := isOf (T := T) hZ e1 E
  obtain ⟨_, _, ⟨T', L', k', n'⟩, -, X', ⟨Lc, ⟨q1, N', K'⟩, l1, y1, z1⟩, stp⟩ := X.virtualBack hx (y := y) (z := y) hown (mvT hZ w1) (mvT hZ w2) (notFace_of_selects (args := #[]) (mvT hZ w3)) (mvT hZ w3) (mvT hZ w4) hy (backOf (W := W) (Q := fun v t L => Q v t ∧ Fr n0 L ∧ Keep h t ws') C' hZ w5 w6 hf hl) qa qc (g := mkF m pc Ls (argsL.reverse ++ .ref a :: st)) rfl (hsz.trans hml.symm) (Steps.refl _) (argsL := argsL) (rest := st) (fun sig h => by rw [pd] at h; cases h; exact ha) rfl (by show 2 * 0 + _ ≤ _; omega) (hb hb' d) (fun _ _ => ⟨rfl, e1, by show cells + _ ≤ _; omega, by show slots + _ ≤ _; omega⟩)
  dsimp only [Pt.U, Pt.locs, Pt.cells, Pt.slots] at X' l1 y1 z1 stp q1 K'
  subst l1 y1 z1
  refine (K _ T' T'.heap ⟨cx, _, _, _, X', rfl, Fr.app N N', by omega, by omega, O1.keep K' (fun x hx => (hws x hx).elim (hw0 x) (Nat.le_trans hn0)), K1.trans K' hws⟩ K' q1).step (fun t q => stp.trans q)
/-- a payer in this kit's shape -/
def Pays (l : Launch) (R : Room) (p : Program) (e : Env) (below : List Frame) (s : State) (args : Array Value) (y : MethodName) (W : Nat) (as' : Array Value) (n0 : Nat) (h : Heap) (kc ns : Nat) (ws' : List Addr) (Q : Option Value → Heap → Prop) : Prop :=
  Back l R p e below s args y 3 W (fun A a => a = as' ∧ A.U.heap = h ∧ A.cells + kc ≤ R.cells ∧ A.slots + ns ≤ R.slots) (fun A _ v B => ∃ L, (Q v B.U.heap ∧ Fr n0 L ∧ Keep h B.U.heap ws') ∧ B.locs = A.locs ++ L ∧ B.cells = A.cells + kc ∧ B.slots = A.slots + ns)
theorem b_special (w : Wk p l e R s m args below meth c Z own bytes maxL ret mn n0 h0 ws T h k n) {index : Nat} {y : MethodName} {W : Nat} {kc ns : Nat} {ws' : List Addr} {Q : Option Value → Heap → Prop} {bytes' : ByteArray} {maxL' : Nat} {argsL : List Value} {a : Addr} {sg : MethodDescriptor} (d : decode bytes pc = .ok (.invokespecial index, 3)) (hi : y.name = "<init>") (w1 : (Cond.methodLink own index y).before a0 Z = true) (w2 : (Cond.instanceMethod y).before a0 Z = true) (w4 : (Cond.code y bytes' maxL' none).before a0 Z = true) (hy : y.cls ≠ "java/lang/invoke/MethodHandle" ∧ y.cls ≠ "java/lang/invoke/VarHandle") (pd : parseMethodDescriptor y.desc = some sg) (ha : argsL.length = sg.parameters.length)
    (C : Pays l R p e below s args y W (.ref a :: argsL).toArray n0 h kc ns ws' Q) (hsz : Ls.size = maxL) (hW : (st.map fun v => v.category).sum ≤ W) (hc : k + kc ≤ R.cells) (hs : n + ns ≤ R.slots) (hws : ∀ x ∈ ws', x ∈ ws ∨ h0.size ≤ x) (hp : pc + 3 = pc') (K : ∀ v T' h', Wk p l e R s m args below meth c Z own bytes maxL ret mn n0 h0 ws T' h' (k + kc) (n + ns) → Keep h h' ws' → Q v h' → Goes p e below P T' (mkF m pc' Ls (v.toList ++ st))) : Goes p e below P T (mkF m pc Ls (argsL.reverse ++ .ref a :: st)) := by
  obtain ⟨cx, locs, cells, slots, X, e1, N, b1, b2, O1, K1⟩ := w
  obtain ⟨hx, hb', hml, hZ, hown, hret, hlk, hmn, hw0, hn0⟩ := id cx
  subst hp
  obtain ⟨_, _, ⟨T', L', k', n'⟩, -, X', ⟨Lc, ⟨q1, N', K'⟩, l1, y1, z1⟩, stp⟩ := X.specialBack hx (y := y) hi hown (mvT hZ w1) (mvT hZ w2) (mvT hZ w4) hy C (g := mkF m pc Ls (argsL.reverse ++ .ref a :: st)) rfl (hsz.trans hml.symm) (Steps.refl _) (a := a) (argsL := argsL) (rest := st) (fun sig h => by rw [pd] at h; cases h; exact ha) rfl (by show 2 * 0 + _ ≤ _; omega) (hb hb' d) (fun _ _ => ⟨rfl, e1, by show cells + _ ≤ _; omega, by show slots + _ ≤ _; omega⟩)
  dsimp only [Pt.U, Pt.locs, Pt.cells, Pt.slots] at X' l1 y1 z1 stp q1 K'
  subst l1 y1 z1
  refine (K _ T' T'.heap ⟨cx, _, _, _, X', rfl, Fr.app N N', by omega, by omega, O1.keep K' (fun x hx => (hws x hx).elim (hw0 x) (Nat.le_trans hn0)), K1.trans K' hws⟩ K' q1).step (fun t q => stp.trans q)
theorem b_virtual (w : Wk p l e R s m args below meth c Z own bytes maxL ret mn n0 h0 ws T h k n) {index : Nat} {C : String} {y : MethodName} {W : Nat} {kc ns : Nat} {ws' : List Addr} {Q : Option Value → Heap → Prop} {argsL : List Value} {a : Addr} {sg : MethodDescriptor} (d : decode bytes pc = .ok (.invokevirtual index, 3)) (w1 : (Cond.methodLink own index y).before a0 Z = true) (w2 : (Cond.declares y).before a0 Z = true) (w3 : (Cond.selects C y y).before a0 Z = true) (w4 : (Cond.instanceMethod y).before a0 Z = true) (hy : y.cls ≠ "java/lang/invoke/MethodHandle" ∧ y.cls ≠ "java/lang/invoke/VarHandle") (pd : parseMethodDescriptor y.desc = some sg) (ha : argsL.length = sg.parameters.length) (E : Exa Z h a C)
    (C' : Pays l R p e below s args y W (.ref a :: argsL).toArray n0 h kc ns ws' Q) (hsz : Ls.size = maxL) (hW : (st.map fun v => v.category).sum ≤ W) (hc : k + kc ≤ R.cells) (hs : n + ns ≤ R.slots) (hws : ∀ x ∈ ws', x ∈ ws ∨ h0.size ≤ x) (hp : pc + 3 = pc') (K : ∀ v T' h', Wk p l e R s m args below meth c Z own bytes maxL ret mn n0 h0 ws T' h' (k + kc) (n + ns) → Keep h h' ws' → Q v h' → Goes p e below P T' (mkF m pc' Ls (v.toList ++ st))) : Goes p e below P T (mkF m pc Ls (argsL.reverse ++ .ref a :: st)) := by
  obtain ⟨cx, locs, cells, slots, X, e1, N, b1, b2, O1, K1⟩ := w
  obtain ⟨hx, hb', hml, hZ, hown, hret, hlk, hmn, hw0, hn0⟩ := id cx
  subst hp
  obtain ⟨cq, kq, qa, qb, qc⟩ := isOf (T := T) hZ e1 E
  obtain ⟨_, _, ⟨T', L', k', n'⟩, -, X', ⟨Lc, ⟨q1, N', K'⟩, l1, y1, z1⟩, stp⟩ := X.virtualBack hx (y := y) (z := y) hown (mvT hZ w1) (mvT hZ w2) (notFace_of_selects (args := #[]) (mvT hZ w3)) (mvT hZ w3) (mvT hZ w4) hy C' qa qc (g := mkF m pc Ls (argsL.reverse ++ .ref a :: st)) rfl (hsz.trans hml.symm) (Steps.refl _) (argsL := argsL) (rest := st) (fun sig h => by rw [pd] at h; cases h; exact ha) rfl (by show 2 * 0 + _ ≤ _; omega) (hb hb' d) (fun _ _ => ⟨rfl, e1, by show cells + _ ≤ _; omega, by show slots + _ ≤ _; omega⟩)
  dsimp only [Pt.U, Pt.locs, Pt.cells, Pt.slots] at X' l1 y1 z1 stp q1 K'
  subst l1 y1 z1
  refine (K _ T' T'.heap ⟨cx, _, _, _, X', rfl, Fr.app N N', by omega, by omega, O1.keep K' (fun x hx => (hws x hx).elim (hw0 x) (Nat.le_trans hn0)), K1.trans K' hws⟩ K' q1).step (fun t q => stp.trans q)
theorem b_static (w : Wk p l e R s m args below meth c Z own bytes maxL ret mn n0 h0 ws T h k n) {index : Nat} {y : MethodName} {W : Nat} {kc ns : Nat} {ws' : List Addr} {Q : Option Value → Heap → Prop} {bytes' : ByteArray} {maxL' : Nat} {ret' : Option FieldType} {argsL : List Value} {sg : MethodDescriptor} (d : decode bytes pc = .ok (.invokestatic index, 3)) (w1 : (Cond.methodLink own index y).before a0 Z = true) (w2 : (Cond.static y).before a0 Z = true) (w3 : (Cond.initialized y.cls).before a0 Z = true) (w4 : (Cond.code y bytes' maxL' ret').before a0 Z = true) (hy : y.cls ≠ "java/lang/invoke/MethodHandle" ∧ y.cls ≠ "java/lang/invoke/VarHandle") (pd : parseMethodDescriptor y.desc = some sg) (ha : argsL.length = sg.parameters.length)
    (C : Pays l R p e below s args y W argsL.toArray n0 h kc ns ws' Q) (hsz : Ls.size = maxL) (hW : (st.map fun v => v.category).sum ≤ W) (hc : k + kc ≤ R.cells) (hs : n + ns ≤ R.slots) (hws : ∀ x ∈ ws', x ∈ ws ∨ h0.size ≤ x) (hp : pc + 3 = pc') (K : ∀ v T' h', Wk p l e R s m args below meth c Z own bytes maxL ret mn n0 h0 ws T' h' (k + kc) (n + ns) → Keep h h' ws' → Q v h' → Goes p e below P T' (mkF m pc' Ls (v.toList ++ st))) : Goes p e below P T (mkF m pc Ls (argsL.reverse ++ st)) := by
  obtain ⟨cx, locs, cells, slots, X, e1, N, b1, b2, O1, K1⟩ := w
  obtain ⟨hx, hb', hml, hZ, hown, hret, hlk, hmn, hw0, hn0⟩ := id cx
  subst hp
  obtain ⟨_, _, ⟨T', L', k', n'⟩, -, X', ⟨Lc, ⟨q1, N', K'⟩, l1, y1, z1⟩, stp⟩ := Jvm.LawKit.callS X hx (y := y) hown (mvT hZ w1) (mvT hZ w2) (mvT hZ w3) (mvT hZ w4) hy C (g := mkF m pc Ls (argsL.reverse ++ st)) rfl (hsz.trans hml.symm) (argsL := argsL) (rest := st) (fun sig h => by rw [pd] at h; cases h; exact ha) rfl (by show 2 * 0 + _ ≤ _; omega) (hb hb' d) (fun _ _ => ⟨rfl, e1, by show cells + _ ≤ _; omega, by show slots + _ ≤ _; omega⟩)
  dsimp only [Pt.U, Pt.locs, Pt.cells, Pt.slots] at X' l1 y1 z1 stp q1 K'
  subst l1 y1 z1
  refine (K _ T' T'.heap ⟨cx, _, _, _, X', rfl, Fr.app N N', by omega, by omega, O1.keep K' (fun x hx => (hws x hx).elim (hw0 x) (Nat.le_trans hn0)), K1.trans K' hws⟩ K' q1).step stp
theorem c_staticW {s0 : State} {vm0 : Vm} (w : Wk p l e R (s0.setVm vm0) m args below meth c Z own bytes maxL ret mn n0 h0 ws T h k n) {k0 : Nat} (hS : s0.Since vm0 k0) (hk0 : k0 ≤ h.size) {index : Nat} {y : MethodName} {bytes' : ByteArray} {maxL' : Nat} {ret' : Option FieldType} {rm : Room} {ws' : List Addr} {Q : Option Value → Heap → Prop} {argsL : List Value} {sg : MethodDescriptor} (d : decode bytes pc = .ok (.invokestatic index, 3)) (w1 : (Cond.methodLink own index y).before a0 Z = true) (w2 : (Cond.static y).before a0 Z = true) (w3 : (Cond.initialized y.cls).before a0 Z = true) (w4 : (Cond.code y bytes' maxL' ret').before a0 Z = true) (hy : y.cls ≠ "java/lang/invoke/MethodHandle" ∧ y.cls ≠ "java/lang/invoke/VarHandle") (pd : parseMethodDescriptor y.desc = some sg) (ha : argsL.length = sg.parameters.length)
    (C : CtrW l Z n0 y bytes' maxL' ret' [] rm argsL.toArray h ws' Q) (hsz : Ls.size = maxL) (hf : rm.frames + 1 ≤ R.frames) {W : Nat} (hW : (st.map fun v => v.category).sum ≤ W) (hl : W + (maxL' + 11) + rm.locals ≤ R.locals) (hc : k + rm.cells ≤ R.cells) (hs : n + rm.slots ≤ R.slots) (hws : ∀ x ∈ ws', x ∈ ws ∨ h0.size ≤ x) (hp : pc + 3 = pc') (K : ∀ v T' h' vm1, Wk p l e R (s0.setVm vm1) m args below meth c Z own bytes maxL ret mn n0 h0 ws T' h' (k + rm.cells) (n + rm.slots) → s0.Since vm1 h'.size → Keep h h' ws' → Q v h' → Goes p e below P T' (mkF m pc' Ls (v.toList ++ st))) : Goes p e below P T (mkF m pc Ls (argsL.reverse ++ st)) := by
  obtain ⟨cx, locs, cells, slots, X, e1, N, b1, b2, O1, K1⟩ := w
  obtain ⟨hx, hb', hml, hZ, hown, hret, hlk, hmn, hw0, hn0⟩ := id cx
  subst hp
  obtain ⟨_, _, ⟨T', L', k', n'⟩, -, X', hS', hgr, ⟨Lc, ⟨q1, N', K'⟩, l1, y1, z1⟩, stp⟩ := callSS X hx (y := y) hown (mvT hZ w1) (mvT hZ w2) (mvT hZ w3) (mvT hZ w4) hy (backOfS (W := W) (Q := fun v t L => Q v t ∧ Fr n0 L ∧ Keep h t ws') C hZ w4 w3 hf hl) (g := mkF m pc Ls (argsL.reverse ++ st)) rfl (hsz.trans hml.symm) (argsL := argsL) (rest := st) (fun sig h => by rw [pd] at h; cases h; exact ha) rfl (by show 2 * 0 + _ ≤ _; omega) (hb hb' d) (fun _ _ => ⟨rfl, e1, by show cells + _ ≤ _; omega, by show slots + _ ≤ _; omega⟩)
  dsimp only [Pt.U, Pt.locs, Pt.cells, Pt.slots] at X' hS' hgr l1 y1 z1 stp q1 K'
  subst l1 y1 z1
  have hS2 : s0.Since T'.vm T'.heap.size := hS.trans hS' (Nat.le_trans hk0 (by rw [← e1]; exact hgr))
  refine (K _ T' T'.heap T'.vm ⟨⟨hx, hb', hml, State.Warmed39.trans (t := s0.setVm vm0) hZ hS'.1, by rw [show (s0.setVm T'.vm).vm = T'.vm from rfl, hS'.1.alike.findClass]; exact hown, hret, hlk, hmn, hw0, hn0⟩, _, _, _, X', rfl, Fr.app N N', by omega, by omega, O1.keep K' (fun x hx => (hws x hx).elim (hw0 x) (Nat.le_trans hn0)), K1.trans K' hws⟩ hS2 K' q1).step (fun t q => stp.trans q)
theorem c_virtualW {s0 : State} {vm0 : Vm} (w : Wk p l e R (s0.setVm vm0) m args below meth c Z own bytes maxL ret mn n0 h0 ws T h k n) {k0 : Nat} (hS : s0.Since vm0 k0) (hk0 : k0 ≤ h.size) {index : Nat} {C : String} {y : MethodName} {bytes' : ByteArray} {maxL' : Nat} {ret' : Option FieldType} {rm : Room} {ws' : List Addr} {Q : Option Value → Heap → Prop} {argsL : List Value} {a : Addr} {sg : MethodDescriptor} (d : decode bytes pc = .ok (.invokevirtual index, 3)) (w1 : (Cond.methodLink own index y).before a0 Z = true) (w2 : (Cond.declares y).before a0 Z = true) (w3 : (Cond.selects C y y).before a0 Z = true) (w4 : (Cond.instanceMethod y).before a0 Z = true) (w5 : (Cond.code y bytes' maxL' ret').before a0 Z = true) (w6 : (Cond.initialized y.cls).before a0 Z = true) (hy : y.cls ≠ "java/lang/invoke/MethodHandle" ∧ y.cls ≠ "java/lang/invoke/VarHandle") (pd : parseMethodDescriptor y.desc = some sg) (ha : argsL.length = sg.parameters.length) (E : Exa Z h a C)
    (C' : CtrW l Z n0 y bytes' maxL' ret' [] rm (.ref a :: argsL).toArray h ws' Q) (hsz : Ls.size = maxL) (hf : rm.frames + 1 ≤ R.frames) {W : Nat} (hW : (st.map fun v => v.category).sum ≤ W) (hl : W + (maxL' + 11) + rm.locals ≤ R.locals) (hc : k + rm.cells ≤ R.cells) (hs : n + rm.slots ≤ R.slots) (hws : ∀ x ∈ ws', x ∈ ws ∨ h0.size ≤ x) (hp : pc + 3 = pc') (K : ∀ v T' h' vm1, Wk p l e R (s0.setVm vm1) m args below meth c Z own bytes maxL ret mn n0 h0 ws T' h' (k + rm.cells) (n + rm.slots) → s0.Since vm1 h'.size → Keep h h' ws' → Q v h' → Goes p e below P T' (mkF m pc' Ls (v.toList ++ st))) : Goes p e below P T (mkF m pc Ls (argsL.reverse ++ .ref a :: st)) := by
  obtain ⟨cx, locs, cells, slots, X, e1, N, b1, b2, O1, K1⟩ := w
  obtain ⟨hx, hb', hml, hZ, hown, hret, hlk, hmn, hw0, hn0⟩ := id cx
  subst hp
  obtain ⟨cq, kq, qa, qb, qc⟩ := isOf (T := T) hZ e1 E
  obtain ⟨_, _, ⟨T', L', k', n'⟩, -, X', hS', hgr, ⟨Lc, ⟨q1, N', K'⟩, l1, y1, z1⟩, stp⟩ := X.virtualBackS hx (y := y) (z := y) hown (mvT hZ w1) (mvT hZ w2) (notFace_of_selects (args := #[]) (mvT hZ w3)) (mvT hZ w3) (mvT hZ w4) hy (backOfS (W := W) (Q := fun v t L => Q v t ∧ Fr n0 L ∧ Keep h t ws') C' hZ w5 w6 hf hl) qa qc (g := mkF m pc Ls (argsL.reverse ++ .ref a :: st)) rfl (hsz.trans hml.symm) (Steps.refl _) (argsL := argsL) (rest := st) (fun sig h => by rw [pd] at h; cases h; exact ha) rfl (by show 2 * 0 + _ ≤ _; omega) (hb hb' d) (fun _ _ => ⟨rfl, e1, by show cells + _ ≤ _; omega, by show slots + _ ≤ _; omega⟩)
  dsimp only [Pt.U, Pt.locs, Pt.cells, Pt.slots] at X' hS' hgr l1 y1 z1 stp q1 K'
  subst l1 y1 z1
  have hS2 : s0.Since T'.vm T'.heap.size := hS.trans hS' (Nat.le_trans hk0 (by rw [← e1]; exact hgr))
  refine (K _ T' T'.heap T'.vm ⟨⟨hx, hb', hml, State.Warmed39.trans (t := s0.setVm vm0) hZ hS'.1, by rw [show (s0.setVm T'.vm).vm = T'.vm from rfl, hS'.1.alike.findClass]; exact hown, hret, hlk, hmn, hw0, hn0⟩, _, _, _, X', rfl, Fr.app N N', by omega, by omega, O1.keep K' (fun x hx => (hws x hx).elim (hw0 x) (Nat.le_trans hn0)), K1.trans K' hws⟩ hS2 K' q1).step (fun t q => stp.trans q)
theorem c_specialW {s0 : State} {vm0 : Vm} (w : Wk p l e R (s0.setVm vm0) m args below meth c Z own bytes maxL ret mn n0 h0 ws T h k n) {k0 : Nat} (hS : s0.Since vm0 k0) (hk0 : k0 ≤ h.size) {index : Nat} {y : MethodName} {bytes' : ByteArray} {maxL' : Nat} {rm : Room} {ws' : List Addr} {Q : Option Value → Heap → Prop} {argsL : List Value} {a : Addr} {sg : MethodDescriptor} (d : decode bytes pc = .ok (.invokespecial index, 3)) (hi : y.name = "<init>") (w1 : (Cond.methodLink own index y).before a0 Z = true) (w2 : (Cond.instanceMethod y).before a0 Z = true) (w3 : (Cond.initialized y.cls).before a0 Z = true) (w4 : (Cond.code y bytes' maxL' none).before a0 Z = true) (hy : y.cls ≠ "java/lang/invoke/MethodHandle" ∧ y.cls ≠ "java/lang/invoke/VarHandle") (pd : parseMethodDescriptor y.desc = some sg) (ha : argsL.length = sg.parameters.length)
    (C : CtrW l Z n0 y bytes' maxL' none [] rm (.ref a :: argsL).toArray h ws' Q) (hsz : Ls.size = maxL) (hf : rm.frames + 1 ≤ R.frames) {W : Nat} (hW : (st.map fun v => v.category).sum ≤ W) (hl : W + (maxL' + 11) + rm.locals ≤ R.locals) (hc : k + rm.cells ≤ R.cells) (hs : n + rm.slots ≤ R.slots) (hws : ∀ x ∈ ws', x ∈ ws ∨ h0.size ≤ x) (hp : pc + 3 = pc') (K : ∀ v T' h' vm1, Wk p l e R (s0.setVm vm1) m args below meth c Z own bytes maxL ret mn n0 h0 ws T' h' (k + rm.cells) (n + rm.slots) → s0.Since vm1 h'.size → Keep h h' ws' → Q v h' → Goes p e below P T' (mkF m pc' Ls (v.toList ++ st))) : Goes p e below P T (mkF m pc Ls (argsL.reverse ++ .ref a :: st)) := by
  obtain ⟨cx, locs, cells, slots, X, e1, N, b1, b2, O1, K1⟩ := w
  obtain ⟨hx, hb', hml, hZ, hown, hret, hlk, hmn, hw0, hn0⟩ := id cx
  subst hp
  obtain ⟨_, _, ⟨T', L', k', n'⟩, -, X', hS', hgr, ⟨Lc, ⟨q1, N', K'⟩, l1, y1, z1⟩, stp⟩ := X.specialBackS hx (y := y) hi hown (mvT hZ w1) (mvT hZ w2) (mvT hZ w4) hy (backOfS (W := W) (Q := fun v t L => Q v t ∧ Fr n0 L ∧ Keep h t ws') C hZ w4 w3 hf hl) (g := mkF m pc Ls (argsL.reverse ++ .ref a :: st)) rfl (hsz.trans hml.symm) (Steps.refl _) (a := a) (argsL := argsL) (rest := st) (fun sig h => by rw [pd] at h; cases h; exact ha) rfl (by show 2 * 0 + _ ≤ _; omega) (hb hb' d) (fun _ _ => ⟨rfl, e1, by show cells + _ ≤ _; omega, by show slots + _ ≤ _; omega⟩)
  dsimp only [Pt.U, Pt.locs, Pt.cells, Pt.slots] at X' hS' hgr l1 y1 z1 stp q1 K'
  subst l1 y1 z1
  have hS2 : s0.Since T'.vm T'.heap.size := hS.trans hS' (Nat.le_trans hk0 (by rw [← e1]; exact hgr))
  refine (K _ T' T'.heap T'.vm ⟨⟨hx, hb', hml, State.Warmed39.trans (t := s0.setVm vm0) hZ hS'.1, by rw [show (s0.setVm T'.vm).vm = T'.vm from rfl, hS'.1.alike.findClass]; exact hown, hret, hlk, hmn, hw0, hn0⟩, _, _, _, X', rfl, Fr.app N N', by omega, by omega, O1.keep K' (fun x hx => (hws x hx).elim (hw0 x) (Nat.le_trans hn0)), K1.trans K' hws⟩ hS2 K' q1).step (fun t q => stp.trans q)
theorem i_ldcS {s0 : State} {vm0 : Vm} (w : Wk p l e R (s0.setVm vm0) m args below meth c Z own bytes maxL ret mn n0 h0 ws T h k n) {k0 : Nat} (hS : s0.Since vm0 k0) (hk0 : k0 ≤ h.size) {index N : Nat} {text : String} (d : decode bytes pc = .ok (.ldc index, 2)) (w1 : (Cond.stringLink own index text).before a0 Z = true) (wS : ∀ a ∈ Bundle.stringAtoms, a.before a0 Z = true) (hN : 4 * text.toList.length ≤ N) (hbig : N ≤ 536870912) (hc : k + 2 ≤ R.cells) (hs : n + (N + 4) ≤ R.slots) (hp : pc + 2 = pc')
    (K : ∀ a T' h' vm1, Wk p l e R (s0.setVm vm1) m args below meth c Z own bytes maxL ret mn n0 h0 ws T' h' (k + 2) (n + (N + 4)) → s0.Since vm1 h'.size → Ext h h' → Goes p e below P T' (mkF m pc' Ls (.ref a :: st))) : Goes p e below P T (mkF m pc Ls (st)) := by
  obtain ⟨cx, locs, cells, slots, X, e1, N1, b1, b2, O1, K1⟩ := w
  obtain ⟨hx, hb', hml, hZ, hown, cr⟩ := id cx
  subst hp
  obtain ⟨a, T', h', k1, X', e', E, hS', hk1, hZ', hown', stp⟩ := ldcS X hx hZ hown w1 wS e1 hS hk0 (g := mkF m pc Ls st) rfl (hb hb' d) hN hbig (by omega) (by omega)
  exact (K a T' h' T'.vm ⟨⟨hx, hb', hml, hZ', hown', cr⟩, locs, _, _, X', e', N1, by omega, by omega, O1.ext E, K1.ext E⟩ ⟨hS'.1, hS'.2.mono hk1⟩ E).step stp
theorem i_acopy (w : Wk p l e R s m args below meth c Z own bytes maxL ret mn n0 h0 ws T h k n) {index : Nat} {a b : Addr} {ca cb : ClassId} {ty : FieldType} {vs vd : List Value} {sp dp nn : Nat} (d : decode bytes pc = .ok (.invokestatic index, 3)) (w1 : (Cond.methodLink own index Jvm.Stand.acN).before a0 Z = true) (w2 : (Cond.native Jvm.Stand.acN).before a0 Z = true) (w3 : (Cond.static Jvm.Stand.acN).before a0 Z = true) (w4 : (Cond.initialized "java/lang/System").before a0 Z = true)
    (A : Ary Z h a ca ty vs) (B : Ary Z h b cb ty vd) (hty : refKind ty = false) (h4 : sp + nn ≤ vs.length) (h5 : dp + nn ≤ vd.length) (hb : b ∈ ws ∨ h0.size ≤ b) (hsz : Ls.size = maxL) (hf : 1 ≤ R.frames) {W : Nat} (hW : (st.map fun v => v.category).sum ≤ W) (hl : W + 18 ≤ R.locals) (hp : pc + 3 = pc')
    (K : ∀ T' h', Wk p l e R s m args below meth c Z own bytes maxL ret mn n0 h0 ws T' h' k n → Keep h h' [b] → Ary Z h' b cb ty (vd.take dp ++ (vs.drop sp).take nn ++ vd.drop (dp + nn)) → Goes p e below P T' (mkF m pc' Ls (st))) : Goes p e below P T (mkF m pc Ls (.int (Int32.ofNat nn) :: .int (Int32.ofNat dp) :: .ref b :: .int (Int32.ofNat sp) :: .ref a :: st)) := by
  have hna := w.wsn hb
  obtain ⟨cx, locs, cells, slots, X, e1, N, b1, b2, O1, K1⟩ := w
  obtain ⟨hx, hb', hml, hZ, hown, cr⟩ := id cx
  subst hp
  have lA := A.1
  have lB := B.1
  have us : (List.range nn).map (fun i => vs.getD (sp + i) (defaultValue ty)) = (vs.drop sp).take nn := by
    apply List.ext_getElem?
    intro i
    rw [List.getElem?_map, List.getElem?_take]
    by_cases hi : i < nn
    · rw [if_pos hi, List.getElem?_range hi, List.getElem?_drop, List.getElem?_eq_getElem (by omega)]
      simp [List.getD_eq_getElem?_getD, List.getElem?_eq_getElem (show sp + i < vs.length by omega)]
    · rw [if_neg hi, List.getElem?_eq_none (by simp; omega)]; rfl
  obtain ⟨T', h', L, X', e', N', K', B', stp⟩ := cpA X hx hZ hown w1 w2 w3 w4 e1 A.2 B.2 (sp := Int32.ofNat sp) (dp := Int32.ofNat dp) (nn := Int32.ofNat nn) (us := (vs.drop sp).take nn) (Or.inl ⟨rfl, hty⟩) (nonneg_ofNat (by omega)) (nonneg_ofNat (by omega)) (nonneg_ofNat (by omega))
    (by rw [clamp_ofNat (by omega), clamp_ofNat (by omega), clamp_ofNat (by omega)]; exact h4) (by rw [clamp_ofNat (by omega), clamp_ofNat (by omega), clamp_ofNat (by omega)]; exact h5) (by rw [clamp_ofNat (by omega), clamp_ofNat (by omega)]; exact us.symm) (by rw [clamp_ofNat (by omega), clamp_ofNat (by omega)]; exact h5) N hna
    (g := mkF m pc Ls (.int (Int32.ofNat nn) :: .int (Int32.ofNat dp) :: .ref b :: .int (Int32.ofNat sp) :: .ref a :: st)) rfl (hsz.trans hml.symm) rfl (Jvm.hb hb' d) hf (W := W) (by show 2 * 0 + _ ≤ _; omega) (by show W + (nativeFrameWords "java/lang/System" "arraycopy" 5 + 11) ≤ _; exact hl)
  rw [clamp_ofNat (show dp < 2147483648 by omega), clamp_ofNat (show nn < 2147483648 by omega)] at B'
  have ll : (vd.take dp ++ (vs.drop sp).take nn ++ vd.drop (dp + nn)).length = vd.length := by simp; omega
  exact (K T' h' ⟨cx, _, cells, slots, X', e', N', b1, b2, O1.keep K' (allS hna all0), K1.trans K' (allS hb all0)⟩ K' ⟨by rw [ll]; exact lB, by rw [ll]; exact B'⟩).step stp
end Calls
end Jvm.OwnKit
namespace Jvm.OwnKit
open Jvm Jvm.ClassFile Sem Op Lib Jvm.Free Jvm.Stand Jvm.LawKit Jvm.RoadKit
theorem cat1 {v : Value} (h : v.isRef = true) : v.category = 1 := by cases v <;> simp [Value.isRef, Value.category] at h ⊢
theorem toInt_small {k : Nat} (h : k < 2147483648) : (Int32.ofNat k).toInt = k := Int32.toInt_ofNat_small h
theorem nat_of_nonneg {x : Int32} (h : ¬ x < 0) : ∃ k, k < 2147483648 ∧ x = Int32.ofNat k ∧ x.toInt = k := by
  rw [Int32.lt_iff_toInt_lt] at h
  have e0 : (0 : Int32).toInt = 0 := rfl
  have b := x.toInt_lt
  refine ⟨x.toInt.toNat, by omega, ?_, by omega⟩
  apply Int32.toInt_inj.mp
  rw [toInt_small (by omega)]; omega
theorem lt_nat {a b : Nat} (ha : a < 2147483648) (hb : b < 2147483648) : Int32.ofNat a < Int32.ofNat b ↔ a < b := by
  rw [Int32.lt_iff_toInt_lt, toInt_small ha, toInt_small hb]; omega
theorem eq_nat {a b : Nat} (ha : a < 2147483648) (hb : b < 2147483648) : Int32.ofNat a = Int32.ofNat b ↔ a = b := by
  rw [← Int32.toInt_inj, toInt_small ha, toInt_small hb]; omega
theorem tbv (k : Nat) : (Int32.ofNat k).toBitVec = BitVec.ofNat 32 k := rfl
theorem tnat {k : Nat} (h : k < 4294967296) : (Int32.ofNat k).toBitVec.toNat = k := by rw [tbv, BitVec.toNat_ofNat]; omega
theorem i32_ext {x y : Int32} (h : x.toBitVec.toNat = y.toBitVec.toNat) : x = y := Int32.toBitVec_inj.mp (BitVec.eq_of_toNat_eq h)
theorem add_nat (a b : Nat) : Int32.ofNat a + Int32.ofNat b = Int32.ofNat (a + b) := by
  apply i32_ext; rw [Int32.toBitVec_add, BitVec.toNat_add, tbv, tbv, tbv]; simp
theorem sub_nat {a b : Nat} (h : b ≤ a) : Int32.ofNat a - Int32.ofNat b = Int32.ofNat (a - b) := by
  have e : Int32.ofNat a = Int32.ofNat (a - b) + Int32.ofNat b := by rw [add_nat]; congr 1; omega
  rw [e]
  apply Int32.toBitVec_inj.mp
  rw [Int32.toBitVec_sub, Int32.toBitVec_add, BitVec.add_sub_cancel]
theorem and_nat (a b : Nat) : Int32.ofNat a &&& Int32.ofNat b = Int32.ofNat (a &&& b) := by
  apply i32_ext
  rw [Int32.toBitVec_and, BitVec.toNat_and, tbv, tbv, tbv]
  simp [Nat.and_mod_two_pow]
theorem or_nat (a b : Nat) : Int32.ofNat a ||| Int32.ofNat b = Int32.ofNat (a ||| b) := by
  apply i32_ext
  rw [Int32.toBitVec_or, BitVec.toNat_or, tbv, tbv, tbv]
  simp [Nat.or_mod_two_pow]
theorem shl_nat {a j : Nat} (hj : j < 32) : Int32.ofNat a <<< (Int32.ofNat j &&& 31) = Int32.ofNat (a * 2 ^ j) := by
  have e : (Int32.ofNat j &&& 31) = Int32.ofNat j := by
    have q : (31 : Int32) = Int32.ofNat 31 := rfl
    rw [q, and_nat]; congr 1
    have := Nat.and_two_pow_sub_one_eq_mod j 5
    simp at this; rw [this]; omega
  rw [e]
  apply i32_ext
  rw [Int32.toBitVec_shiftLeft]
  have s : ((Int32.ofNat j).toBitVec.smod 32) = BitVec.ofNat 32 j := by
    rw [tbv]
    have t : ∀ k : Fin 32, (BitVec.ofNat 32 k.val).smod 32 = BitVec.ofNat 32 k.val := by decide
    exact t ⟨j, hj⟩
  rw [s, tbv, tbv, BitVec.shiftLeft_eq', BitVec.toNat_shiftLeft, BitVec.toNat_ofNat, BitVec.toNat_ofNat, BitVec.toNat_ofNat, Nat.mod_eq_of_lt (show j < 2 ^ 32 by omega), Nat.shiftLeft_eq, Nat.mod_mul_mod]
theorem shr_nat {a j : Nat} (ha : a < 2147483648) (hj : j < 32) : Int32.ofNat a >>> (Int32.ofNat j &&& 31) = Int32.ofNat (a / 2 ^ j) := by
  have e : (Int32.ofNat j &&& 31) = Int32.ofNat j := by
    have q : (31 : Int32) = Int32.ofNat 31 := rfl
    rw [q, and_nat]; congr 1
    have := Nat.and_two_pow_sub_one_eq_mod j 5
    simp at this; rw [this]; omega
  rw [e]
  apply i32_ext
  rw [Int32.toBitVec_shiftRight]
  have s : ((Int32.ofNat j).toBitVec.smod 32) = BitVec.ofNat 32 j := by
    rw [tbv]
    have t : ∀ k : Fin 32, (BitVec.ofNat 32 k.val).smod 32 = BitVec.ofNat 32 k.val := by decide
    exact t ⟨j, hj⟩
  have hm : (BitVec.ofNat 32 a).toNat = a := by rw [BitVec.toNat_ofNat]; omega
  rw [s, tbv, tbv, BitVec.sshiftRight_eq', BitVec.toNat_ofNat, Nat.mod_eq_of_lt (show j < 2 ^ 32 by omega), BitVec.toNat_sshiftRight_of_msb_false (by rw [BitVec.msb_eq_false_iff_two_mul_lt, hm]; omega), hm, Nat.shiftRight_eq_div_pow, BitVec.toNat_ofNat]
  have : a / 2 ^ j ≤ a := Nat.div_le_self _ _
  exact (Nat.mod_eq_of_lt (by generalize a / 2 ^ j = q at *; omega)).symm
theorem shr_zero (x : Int32) : x >>> ((0 : Int32) &&& 31) = x := by
  have e : ((0 : Int32) &&& 31) = 0 := by decide
  rw [e]
  apply Int32.toBitVec_inj.mp
  rw [Int32.toBitVec_shiftRight]
  have e1 : ((0 : Int32).toBitVec.smod 32) = 0#32 := by decide
  rw [e1, BitVec.sshiftRight_eq']
  exact BitVec.sshiftRight_zero
theorem char_nat (x : Int32) : ∃ k, k < 65536 ∧ nar .char x = Int32.ofNat k := by
  have f := fits_nar_char x
  simp only [fits, Bool.and_eq_true, decide_eq_true_eq] at f
  obtain ⟨f1, f2⟩ := f
  obtain ⟨k, h1, h2, h3⟩ := nat_of_nonneg (Int32.not_lt.mpr f1)
  refine ⟨k, ?_, h2⟩
  rw [Int32.le_iff_toInt_le, h3] at f2
  have e : (65535 : Int32).toInt = 65535 := rfl
  omega
theorem char_of_nat {k : Nat} (h : k < 65536) : nar .char (Int32.ofNat k) = Int32.ofNat k := by
  apply i32_ext
  show BitVec.toNat (((Int32.ofNat k).toBitVec.setWidth 16).setWidth 32) = _
  rw [BitVec.toNat_setWidth, BitVec.toNat_setWidth, tnat (by omega)]; omega
theorem char_idem (x : Int32) : nar .char (nar .char x) = nar .char x := by obtain ⟨k, h, e⟩ := char_nat x; rw [e, char_of_nat h]
theorem and_lt {x : Int32} {j : Nat} (hj : j < 31) : ∃ k, k < 2 ^ j ∧ x &&& Int32.ofNat (2 ^ j - 1) = Int32.ofNat k := by
  refine ⟨x.toBitVec.toNat % 2 ^ j, Nat.mod_lt _ (Nat.two_pow_pos _), ?_⟩
  have hp : 2 ^ j ≤ 2 ^ 31 := Nat.pow_le_pow_right (by omega) (by omega)
  have hm := Nat.mod_lt x.toBitVec.toNat (Nat.two_pow_pos j)
  apply i32_ext
  rw [Int32.toBitVec_and, BitVec.toNat_and, tnat (by omega), tnat (by omega), Nat.and_two_pow_sub_one_eq_mod]
theorem and31 (x : Int32) : ∃ k, k < 2147483648 ∧ x &&& 2147483647 = Int32.ofNat k := by
  refine ⟨x.toBitVec.toNat % 2 ^ 31, Nat.mod_lt _ (Nat.two_pow_pos _), ?_⟩
  have hm := Nat.mod_lt x.toBitVec.toNat (Nat.two_pow_pos 31)
  apply i32_ext
  rw [show (2147483647 : Int32) = Int32.ofNat (2 ^ 31 - 1) from rfl, Int32.toBitVec_and, BitVec.toNat_and, tnat (by omega), tnat (by omega), Nat.and_two_pow_sub_one_eq_mod]
theorem rem_nat {a b : Nat} (ha : a < 2147483648) (hb : b < 2147483648) (h : 0 < b) : Int32.ofNat a % Int32.ofNat b = Int32.ofNat (a % b) := by
  have hm := Nat.mod_lt a h
  apply Int32.toInt_inj.mp
  rw [Int32.toInt_mod, toInt_small ha, toInt_small hb, toInt_small (by omega)]
  rfl
theorem own_sta {s : State} {a0 : Array Value} {C nm d : String} {z : Int32} (w : (Cond.eq (Term.static C nm d) (Term.int z)).before a0 s = true) (wi : (Cond.initializedFor C nm d).before a0 s = true) : Sta s s.heap C nm d (.int z) := by
  have w' := Cond.before_iff.mp w
  obtain ⟨x, y, e1, e2, k1, k2⟩ := cmp_v (Or.inl w')
  cases (Term.int_eval z).symm.trans e2
  obtain ⟨z', rfl⟩ := k2
  have := gotT (Cond.eq_ints e1 (Term.int_eval z)) w'
  subst this
  exact Sta.start e1 (Or.inl wi)
/-- the byte of a char's code, as the array holds it -/
def bv (k : Nat) : Int32 := (Int32.ofNat k).toInt8.toInt32
theorem byte_idem (x : Int32) : nar .byte x.toInt8.toInt32 = x.toInt8.toInt32 := by
  show (x.toInt8.toInt32).toInt8.toInt32 = _
  rw [Int8.toInt8_toInt32]
theorem bv_mask (k : Nat) : bv k &&& 255 = Int32.ofNat (k % 256) := by
  apply i32_ext
  have h : (bv k).toBitVec = ((BitVec.ofNat 32 k).signExtend 8).signExtend 32 := by rw [bv, Int8.toBitVec_toInt32, Int32.toBitVec_toInt8, tbv]
  rw [Int32.toBitVec_and, BitVec.toNat_and, h, tnat (by omega)]
  have e : (((BitVec.ofNat 32 k).signExtend 8).signExtend 32).toNat % 256 = k % 256 := by
    rw [BitVec.toNat_signExtend]
    have hlt := (BitVec.ofNat 32 k).isLt
    simp only [BitVec.toNat_setWidth, BitVec.toNat_signExtend, BitVec.toNat_ofNat] at hlt ⊢
    split <;> split <;> omega
  rw [← e]
  exact Nat.and_two_pow_sub_one_eq_mod _ 8
theorem bv_char {k : Nat} (h : k < 256) : nar .char (bv k &&& 255) = Int32.ofNat k := by
  rw [bv_mask, Nat.mod_eq_of_lt h, char_of_nat (by omega)]
/-- StringUTF16.getChar's two bytes -/
theorem pair_char {k : Nat} (h : k < 65536) : nar .char (((bv k &&& 255) <<< ((0 : Int32) &&& 31)) ||| ((bv (k / 256) &&& 255) <<< ((8 : Int32) &&& 31))) = Int32.ofNat k := by
  rw [bv_mask, bv_mask]
  have e0 : (0 : Int32) = Int32.ofNat 0 := rfl
  have e8 : (8 : Int32) = Int32.ofNat 8 := rfl
  rw [e0, e8, shl_nat (by omega), shl_nat (by omega), or_nat, Nat.mod_eq_of_lt (show k / 256 < 256 by omega)]
  have : k % 256 * 2 ^ 0 ||| k / 256 * 2 ^ 8 = k := by
    rw [Nat.or_comm, Nat.pow_zero, Nat.mul_one, ← Nat.shiftLeft_eq, ← Nat.shiftLeft_add_eq_or_of_lt (by omega), Nat.shiftLeft_eq]; omega
  rw [this, char_of_nat h]
theorem bv_hi {k : Nat} (h : k < 65536) : (Int32.ofNat k >>> ((8 : Int32) &&& 31)).toInt8.toInt32 = bv (k / 256) := by
  have e8 : (8 : Int32) = Int32.ofNat 8 := rfl
  rw [e8, shr_nat (by omega) (by omega)]; rfl
theorem fits_bv (k : Nat) : fits .byte (.int (bv k)) = true := fits_nar_byte _
end Jvm.OwnKit
namespace Jvm.OwnKit
open Jvm Jvm.ClassFile Sem Op Lib Jvm.Free Jvm.Stand Jvm.LawKit Jvm.RoadKit
section Objs
variable {p : Program} {l : Launch} {e : Env} {R : Room} {s : State} {m : MethodId} {args : Array Value} {below : List Frame} {meth : Method} {c : Code} {Z : State} {own : String} {bytes : ByteArray} {maxL : Nat} {ret : Option FieldType} {mn : String} {n0 : Nat} {h0 : Heap} {ws : List Addr} {T : State} {h : Heap} {k n : Nat} {P : Outcome → State → Prop} {Ls : Array Slot} {st : List Value} {pc pc' : Nat} {a0 : Array Value}
theorem i_newPE (w : Wk p l e R s m args below meth c Z own bytes maxL ret mn n0 h0 ws T h k n) {aty : ArrayType} {N : Nat} {z : Int32} {ad : String} (d : decode bytes pc = .ok (.newarray aty, 2)) (w1 : (Cond.arrayClass (newarray.typeOf aty)).before a0 Z = true) (had : "[" ++ (newarray.typeOf aty).toString = ad) (hz : z = Int32.ofNat N) (hN : N ≤ 65536) {cap : Nat} (hcap : N ≤ cap) (hcap' : cap ≤ 65536) (hc : k + 1 ≤ R.cells) (hs : n + cap ≤ R.slots) (hp : pc + 2 = pc')
    (K : ∀ a T' h' ca, a = h.size → Wk p l e R s m args below meth c Z own bytes maxL ret mn n0 h0 ws T' h' (k + 1) (n + cap) → h0.size ≤ a → Ext h h' → Ary Z h' a ca (newarray.typeOf aty) (List.replicate N (defaultValue (newarray.typeOf aty))) → Exa Z h' a ad → Goes p e below P T' (mkF m pc' Ls (.ref a :: st))) : Goes p e below P T (mkF m pc Ls (.int z :: st)) := by
  obtain ⟨cx, locs, cells, slots, X, e1, N1, b1, b2, O1, K1⟩ := w
  obtain ⟨hx, hb', hml, hZ, hown, cr⟩ := id cx
  subst hp hz
  have cl := clamp_ofNat (i := N) (by omega)
  obtain ⟨T', h', cA, X', e', E, A, EX, stp⟩ := newPE X hx hZ w1 e1 (g := mkF m pc Ls (.int (Int32.ofNat N) :: st)) rfl (hb hb' d) rfl (nonneg_ofNat (by omega)) (cap := cap) (by rw [cl]; exact hcap) (by omega) (by omega) (by omega) had
  refine (K h.size T' h' cA rfl ⟨cx, locs, _, _, X', e', N1, by omega, by omega, O1.ext E, K1.ext E⟩ K1.1 E ⟨by simp; omega, ?_⟩ EX).step stp
  rw [List.length_replicate]
  exact (Arv.new A (nonneg_ofNat (by omega))).pad (by simpa using pad_rep [] (defaultValue (newarray.typeOf aty)) N)
theorem i_newR (w : Wk p l e R s m args below meth c Z own bytes maxL ret mn n0 h0 ws T h k n) {index N : Nat} {z : Int32} {C ad : String} (d : decode bytes pc = .ok (.anewarray index, 3)) (w1 : (Cond.classLink own index C).before a0 Z = true) (w2 : (Cond.arrayOver (.object C)).before a0 Z = true) (had : "[" ++ (FieldType.object C).toString = ad) (hz : z = Int32.ofNat N) (hN : N ≤ 65536) {cap : Nat} (hcap : N ≤ cap) (hcap' : cap ≤ 65536) (hc : k + 1 ≤ R.cells) (hs : n + cap ≤ R.slots) (hp : pc + 3 = pc')
    (K : ∀ a T' h' ca, a = h.size → Wk p l e R s m args below meth c Z own bytes maxL ret mn n0 h0 ws T' h' (k + 1) (n + cap) → h0.size ≤ a → Ext h h' → Ary Z h' a ca (.object C) (List.replicate N .null) → Exa Z h' a ad → Ovr Z ca C → Goes p e below P T' (mkF m pc' Ls (.ref a :: st))) : Goes p e below P T (mkF m pc Ls (.int z :: st)) := by
  obtain ⟨cx, locs, cells, slots, X, e1, N1, b1, b2, O1, K1⟩ := w
  obtain ⟨hx, hb', hml, hZ, hown, cr⟩ := id cx
  subst hp hz
  have cl := clamp_ofNat (i := N) (by omega)
  obtain ⟨T', h', cA, X', e', E, A, EX, OV, stp⟩ := newRE X hx hZ hown w1 w2 e1 (g := mkF m pc Ls (.int (Int32.ofNat N) :: st)) rfl (hb hb' d) rfl (nonneg_ofNat (by omega)) (cap := cap) (by rw [cl]; exact hcap) (by omega) (by omega) (by omega) had
  refine (K h.size T' h' cA rfl ⟨cx, locs, _, _, X', e', N1, by omega, by omega, O1.ext E, K1.ext E⟩ K1.1 E ⟨by simp; omega, ?_⟩ EX OV).step stp
  rw [List.length_replicate]
  exact (Arv.new A (nonneg_ofNat (by omega))).pad (pad_rep [] .null N)
theorem i_clone (w : Wk p l e R s m args below meth c Z own bytes maxL ret mn n0 h0 ws T h k n) {index : Nat} {ad : String} {a : Addr} {ca : ClassId} {ty : FieldType} {vs : List Value} (d : decode bytes pc = .ok (.invokevirtual index, 3)) (w1 : (Cond.methodLink own index ⟨ad, "clone", "()Ljava/lang/Object;"⟩).before a0 Z = true) (w2 : (Cond.sameMethod ad "java/lang/Object" "clone" "()Ljava/lang/Object;").before a0 Z = true) (w3 : (Cond.native ⟨"java/lang/Object", "clone", "()Ljava/lang/Object;"⟩).before a0 Z = true)
    (w4 : (Cond.instanceMethod ⟨"java/lang/Object", "clone", "()Ljava/lang/Object;"⟩).before a0 Z = true) (w5 : (Cond.selects ad ⟨ad, "clone", "()Ljava/lang/Object;"⟩ ⟨"java/lang/Object", "clone", "()Ljava/lang/Object;"⟩).before a0 Z = true) (w6 : (Cond.castable ad "java/lang/Cloneable").before a0 Z = true)
    (A : Ary Z h a ca ty vs) (E : Exa Z h a ad) (hsz : Ls.size = maxL) (hf : 1 ≤ R.frames) {W : Nat} (hW : (st.map fun v => v.category).sum ≤ W) (hl : W + 14 ≤ R.locals) {cap : Nat} (hcap : vs.length ≤ cap) (hc : k + 1 ≤ R.cells) (hs : n + cap ≤ R.slots) (hp : pc + 3 = pc')
    (K : ∀ b T' h', b = h.size → Wk p l e R s m args below meth c Z own bytes maxL ret mn n0 h0 ws T' h' (k + 1) (n + cap) → h0.size ≤ b → Ext h h' → Ary Z h' b ca ty vs → Exa Z h' b ad → Goes p e below P T' (mkF m pc' Ls (.ref b :: st))) : Goes p e below P T (mkF m pc Ls (.ref a :: st)) := by
  obtain ⟨cx, locs, cells, slots, X, e1, N1, b1, b2, O1, K1⟩ := w
  obtain ⟨hx, hb', hml, hZ, hown, cr⟩ := id cx
  subst hp
  obtain ⟨T', h', X', e', E', A', EX, stp⟩ := cloneH X hx hZ hown w1 w2 w3 w4 w5 w6 e1 (Arv.arh A.2) E (g := mkF m pc Ls (.ref a :: st)) rfl (hsz.trans hml.symm) rfl (hb hb' d) hf (W := W) (cap := cap) (by show 2 * 0 + _ ≤ _; omega) hl (by rw [clamp_ofNat A.1]; exact hcap) (by omega) (by omega)
  exact (K h.size T' h' rfl ⟨cx, locs, _, _, X', e', N1, by omega, by omega, O1.ext E', K1.ext E'⟩ K1.1 E' ⟨A.1, A'⟩ EX).step stp
theorem i_cast (w : Wk p l e R s m args below meth c Z own bytes maxL ret mn n0 h0 ws T h k n) {index : Nat} {C : String} {a : Addr} (d : decode bytes pc = .ok (.checkcast index, 3)) (w1 : (Cond.classLink own index C).before a0 Z = true) (I : Ins Z h a C true) (hp : pc + 3 = pc') (K : ∀ T', Wk p l e R s m args below meth c Z own bytes maxL ret mn n0 h0 ws T' h k n → Goes p e below P T' (mkF m pc' Ls (.ref a :: st))) : Goes p e below P T (mkF m pc Ls (.ref a :: st)) := by
  obtain ⟨cx, locs, cells, slots, X, e1, r⟩ := w
  obtain ⟨hx, hb', hml, hZ, hown, cr⟩ := id cx
  subst hp
  obtain ⟨T', X', e', stp⟩ := castY X hx hZ hown w1 e1 I (g := mkF m pc Ls (.ref a :: st)) rfl rfl (hb hb' d)
  exact (K T' ⟨cx, locs, cells, slots, X', e', r⟩).step stp
theorem i_instY (w : Wk p l e R s m args below meth c Z own bytes maxL ret mn n0 h0 ws T h k n) {index : Nat} {C : String} {a : Addr} (d : decode bytes pc = .ok (.instanceof index, 3)) (w1 : (Cond.classLink own index C).before a0 Z = true) (I : Ins Z h a C true) (hp : pc + 3 = pc') (K : ∀ T', Wk p l e R s m args below meth c Z own bytes maxL ret mn n0 h0 ws T' h k n → Goes p e below P T' (mkF m pc' Ls (.int 1 :: st))) : Goes p e below P T (mkF m pc Ls (.ref a :: st)) := by
  obtain ⟨cx, locs, cells, slots, X, e1, r⟩ := w
  obtain ⟨hx, hb', hml, hZ, hown, cr⟩ := id cx
  subst hp
  obtain ⟨T', X', e', stp⟩ := instY X hx hZ hown w1 e1 I (g := mkF m pc Ls (.ref a :: st)) rfl rfl (hb hb' d)
  exact (K T' ⟨cx, locs, cells, slots, X', e', r⟩).step stp
theorem i_gcls (w : Wk p l e R s m args below meth c Z own bytes maxL ret mn n0 h0 ws T h k n) {index : Nat} {C : String} {a mr : Addr} (d : decode bytes pc = .ok (.invokevirtual index, 3)) (w1 : (Cond.methodLink own index ⟨"java/lang/Object", "getClass", "()Ljava/lang/Class;"⟩).before a0 Z = true) (w2 : (Cond.declares ⟨"java/lang/Object", "getClass", "()Ljava/lang/Class;"⟩).before a0 Z = true) (w4 : (Cond.selects C ⟨"java/lang/Object", "getClass", "()Ljava/lang/Class;"⟩ ⟨"java/lang/Object", "getClass", "()Ljava/lang/Class;"⟩).before a0 Z = true)
    (w5 : (Cond.instanceMethod ⟨"java/lang/Object", "getClass", "()Ljava/lang/Class;"⟩).before a0 Z = true) (w6 : (Cond.native ⟨"java/lang/Object", "getClass", "()Ljava/lang/Class;"⟩).before a0 Z = true) (E : Exa Z h a C) (M : Mir Z C mr) (hsz : Ls.size = maxL) (hf : 1 ≤ R.frames) {W : Nat} (hW : (st.map fun v => v.category).sum ≤ W) (hl : W + 14 ≤ R.locals) (hp : pc + 3 = pc')
    (K : ∀ T', Wk p l e R s m args below meth c Z own bytes maxL ret mn n0 h0 ws T' h k n → Goes p e below P T' (mkF m pc' Ls (.ref mr :: st))) : Goes p e below P T (mkF m pc Ls (.ref a :: st)) := by
  obtain ⟨cx, locs, cells, slots, X, e1, r⟩ := w
  obtain ⟨hx, hb', hml, hZ, hown, cr⟩ := id cx
  subst hp
  obtain ⟨cB, kB, i1, i2, i3⟩ := isOf (T := T) hZ e1 E
  obtain ⟨cc, kc, m1, m2, m3, -⟩ := M
  rw [hZ.alike.findClass] at i1
  cases i1.symm.trans m1
  obtain ⟨k', q, ek⟩ := hZ.alike.2.2 _ _ m2
  have q14 : nativeFrameWords "java/lang/Object" "getClass" 1 + 11 = 14 := by decide
  have own_lo : 2 * 0 + (st.map fun v => v.category).sum + (nativeFrameWords "java/lang/Object" "getClass" 1 + 11) ≤ R.locals := by rw [q14]; omega
  obtain ⟨vm', X', stp⟩ := X.getClassOf hx hown (mvT hZ w1) (mvT hZ w2) (notFace_of_selects (args := #[]) (mvT hZ w4)) (mvT hZ w4) (mvT hZ w5) (mvT hZ w6) (by rw [hZ.alike.findClass]; exact m1) i3 q (by rw [ek]; exact m3) (g := mkF m pc Ls (.ref a :: st)) rfl (hsz.trans hml.symm) rfl (hb hb' d) hf own_lo
  exact (K _ ⟨cx, locs, cells, slots, X', e1, r⟩).step stp
theorem i_ldcM (w : Wk p l e R s m args below meth c Z own bytes maxL ret mn n0 h0 ws T h k n) {index : Nat} {C : String} {mr : Addr} (d : decode bytes pc = .ok (.ldc index, 2)) (w1 : (Cond.classLink own index C).before a0 Z = true) (M : Mir Z C mr) (hp : pc + 2 = pc') (K : ∀ T', Wk p l e R s m args below meth c Z own bytes maxL ret mn n0 h0 ws T' h k n → Goes p e below P T' (mkF m pc' Ls (.ref mr :: st))) : Goes p e below P T (mkF m pc Ls (st)) := by
  obtain ⟨cx, locs, cells, slots, X, e1, r⟩ := w
  obtain ⟨hx, hb', hml, hZ, hown, cr⟩ := id cx
  subst hp
  obtain ⟨cc, kc, m1, m2, m3, -⟩ := M
  obtain ⟨k', q, ek⟩ := hZ.alike.2.2 _ _ m2
  have f1 : s.vm.findClass C = some cc := by rw [hZ.alike.findClass]; exact m1
  have f2 : k'.mirror = some mr := by rw [ek]; exact m3
  obtain ⟨vm', X', stp⟩ := X.ldcMirror hx (a := mr) hown (mvT hZ w1) (by simp [Term.eval, f1, q, f2]) (g := mkF m pc Ls st) rfl (hb hb' d)
  exact (K _ ⟨cx, locs, cells, slots, X', e1, r⟩).step stp
theorem i_acopyR (w : Wk p l e R s m args below meth c Z own bytes maxL ret mn n0 h0 ws T h k n) {index : Nat} {a b : Addr} {ca cb : ClassId} {ty ty' : FieldType} {vs vd : List Value} {sp dp nn : Nat} (d : decode bytes pc = .ok (.invokestatic index, 3)) (w1 : (Cond.methodLink own index Jvm.Stand.acN).before a0 Z = true) (w2 : (Cond.native Jvm.Stand.acN).before a0 Z = true) (w3 : (Cond.static Jvm.Stand.acN).before a0 Z = true) (w4 : (Cond.initialized "java/lang/System").before a0 Z = true)
    (A : Ary Z h a ca ty vs) (B : Ary Z h b cb ty' vd) (hty : refKind ty = true ∧ refKind ty' = true ∧ StoL Z h b ((vs.drop sp).take nn)) (h4 : sp + nn ≤ vs.length) (h5 : dp + nn ≤ vd.length) (hb : b ∈ ws ∨ h0.size ≤ b) (hsz : Ls.size = maxL) (hf : 1 ≤ R.frames) {W : Nat} (hW : (st.map fun v => v.category).sum ≤ W) (hl : W + 18 ≤ R.locals) (hp : pc + 3 = pc')
    (K : ∀ T' h', Wk p l e R s m args below meth c Z own bytes maxL ret mn n0 h0 ws T' h' k n → Keep h h' [b] → Ary Z h' b cb ty' (vd.take dp ++ (vs.drop sp).take nn ++ vd.drop (dp + nn)) → Goes p e below P T' (mkF m pc' Ls (st))) : Goes p e below P T (mkF m pc Ls (.int (Int32.ofNat nn) :: .int (Int32.ofNat dp) :: .ref b :: .int (Int32.ofNat sp) :: .ref a :: st)) := by
  have hna := w.wsn hb
  obtain ⟨cx, locs, cells, slots, X, e1, N, b1, b2, O1, K1⟩ := w
  obtain ⟨hx, hb', hml, hZ, hown, cr⟩ := id cx
  subst hp
  have lA := A.1
  have lB := B.1
  have us : (List.range nn).map (fun i => vs.getD (sp + i) (defaultValue ty)) = (vs.drop sp).take nn := by
    apply List.ext_getElem?
    intro i
    rw [List.getElem?_map, List.getElem?_take]
    by_cases hi : i < nn
    · rw [if_pos hi, List.getElem?_range hi, List.getElem?_drop, List.getElem?_eq_getElem (by omega)]
      simp [List.getD_eq_getElem?_getD, List.getElem?_eq_getElem (show sp + i < vs.length by omega)]
    · rw [if_neg hi, List.getElem?_eq_none (by simp; omega)]; rfl
  obtain ⟨T', h', L, X', e', N', K', B', stp⟩ := cpA X hx hZ hown w1 w2 w3 w4 e1 A.2 B.2 (sp := Int32.ofNat sp) (dp := Int32.ofNat dp) (nn := Int32.ofNat nn) (us := (vs.drop sp).take nn) (Or.inr hty) (nonneg_ofNat (by omega)) (nonneg_ofNat (by omega)) (nonneg_ofNat (by omega))
    (by rw [clamp_ofNat (by omega), clamp_ofNat (by omega), clamp_ofNat (by omega)]; exact h4) (by rw [clamp_ofNat (by omega), clamp_ofNat (by omega), clamp_ofNat (by omega)]; exact h5) (by rw [clamp_ofNat (by omega), clamp_ofNat (by omega)]; exact us.symm) (by rw [clamp_ofNat (by omega), clamp_ofNat (by omega)]; exact h5) N hna
    (g := mkF m pc Ls (.int (Int32.ofNat nn) :: .int (Int32.ofNat dp) :: .ref b :: .int (Int32.ofNat sp) :: .ref a :: st)) rfl (hsz.trans hml.symm) rfl (Jvm.hb hb' d) hf (W := W) (by show 2 * 0 + _ ≤ _; omega) (by show W + (nativeFrameWords "java/lang/System" "arraycopy" 5 + 11) ≤ _; exact hl)
  rw [clamp_ofNat (show dp < 2147483648 by omega), clamp_ofNat (show nn < 2147483648 by omega)] at B'
  have ll : (vd.take dp ++ (vs.drop sp).take nn ++ vd.drop (dp + nn)).length = vd.length := by simp; omega
  exact (K T' h' ⟨cx, _, cells, slots, X', e', N', b1, b2, O1.keep K' (allS hna all0), K1.trans K' (allS hb all0)⟩ K' ⟨by rw [ll]; exact lB, by rw [ll]; exact B'⟩).step stp
end Objs
end Jvm.OwnKit
namespace Jvm.Pilot.@@N@@
open Jvm Jvm.ClassFile Sem Op Lib Jvm.Free Jvm.Stand Jvm.LawKit Jvm.RoadKit Bundle Jvm.Pilot.@@N@@.Jvm.D Jvm.OwnKit
theorem own_empty {s : State} {args : Array Value} {t : Term} {a : Addr} {c : Cell} (hf : Fit s) (A : Arr s s.heap a c .int) (ev : t.eval args s none [] s = some (.ref a)) (h : (Jvm.Cond.eq (Term.length t) (Term.int 0)).value args s none s [] = some true) : Ary s s.heap a c.cls .int [] := by
  obtain ⟨x, y, e1, e2, k1, k2⟩ := cmp_v (Or.inl h)
  have ea : s.arrayAt? a = some c := A.fin (Vm.Alike.refl _)
  obtain ⟨b, cell, q1, q2, q3, q4⟩ := Jvm.Lib.length_spec e1
  cases ev.symm.trans q1
  cases ea.symm.trans q2
  subst q4
  · have q := gotT (Cond.eq_ints e1 (Term.int_eval 0)) h
    have hl' := q3
    have hz : c.slots.size = 0 := by
      have := congrArg Int32.toInt q
      rw [show c.slots.size.toInt32 = Int32.ofNat c.slots.size from rfl, Int32.toInt_ofNat_small hl'] at this
      have e0 : (0 : Int32).toInt = 0 := rfl
      omega
    exact ⟨by decide, c, A, rfl, by rw [hz]; rfl, by decide, fun k hk => by rw [hz] at hk; exact absurd hk (Nat.not_lt_zero _), fun i hi => by rw [hz] at hi; exact absurd hi (Nat.not_lt_zero _)⟩
theorem own_d2_0 : decode prog_16_method_3_code 0 = .ok (.aload_n 0, 1) := by decide +kernel
theorem own_d2_1 : decode prog_16_method_3_code 1 = .ok (.invokespecial 27, 3) := by decide +kernel
theorem own_d2_4 : decode prog_16_method_3_code 4 = .ok (.aload_n 0, 1) := by decide +kernel
theorem own_d2_5 : decode prog_16_method_3_code 5 = .ok (.lload_n 1, 1) := by decide +kernel
theorem own_d2_6 : decode prog_16_method_3_code 6 = .ok (.putfield 15, 3) := by decide +kernel
theorem own_d2_9 : decode prog_16_method_3_code 9 = .ok (.aload_n 0, 1) := by decide +kernel
theorem own_d2_10 : decode prog_16_method_3_code 10 = .ok (.lload_n 3, 1) := by decide +kernel
theorem own_d2_11 : decode prog_16_method_3_code 11 = .ok (.putfield 32, 3) := by decide +kernel
theorem own_d2_14 : decode prog_16_method_3_code 14 = .ok (.aload_n 0, 1) := by decide +kernel
theorem own_d2_15 : decode prog_16_method_3_code 15 = .ok (.lload 5, 2) := by decide +kernel
theorem own_d2_17 : decode prog_16_method_3_code 17 = .ok (.putfield 35, 3) := by decide +kernel
theorem own_d2_20 : decode prog_16_method_3_code 20 = .ok (.aload_n 0, 1) := by decide +kernel
theorem own_d2_21 : decode prog_16_method_3_code 21 = .ok (.aload 7, 2) := by decide +kernel
theorem own_d2_23 : decode prog_16_method_3_code 23 = .ok (.putfield 38, 3) := by decide +kernel
theorem own_d2_26 : decode prog_16_method_3_code 26 = .ok (.aload_n 0, 1) := by decide +kernel
theorem own_d2_27 : decode prog_16_method_3_code 27 = .ok (.aload 8, 2) := by decide +kernel
theorem own_d2_29 : decode prog_16_method_3_code 29 = .ok (.putfield 39, 3) := by decide +kernel
theorem own_d2_32 : decode prog_16_method_3_code 32 = .ok (.aload_n 0, 1) := by decide +kernel
theorem own_d2_33 : decode prog_16_method_3_code 33 = .ok (.aload 9, 2) := by decide +kernel
theorem own_d2_35 : decode prog_16_method_3_code 35 = .ok (.putfield 42, 3) := by decide +kernel
theorem own_d2_38 : decode prog_16_method_3_code 38 = .ok (.aload_n 0, 1) := by decide +kernel
theorem own_d2_39 : decode prog_16_method_3_code 39 = .ok (.aload 10, 2) := by decide +kernel
theorem own_d2_41 : decode prog_16_method_3_code 41 = .ok (.putfield 45, 3) := by decide +kernel
theorem own_d2_44 : decode prog_16_method_3_code 44 = .ok (.return_, 1) := by decide +kernel
theorem own_pn_com_example_palimpsest_palimpsest_core_Overwrite : plainName "com/example/palimpsest/palimpsest/core/Overwrite" = true := by first | (simp [plainName, overriddenIn]; done) | decide +kernel
theorem own_pd_pJJJAIALjava_lang_ObjecteALjava_lang_ObjecteLcom_example_palimpsest_palimpsest_core_OverwriteeqV : parseMethodDescriptor "(JJJ[I[Ljava/lang/Object;[Ljava/lang/Object;Lcom/example/palimpsest/palimpsest/core/Overwrite;)V" = some ⟨[.long, .long, .long, (.array .int), (.array (.object "java/lang/Object")), (.array (.object "java/lang/Object")), (.object "com/example/palimpsest/palimpsest/core/Overwrite")], none⟩ := by decide +kernel
theorem own_ef_own_d2n7 (m : MethodId) (x0 : Addr) (x1 : Int64) (x2 : Int64) (x3 : Int64) (x4 : Addr) (x5 : Addr) (x6 : Addr) : entryFrame m #[(.ref x0), (.long x1), (.long x2), (.long x3), (.ref x4), (.ref x5), (.ref x6), .null] 11 = mkF m 0 #[.val (.ref x0), .val (.long x1), .second, .val (.long x2), .second, .val (.long x3), .second, .val (.ref x4), .val (.ref x5), .val (.ref x6), .val .null] [] := by
  first | (simp [entryFrame, mkF, argsToLocals, Value.category]; done) | rfl
set_option maxRecDepth 65536 in
set_option maxHeartbeats 40000000 in
theorem own_ini2 (l : Launch) (Z : State) (a0 : Array Value) (hw : ∀ d ∈ tables_1, d.before a0 Z = true) (a : Addr) (x1 x2 x3 : Int64) (ia va vb : Addr) (h0 : Heap) (n0 : Nat) (O : Old Z n0 h0) (ha : n0 ≤ a) (Ea : Exa Z h0 a "com/example/palimpsest/palimpsest/core/Overwrite") (F0 : Fld Z h0 a "com/example/palimpsest/palimpsest/core/Overwrite" "stamp" "J" (.long 0)) (F1 : Fld Z h0 a "com/example/palimpsest/palimpsest/core/Overwrite" "since" "J" (.long 0)) (F2 : Fld Z h0 a "com/example/palimpsest/palimpsest/core/Overwrite" "first" "J" (.long 0)) (F3 : Fld Z h0 a "com/example/palimpsest/palimpsest/core/Overwrite" "indices" "[I" .null) (F4 : Fld Z h0 a "com/example/palimpsest/palimpsest/core/Overwrite" "oldValues" "[Ljava/lang/Object;" .null) (F5 : Fld Z h0 a "com/example/palimpsest/palimpsest/core/Overwrite" "newValues" "[Ljava/lang/Object;" .null) (F6 : Fld Z h0 a "com/example/palimpsest/palimpsest/core/Overwrite" "older" "Lcom/example/palimpsest/palimpsest/core/Overwrite;" .null) (F7 : Fld Z h0 a "com/example/palimpsest/palimpsest/core/Overwrite" "placement" "Lcom/example/palimpsest/palimpsest/core/Placement;" .null) :
    Ctr l Z n0 (⟨"com/example/palimpsest/palimpsest/core/Overwrite", "<init>", "(JJJ[I[Ljava/lang/Object;[Ljava/lang/Object;Lcom/example/palimpsest/palimpsest/core/Overwrite;)V"⟩ : MethodName) prog_16_method_3_code 11 none [] ({ frames := 1, cells := 0, slots := 0, locals := 12 } : Room) #[(.ref a), (.long x1), (.long x2), (.long x3), (.ref ia), (.ref va), (.ref vb), .null] h0 [a] (fun v h => v = none ∧ Exa Z h a "com/example/palimpsest/palimpsest/core/Overwrite" ∧ Fld Z h a "com/example/palimpsest/palimpsest/core/Overwrite" "stamp" "J" (.long x1) ∧ Fld Z h a "com/example/palimpsest/palimpsest/core/Overwrite" "since" "J" (.long x2) ∧ Fld Z h a "com/example/palimpsest/palimpsest/core/Overwrite" "first" "J" (.long x3) ∧ Fld Z h a "com/example/palimpsest/palimpsest/core/Overwrite" "indices" "[I" (.ref ia) ∧ Fld Z h a "com/example/palimpsest/palimpsest/core/Overwrite" "oldValues" "[Ljava/lang/Object;" (.ref va) ∧ Fld Z h a "com/example/palimpsest/palimpsest/core/Overwrite" "newValues" "[Ljava/lang/Object;" (.ref vb) ∧ Fld Z h a "com/example/palimpsest/palimpsest/core/Overwrite" "older" "Lcom/example/palimpsest/palimpsest/core/Overwrite;" .null ∧ Fld Z h a "com/example/palimpsest/palimpsest/core/Overwrite" "placement" "Lcom/example/palimpsest/palimpsest/core/Placement;" .null) := by
  refine enter (plainFor_of_name own_pn_com_example_palimpsest_palimpsest_core_Overwrite) (fun m => own_ef_own_d2n7 m a x1 x2 x3 ia va vb) O (allS ha all0) ?_
  intro p e s m below meth c T w
  refine i_aloadN w own_d2_0 rfl rfl (pc' := 1) rfl ?_
  refine i_initO w own_d2_1 (hw _ (List.mem_of_getElem? (i := 13) rfl)) (hw _ (List.mem_of_getElem? (i := 14) rfl)) (hw _ (List.mem_of_getElem? (i := 15) rfl)) rfl (by decide) (W := 0) (Nat.le_of_eq rfl) (by decide) (pc' := 4) rfl ?_
  intro T1 w1
  show Goes p e below _ T1 (mkF m 4 #[.val (.ref a), .val (.long x1), .second, .val (.long x2), .second, .val (.long x3), .second, .val (.ref ia), .val (.ref va), .val (.ref vb), .val .null] [])
  refine i_aloadN w1 own_d2_4 rfl rfl (pc' := 5) rfl ?_
  refine i_lloadN w1 own_d2_5 rfl (pc' := 6) rfl ?_
  refine i_putF w1 own_d2_6 (hw _ (List.mem_of_getElem? (i := 16) rfl)) F0 Ea (Or.inr ⟨(hw _ (List.mem_of_getElem? (i := 17) rfl)), rfl, rfl⟩) (hw _ (List.mem_of_getElem? (i := 1) rfl)) (ty := .long) (by decide) rfl rfl (Or.inl (List.mem_singleton.mpr rfl)) (pc' := 9) rfl ?_
  intro T2 h2 w2 W2
  show Goes p e below _ T2 (mkF m 9 #[.val (.ref a), .val (.long x1), .second, .val (.long x2), .second, .val (.long x3), .second, .val (.ref ia), .val (.ref va), .val (.ref vb), .val .null] [])
  have F0_0 := Fld.same W2 F0
  have F1_0 := F1.other W2 (Or.inr (slot_ne (Or.inr (hw _ (List.mem_of_getElem? (i := 19) rfl))) (Or.inr (hw _ (List.mem_of_getElem? (i := 17) rfl))) (by decide) (t := .long) (t' := .long) (by decide) (by decide)))
  have F2_0 := F2.other W2 (Or.inr (slot_ne (Or.inr (hw _ (List.mem_of_getElem? (i := 21) rfl))) (Or.inr (hw _ (List.mem_of_getElem? (i := 17) rfl))) (by decide) (t := .long) (t' := .long) (by decide) (by decide)))
  have F3_0 := F3.other W2 (Or.inr (slot_ne (Or.inr (hw _ (List.mem_of_getElem? (i := 23) rfl))) (Or.inr (hw _ (List.mem_of_getElem? (i := 17) rfl))) (by decide) (t := (.array .int)) (t' := .long) (by decide) (by decide)))
  have F4_0 := F4.other W2 (Or.inr (slot_ne (Or.inr (hw _ (List.mem_of_getElem? (i := 25) rfl))) (Or.inr (hw _ (List.mem_of_getElem? (i := 17) rfl))) (by decide) (t := (.array (.object "java/lang/Object"))) (t' := .long) (by decide) (by decide)))
  have F5_0 := F5.other W2 (Or.inr (slot_ne (Or.inr (hw _ (List.mem_of_getElem? (i := 27) rfl))) (Or.inr (hw _ (List.mem_of_getElem? (i := 17) rfl))) (by decide) (t := (.array (.object "java/lang/Object"))) (t' := .long) (by decide) (by decide)))
  have F6_0 := F6.other W2 (Or.inr (slot_ne (Or.inl (hw _ (List.mem_of_getElem? (i := 29) rfl))) (Or.inr (hw _ (List.mem_of_getElem? (i := 17) rfl))) (by decide) (t := (.object "com/example/palimpsest/palimpsest/core/Overwrite")) (t' := .long) (by decide) (by decide)))
  have F7_0 := F7.other W2 (Or.inr (slot_ne (Or.inl (hw _ (List.mem_of_getElem? (i := 76) rfl))) (Or.inr (hw _ (List.mem_of_getElem? (i := 17) rfl))) (by decide) (t := (.object "com/example/palimpsest/palimpsest/core/Placement")) (t' := .long) (by decide) (by decide)))
  have Ea_0 := Ea.wr W2
  refine i_aloadN w2 own_d2_9 rfl rfl (pc' := 10) rfl ?_
  refine i_lloadN w2 own_d2_10 rfl (pc' := 11) rfl ?_
  refine i_putF w2 own_d2_11 (hw _ (List.mem_of_getElem? (i := 18) rfl)) F1_0 Ea_0 (Or.inr ⟨(hw _ (List.mem_of_getElem? (i := 19) rfl)), rfl, rfl⟩) (hw _ (List.mem_of_getElem? (i := 1) rfl)) (ty := .long) (by decide) rfl rfl (Or.inl (List.mem_singleton.mpr rfl)) (pc' := 14) rfl ?_
  intro T3 h3 w3 W3
  show Goes p e below _ T3 (mkF m 14 #[.val (.ref a), .val (.long x1), .second, .val (.long x2), .second, .val (.long x3), .second, .val (.ref ia), .val (.ref va), .val (.ref vb), .val .null] [])
  have F0_1 := F0_0.other W3 (Or.inr (slot_ne (Or.inr (hw _ (List.mem_of_getElem? (i := 17) rfl))) (Or.inr (hw _ (List.mem_of_getElem? (i := 19) rfl))) (by decide) (t := .long) (t' := .long) (by decide) (by decide)))
  have F1_1 := Fld.same W3 F1_0
  have F2_1 := F2_0.other W3 (Or.inr (slot_ne (Or.inr (hw _ (List.mem_of_getElem? (i := 21) rfl))) (Or.inr (hw _ (List.mem_of_getElem? (i := 19) rfl))) (by decide) (t := .long) (t' := .long) (by decide) (by decide)))
  have F3_1 := F3_0.other W3 (Or.inr (slot_ne (Or.inr (hw _ (List.mem_of_getElem? (i := 23) rfl))) (Or.inr (hw _ (List.mem_of_getElem? (i := 19) rfl))) (by decide) (t := (.array .int)) (t' := .long) (by decide) (by decide)))
  have F4_1 := F4_0.other W3 (Or.inr (slot_ne (Or.inr (hw _ (List.mem_of_getElem? (i := 25) rfl))) (Or.inr (hw _ (List.mem_of_getElem? (i := 19) rfl))) (by decide) (t := (.array (.object "java/lang/Object"))) (t' := .long) (by decide) (by decide)))
  have F5_1 := F5_0.other W3 (Or.inr (slot_ne (Or.inr (hw _ (List.mem_of_getElem? (i := 27) rfl))) (Or.inr (hw _ (List.mem_of_getElem? (i := 19) rfl))) (by decide) (t := (.array (.object "java/lang/Object"))) (t' := .long) (by decide) (by decide)))
  have F6_1 := F6_0.other W3 (Or.inr (slot_ne (Or.inl (hw _ (List.mem_of_getElem? (i := 29) rfl))) (Or.inr (hw _ (List.mem_of_getElem? (i := 19) rfl))) (by decide) (t := (.object "com/example/palimpsest/palimpsest/core/Overwrite")) (t' := .long) (by decide) (by decide)))
  have F7_1 := F7_0.other W3 (Or.inr (slot_ne (Or.inl (hw _ (List.mem_of_getElem? (i := 76) rfl))) (Or.inr (hw _ (List.mem_of_getElem? (i := 19) rfl))) (by decide) (t := (.object "com/example/palimpsest/palimpsest/core/Placement")) (t' := .long) (by decide) (by decide)))
  have Ea_1 := Ea_0.wr W3
  refine i_aloadN w3 own_d2_14 rfl rfl (pc' := 15) rfl ?_
  refine i_lload w3 own_d2_15 rfl (pc' := 17) rfl ?_
  refine i_putF w3 own_d2_17 (hw _ (List.mem_of_getElem? (i := 20) rfl)) F2_1 Ea_1 (Or.inr ⟨(hw _ (List.mem_of_getElem? (i := 21) rfl)), rfl, rfl⟩) (hw _ (List.mem_of_getElem? (i := 1) rfl)) (ty := .long) (by decide) rfl rfl (Or.inl (List.mem_singleton.mpr rfl)) (pc' := 20) rfl ?_
  intro T4 h4 w4 W4
  show Goes p e below _ T4 (mkF m 20 #[.val (.ref a), .val (.long x1), .second, .val (.long x2), .second, .val (.long x3), .second, .val (.ref ia), .val (.ref va), .val (.ref vb), .val .null] [])
  have F0_2 := F0_1.other W4 (Or.inr (slot_ne (Or.inr (hw _ (List.mem_of_getElem? (i := 17) rfl))) (Or.inr (hw _ (List.mem_of_getElem? (i := 21) rfl))) (by decide) (t := .long) (t' := .long) (by decide) (by decide)))
  have F1_2 := F1_1.other W4 (Or.inr (slot_ne (Or.inr (hw _ (List.mem_of_getElem? (i := 19) rfl))) (Or.inr (hw _ (List.mem_of_getElem? (i := 21) rfl))) (by decide) (t := .long) (t' := .long) (by decide) (by decide)))
  have F2_2 := Fld.same W4 F2_1
  have F3_2 := F3_1.other W4 (Or.inr (slot_ne (Or.inr (hw _ (List.mem_of_getElem? (i := 23) rfl))) (Or.inr (hw _ (List.mem_of_getElem? (i := 21) rfl))) (by decide) (t := (.array .int)) (t' := .long) (by decide) (by decide)))
  have F4_2 := F4_1.other W4 (Or.inr (slot_ne (Or.inr (hw _ (List.mem_of_getElem? (i := 25) rfl))) (Or.inr (hw _ (List.mem_of_getElem? (i := 21) rfl))) (by decide) (t := (.array (.object "java/lang/Object"))) (t' := .long) (by decide) (by decide)))
  have F5_2 := F5_1.other W4 (Or.inr (slot_ne (Or.inr (hw _ (List.mem_of_getElem? (i := 27) rfl))) (Or.inr (hw _ (List.mem_of_getElem? (i := 21) rfl))) (by decide) (t := (.array (.object "java/lang/Object"))) (t' := .long) (by decide) (by decide)))
  have F6_2 := F6_1.other W4 (Or.inr (slot_ne (Or.inl (hw _ (List.mem_of_getElem? (i := 29) rfl))) (Or.inr (hw _ (List.mem_of_getElem? (i := 21) rfl))) (by decide) (t := (.object "com/example/palimpsest/palimpsest/core/Overwrite")) (t' := .long) (by decide) (by decide)))
  have F7_2 := F7_1.other W4 (Or.inr (slot_ne (Or.inl (hw _ (List.mem_of_getElem? (i := 76) rfl))) (Or.inr (hw _ (List.mem_of_getElem? (i := 21) rfl))) (by decide) (t := (.object "com/example/palimpsest/palimpsest/core/Placement")) (t' := .long) (by decide) (by decide)))
  have Ea_2 := Ea_1.wr W4
  refine i_aloadN w4 own_d2_20 rfl rfl (pc' := 21) rfl ?_
  refine i_aload w4 own_d2_21 rfl rfl (pc' := 23) rfl ?_
  refine i_putF w4 own_d2_23 (hw _ (List.mem_of_getElem? (i := 22) rfl)) F3_2 Ea_2 (Or.inr ⟨(hw _ (List.mem_of_getElem? (i := 23) rfl)), rfl, rfl⟩) (hw _ (List.mem_of_getElem? (i := 1) rfl)) (ty := (.array .int)) (by decide) rfl rfl (Or.inl (List.mem_singleton.mpr rfl)) (pc' := 26) rfl ?_
  intro T5 h5 w5 W5
  show Goes p e below _ T5 (mkF m 26 #[.val (.ref a), .val (.long x1), .second, .val (.long x2), .second, .val (.long x3), .second, .val (.ref ia), .val (.ref va), .val (.ref vb), .val .null] [])
  have F0_3 := F0_2.other W5 (Or.inr (slot_ne (Or.inr (hw _ (List.mem_of_getElem? (i := 17) rfl))) (Or.inr (hw _ (List.mem_of_getElem? (i := 23) rfl))) (by decide) (t := .long) (t' := (.array .int)) (by decide) (by decide)))
  have F1_3 := F1_2.other W5 (Or.inr (slot_ne (Or.inr (hw _ (List.mem_of_getElem? (i := 19) rfl))) (Or.inr (hw _ (List.mem_of_getElem? (i := 23) rfl))) (by decide) (t := .long) (t' := (.array .int)) (by decide) (by decide)))
  have F2_3 := F2_2.other W5 (Or.inr (slot_ne (Or.inr (hw _ (List.mem_of_getElem? (i := 21) rfl))) (Or.inr (hw _ (List.mem_of_getElem? (i := 23) rfl))) (by decide) (t := .long) (t' := (.array .int)) (by decide) (by decide)))
  have F3_3 := Fld.same W5 F3_2
  have F4_3 := F4_2.other W5 (Or.inr (slot_ne (Or.inr (hw _ (List.mem_of_getElem? (i := 25) rfl))) (Or.inr (hw _ (List.mem_of_getElem? (i := 23) rfl))) (by decide) (t := (.array (.object "java/lang/Object"))) (t' := (.array .int)) (by decide) (by decide)))
  have F5_3 := F5_2.other W5 (Or.inr (slot_ne (Or.inr (hw _ (List.mem_of_getElem? (i := 27) rfl))) (Or.inr (hw _ (List.mem_of_getElem? (i := 23) rfl))) (by decide) (t := (.array (.object "java/lang/Object"))) (t' := (.array .int)) (by decide) (by decide)))
  have F6_3 := F6_2.other W5 (Or.inr (slot_ne (Or.inl (hw _ (List.mem_of_getElem? (i := 29) rfl))) (Or.inr (hw _ (List.mem_of_getElem? (i := 23) rfl))) (by decide) (t := (.object "com/example/palimpsest/palimpsest/core/Overwrite")) (t' := (.array .int)) (by decide) (by decide)))
  have F7_3 := F7_2.other W5 (Or.inr (slot_ne (Or.inl (hw _ (List.mem_of_getElem? (i := 76) rfl))) (Or.inr (hw _ (List.mem_of_getElem? (i := 23) rfl))) (by decide) (t := (.object "com/example/palimpsest/palimpsest/core/Placement")) (t' := (.array .int)) (by decide) (by decide)))
  have Ea_3 := Ea_2.wr W5
  refine i_aloadN w5 own_d2_26 rfl rfl (pc' := 27) rfl ?_
  refine i_aload w5 own_d2_27 rfl rfl (pc' := 29) rfl ?_
  refine i_putF w5 own_d2_29 (hw _ (List.mem_of_getElem? (i := 24) rfl)) F4_3 Ea_3 (Or.inr ⟨(hw _ (List.mem_of_getElem? (i := 25) rfl)), rfl, rfl⟩) (hw _ (List.mem_of_getElem? (i := 1) rfl)) (ty := (.array (.object "java/lang/Object"))) (by decide) rfl rfl (Or.inl (List.mem_singleton.mpr rfl)) (pc' := 32) rfl ?_
  intro T6 h6 w6 W6
  show Goes p e below _ T6 (mkF m 32 #[.val (.ref a), .val (.long x1), .second, .val (.long x2), .second, .val (.long x3), .second, .val (.ref ia), .val (.ref va), .val (.ref vb), .val .null] [])
  have F0_4 := F0_3.other W6 (Or.inr (slot_ne (Or.inr (hw _ (List.mem_of_getElem? (i := 17) rfl))) (Or.inr (hw _ (List.mem_of_getElem? (i := 25) rfl))) (by decide) (t := .long) (t' := (.array (.object "java/lang/Object"))) (by decide) (by decide)))
  have F1_4 := F1_3.other W6 (Or.inr (slot_ne (Or.inr (hw _ (List.mem_of_getElem? (i := 19) rfl))) (Or.inr (hw _ (List.mem_of_getElem? (i := 25) rfl))) (by decide) (t := .long) (t' := (.array (.object "java/lang/Object"))) (by decide) (by decide)))
  have F2_4 := F2_3.other W6 (Or.inr (slot_ne (Or.inr (hw _ (List.mem_of_getElem? (i := 21) rfl))) (Or.inr (hw _ (List.mem_of_getElem? (i := 25) rfl))) (by decide) (t := .long) (t' := (.array (.object "java/lang/Object"))) (by decide) (by decide)))
  have F3_4 := F3_3.other W6 (Or.inr (slot_ne (Or.inr (hw _ (List.mem_of_getElem? (i := 23) rfl))) (Or.inr (hw _ (List.mem_of_getElem? (i := 25) rfl))) (by decide) (t := (.array .int)) (t' := (.array (.object "java/lang/Object"))) (by decide) (by decide)))
  have F4_4 := Fld.same W6 F4_3
  have F5_4 := F5_3.other W6 (Or.inr (slot_ne (Or.inr (hw _ (List.mem_of_getElem? (i := 27) rfl))) (Or.inr (hw _ (List.mem_of_getElem? (i := 25) rfl))) (by decide) (t := (.array (.object "java/lang/Object"))) (t' := (.array (.object "java/lang/Object"))) (by decide) (by decide)))
  have F6_4 := F6_3.other W6 (Or.inr (slot_ne (Or.inl (hw _ (List.mem_of_getElem? (i := 29) rfl))) (Or.inr (hw _ (List.mem_of_getElem? (i := 25) rfl))) (by decide) (t := (.object "com/example/palimpsest/palimpsest/core/Overwrite")) (t' := (.array (.object "java/lang/Object"))) (by decide) (by decide)))
  have F7_4 := F7_3.other W6 (Or.inr (slot_ne (Or.inl (hw _ (List.mem_of_getElem? (i := 76) rfl))) (Or.inr (hw _ (List.mem_of_getElem? (i := 25) rfl))) (by decide) (t := (.object "com/example/palimpsest/palimpsest/core/Placement")) (t' := (.array (.object "java/lang/Object"))) (by decide) (by decide)))
  have Ea_4 := Ea_3.wr W6
  refine i_aloadN w6 own_d2_32 rfl rfl (pc' := 33) rfl ?_
  refine i_aload w6 own_d2_33 rfl rfl (pc' := 35) rfl ?_
  refine i_putF w6 own_d2_35 (hw _ (List.mem_of_getElem? (i := 26) rfl)) F5_4 Ea_4 (Or.inr ⟨(hw _ (List.mem_of_getElem? (i := 27) rfl)), rfl, rfl⟩) (hw _ (List.mem_of_getElem? (i := 1) rfl)) (ty := (.array (.object "java/lang/Object"))) (by decide) rfl rfl (Or.inl (List.mem_singleton.mpr rfl)) (pc' := 38) rfl ?_
  intro T7 h7 w7 W7
  show Goes p e below _ T7 (mkF m 38 #[.val (.ref a), .val (.long x1), .second, .val (.long x2), .second, .val (.long x3), .second, .val (.ref ia), .val (.ref va), .val (.ref vb), .val .null] [])
  have F0_5 := F0_4.other W7 (Or.inr (slot_ne (Or.inr (hw _ (List.mem_of_getElem? (i := 17) rfl))) (Or.inr (hw _ (List.mem_of_getElem? (i := 27) rfl))) (by decide) (t := .long) (t' := (.array (.object "java/lang/Object"))) (by decide) (by decide)))
  have F1_5 := F1_4.other W7 (Or.inr (slot_ne (Or.inr (hw _ (List.mem_of_getElem? (i := 19) rfl))) (Or.inr (hw _ (List.mem_of_getElem? (i := 27) rfl))) (by decide) (t := .long) (t' := (.array (.object "java/lang/Object"))) (by decide) (by decide)))
  have F2_5 := F2_4.other W7 (Or.inr (slot_ne (Or.inr (hw _ (List.mem_of_getElem? (i := 21) rfl))) (Or.inr (hw _ (List.mem_of_getElem? (i := 27) rfl))) (by decide) (t := .long) (t' := (.array (.object "java/lang/Object"))) (by decide) (by decide)))
  have F3_5 := F3_4.other W7 (Or.inr (slot_ne (Or.inr (hw _ (List.mem_of_getElem? (i := 23) rfl))) (Or.inr (hw _ (List.mem_of_getElem? (i := 27) rfl))) (by decide) (t := (.array .int)) (t' := (.array (.object "java/lang/Object"))) (by decide) (by decide)))
  have F4_5 := F4_4.other W7 (Or.inr (slot_ne (Or.inr (hw _ (List.mem_of_getElem? (i := 25) rfl))) (Or.inr (hw _ (List.mem_of_getElem? (i := 27) rfl))) (by decide) (t := (.array (.object "java/lang/Object"))) (t' := (.array (.object "java/lang/Object"))) (by decide) (by decide)))
  have F5_5 := Fld.same W7 F5_4
  have F6_5 := F6_4.other W7 (Or.inr (slot_ne (Or.inl (hw _ (List.mem_of_getElem? (i := 29) rfl))) (Or.inr (hw _ (List.mem_of_getElem? (i := 27) rfl))) (by decide) (t := (.object "com/example/palimpsest/palimpsest/core/Overwrite")) (t' := (.array (.object "java/lang/Object"))) (by decide) (by decide)))
  have F7_5 := F7_4.other W7 (Or.inr (slot_ne (Or.inl (hw _ (List.mem_of_getElem? (i := 76) rfl))) (Or.inr (hw _ (List.mem_of_getElem? (i := 27) rfl))) (by decide) (t := (.object "com/example/palimpsest/palimpsest/core/Placement")) (t' := (.array (.object "java/lang/Object"))) (by decide) (by decide)))
  have Ea_5 := Ea_4.wr W7
  refine i_aloadN w7 own_d2_38 rfl rfl (pc' := 39) rfl ?_
  refine i_aload w7 own_d2_39 rfl rfl (pc' := 41) rfl ?_
  refine i_putF w7 own_d2_41 (hw _ (List.mem_of_getElem? (i := 28) rfl)) F6_5 Ea_5 (Or.inl (hw _ (List.mem_of_getElem? (i := 29) rfl))) (hw _ (List.mem_of_getElem? (i := 1) rfl)) (ty := (.object "com/example/palimpsest/palimpsest/core/Overwrite")) (by decide) rfl rfl (Or.inl (List.mem_singleton.mpr rfl)) (pc' := 44) rfl ?_
  intro T8 h8 w8 W8
  show Goes p e below _ T8 (mkF m 44 #[.val (.ref a), .val (.long x1), .second, .val (.long x2), .second, .val (.long x3), .second, .val (.ref ia), .val (.ref va), .val (.ref vb), .val .null] [])
  have F0_6 := F0_5.other W8 (Or.inr (slot_ne (Or.inr (hw _ (List.mem_of_getElem? (i := 17) rfl))) (Or.inl (hw _ (List.mem_of_getElem? (i := 29) rfl))) (by decide) (t := .long) (t' := (.object "com/example/palimpsest/palimpsest/core/Overwrite")) (by decide) (by decide)))
  have F1_6 := F1_5.other W8 (Or.inr (slot_ne (Or.inr (hw _ (List.mem_of_getElem? (i := 19) rfl))) (Or.inl (hw _ (List.mem_of_getElem? (i := 29) rfl))) (by decide) (t := .long) (t' := (.object "com/example/palimpsest/palimpsest/core/Overwrite")) (by decide) (by decide)))
  have F2_6 := F2_5.other W8 (Or.inr (slot_ne (Or.inr (hw _ (List.mem_of_getElem? (i := 21) rfl))) (Or.inl (hw _ (List.mem_of_getElem? (i := 29) rfl))) (by decide) (t := .long) (t' := (.object "com/example/palimpsest/palimpsest/core/Overwrite")) (by decide) (by decide)))
  have F3_6 := F3_5.other W8 (Or.inr (slot_ne (Or.inr (hw _ (List.mem_of_getElem? (i := 23) rfl))) (Or.inl (hw _ (List.mem_of_getElem? (i := 29) rfl))) (by decide) (t := (.array .int)) (t' := (.object "com/example/palimpsest/palimpsest/core/Overwrite")) (by decide) (by decide)))
  have F4_6 := F4_5.other W8 (Or.inr (slot_ne (Or.inr (hw _ (List.mem_of_getElem? (i := 25) rfl))) (Or.inl (hw _ (List.mem_of_getElem? (i := 29) rfl))) (by decide) (t := (.array (.object "java/lang/Object"))) (t' := (.object "com/example/palimpsest/palimpsest/core/Overwrite")) (by decide) (by decide)))
  have F5_6 := F5_5.other W8 (Or.inr (slot_ne (Or.inr (hw _ (List.mem_of_getElem? (i := 27) rfl))) (Or.inl (hw _ (List.mem_of_getElem? (i := 29) rfl))) (by decide) (t := (.array (.object "java/lang/Object"))) (t' := (.object "com/example/palimpsest/palimpsest/core/Overwrite")) (by decide) (by decide)))
  have F6_6 := Fld.same W8 F6_5
  have F7_6 := F7_5.other W8 (Or.inr (slot_ne (Or.inl (hw _ (List.mem_of_getElem? (i := 76) rfl))) (Or.inl (hw _ (List.mem_of_getElem? (i := 29) rfl))) (by decide) (t := (.object "com/example/palimpsest/palimpsest/core/Placement")) (t' := (.object "com/example/palimpsest/palimpsest/core/Overwrite")) (by decide) (by decide)))
  have Ea_6 := Ea_5.wr W8
  exact i_ret0 w8 own_d2_44 rfl ⟨rfl, Ea_6, F0_6, F1_6, F2_6, F3_6, F4_6, F5_6, F6_6, F7_6⟩ (by decide) (by decide)
theorem own_d1_0 : decode prog_16_method_1_code 0 = .ok (.aload_n 0, 1) := by decide +kernel
theorem own_d1_1 : decode prog_16_method_1_code 1 = .ok (.lload_n 1, 1) := by decide +kernel
theorem own_d1_2 : decode prog_16_method_1_code 2 = .ok (.lload_n 1, 1) := by decide +kernel
theorem own_d1_3 : decode prog_16_method_1_code 3 = .ok (.lload_n 1, 1) := by decide +kernel
theorem own_d1_4 : decode prog_16_method_1_code 4 = .ok (.getstatic 1, 3) := by decide +kernel
theorem own_d1_7 : decode prog_16_method_1_code 7 = .ok (.getstatic 7, 3) := by decide +kernel
theorem own_d1_10 : decode prog_16_method_1_code 10 = .ok (.getstatic 7, 3) := by decide +kernel
theorem own_d1_13 : decode prog_16_method_1_code 13 = .ok (.aconst_null, 1) := by decide +kernel
theorem own_d1_14 : decode prog_16_method_1_code 14 = .ok (.invokespecial 11, 3) := by decide +kernel
theorem own_d1_17 : decode prog_16_method_1_code 17 = .ok (.return_, 1) := by decide +kernel
theorem own_pd_pJqV : parseMethodDescriptor "(J)V" = some ⟨[.long], none⟩ := by decide +kernel
theorem own_ef_own_d1 (m : MethodId) (x0 : Addr) (x1 : Int64) : entryFrame m #[(.ref x0), (.long x1)] 3 = mkF m 0 #[.val (.ref x0), .val (.long x1), .second] [] := by
  first | (simp [entryFrame, mkF, argsToLocals, Value.category]; done) | rfl
set_option maxRecDepth 65536 in
set_option maxHeartbeats 40000000 in
theorem own_ini1 (l : Launch) (Z : State) (a0 : Array Value) (hw : ∀ d ∈ tables_1, d.before a0 Z = true) (a : Addr) (x : Int64) (ni nv : Addr) (SI : Sta Z Z.heap "com/example/palimpsest/palimpsest/core/Overwrite" "NO_INDICES" "[I" (.ref ni)) (SV : Sta Z Z.heap "com/example/palimpsest/palimpsest/core/Overwrite" "NO_VALUES" "[Ljava/lang/Object;" (.ref nv)) (h0 : Heap) (n0 : Nat) (O : Old Z n0 h0) (ha : n0 ≤ a) (Ea : Exa Z h0 a "com/example/palimpsest/palimpsest/core/Overwrite") (F0 : Fld Z h0 a "com/example/palimpsest/palimpsest/core/Overwrite" "stamp" "J" (.long 0)) (F1 : Fld Z h0 a "com/example/palimpsest/palimpsest/core/Overwrite" "since" "J" (.long 0)) (F2 : Fld Z h0 a "com/example/palimpsest/palimpsest/core/Overwrite" "first" "J" (.long 0)) (F3 : Fld Z h0 a "com/example/palimpsest/palimpsest/core/Overwrite" "indices" "[I" .null) (F4 : Fld Z h0 a "com/example/palimpsest/palimpsest/core/Overwrite" "oldValues" "[Ljava/lang/Object;" .null) (F5 : Fld Z h0 a "com/example/palimpsest/palimpsest/core/Overwrite" "newValues" "[Ljava/lang/Object;" .null) (F6 : Fld Z h0 a "com/example/palimpsest/palimpsest/core/Overwrite" "older" "Lcom/example/palimpsest/palimpsest/core/Overwrite;" .null) (F7 : Fld Z h0 a "com/example/palimpsest/palimpsest/core/Overwrite" "placement" "Lcom/example/palimpsest/palimpsest/core/Placement;" .null) :
    Ctr l Z n0 (⟨"com/example/palimpsest/palimpsest/core/Overwrite", "<init>", "(J)V"⟩ : MethodName) prog_16_method_1_code 3 none [] ({ frames := 2, cells := 0, slots := 0, locals := 34 } : Room) #[(.ref a), (.long x)] h0 [a] (fun v h => v = none ∧ Exa Z h a "com/example/palimpsest/palimpsest/core/Overwrite" ∧ Fld Z h a "com/example/palimpsest/palimpsest/core/Overwrite" "stamp" "J" (.long x) ∧ Fld Z h a "com/example/palimpsest/palimpsest/core/Overwrite" "since" "J" (.long x) ∧ Fld Z h a "com/example/palimpsest/palimpsest/core/Overwrite" "first" "J" (.long x) ∧ Fld Z h a "com/example/palimpsest/palimpsest/core/Overwrite" "indices" "[I" (.ref ni) ∧ Fld Z h a "com/example/palimpsest/palimpsest/core/Overwrite" "oldValues" "[Ljava/lang/Object;" (.ref nv) ∧ Fld Z h a "com/example/palimpsest/palimpsest/core/Overwrite" "newValues" "[Ljava/lang/Object;" (.ref nv) ∧ Fld Z h a "com/example/palimpsest/palimpsest/core/Overwrite" "older" "Lcom/example/palimpsest/palimpsest/core/Overwrite;" .null ∧ Fld Z h a "com/example/palimpsest/palimpsest/core/Overwrite" "placement" "Lcom/example/palimpsest/palimpsest/core/Placement;" .null) := by
  refine enter (plainFor_of_name own_pn_com_example_palimpsest_palimpsest_core_Overwrite) (fun m => own_ef_own_d1 m a x) O (allS ha all0) ?_
  intro p e s m below meth c T w
  refine i_aloadN w own_d1_0 rfl rfl (pc' := 1) rfl ?_
  refine i_lloadN w own_d1_1 rfl (pc' := 2) rfl ?_
  refine i_lloadN w own_d1_2 rfl (pc' := 3) rfl ?_
  refine i_lloadN w own_d1_3 rfl (pc' := 4) rfl ?_
  refine i_getS w own_d1_4 (hw _ (List.mem_of_getElem? (i := 6) rfl)) SI (pc' := 7) rfl ?_
  intro T9 w9
  refine i_getS w9 own_d1_7 (hw _ (List.mem_of_getElem? (i := 8) rfl)) SV (pc' := 10) rfl ?_
  intro T10 w10
  refine i_getS w10 own_d1_10 (hw _ (List.mem_of_getElem? (i := 8) rfl)) SV (pc' := 13) rfl ?_
  intro T11 w11
  refine i_aconstNull w11 own_d1_13 (pc' := 14) rfl ?_
  refine c_special w11 (y := (⟨"com/example/palimpsest/palimpsest/core/Overwrite", "<init>", "(JJJ[I[Ljava/lang/Object;[Ljava/lang/Object;Lcom/example/palimpsest/palimpsest/core/Overwrite;)V"⟩ : MethodName)) (a := a) (argsL := [(.long x), (.long x), (.long x), (.ref ni), (.ref nv), (.ref nv), .null]) (st := []) own_d1_14 rfl (hw _ (List.mem_of_getElem? (i := 10) rfl)) (hw _ (List.mem_of_getElem? (i := 11) rfl)) (hw _ (List.mem_of_getElem? (i := 2) rfl)) (hw _ (List.mem_of_getElem? (i := 12) rfl)) (by decide) own_pd_pJJJAIALjava_lang_ObjecteALjava_lang_ObjecteLcom_example_palimpsest_palimpsest_core_OverwriteeqV rfl (own_ini2 l Z a0 hw a x x x ni nv nv h0 n0 w11.old ha Ea F0 F1 F2 F3 F4 F5 F6 F7) rfl (by decide) (W := 0) (Nat.le_of_eq rfl) (by decide) (by decide) (by decide) (allS (Or.inl (List.mem_singleton.mpr rfl)) all0) (pc' := 17) rfl ?_
  intro v12 T12 h12 w12 K12 q12
  obtain ⟨rfl, q⟩ := q12
  show Goes p e below _ T12 (mkF m 17 #[.val (.ref a), .val (.long x), .second] [])
  exact i_ret0 w12 own_d1_17 rfl ⟨rfl, q⟩ (by decide) (by decide)
theorem own_d5_0 : decode jdk_65_method_123_code 0 = .ok (.iload_n 1, 1) := by decide +kernel
theorem own_d5_1 : decode jdk_65_method_123_code 1 = .ok (.aload_n 0, 1) := by decide +kernel
theorem own_d5_2 : decode jdk_65_method_123_code 2 = .ok (.arraylength, 1) := by decide +kernel
theorem own_d5_3 : decode jdk_65_method_123_code 3 = .ok (.if_icmp .ne 11, 3) := by decide +kernel
theorem own_d5_6 : decode jdk_65_method_123_code 6 = .ok (.aload_n 0, 1) := by decide +kernel
theorem own_d5_7 : decode jdk_65_method_123_code 7 = .ok (.invokevirtual 316, 3) := by decide +kernel
theorem own_d5_10 : decode jdk_65_method_123_code 10 = .ok (.checkcast 317, 3) := by decide +kernel
theorem own_d5_13 : decode jdk_65_method_123_code 13 = .ok (.areturn, 1) := by decide +kernel
theorem own_d5_14 : decode jdk_65_method_123_code 14 = .ok (.iload_n 1, 1) := by decide +kernel
theorem own_d5_15 : decode jdk_65_method_123_code 15 = .ok (.newarray .int, 2) := by decide +kernel
theorem own_d5_17 : decode jdk_65_method_123_code 17 = .ok (.astore_n 2, 1) := by decide +kernel
theorem own_d5_18 : decode jdk_65_method_123_code 18 = .ok (.aload_n 0, 1) := by decide +kernel
theorem own_d5_19 : decode jdk_65_method_123_code 19 = .ok (.iconst 0, 1) := by decide +kernel
theorem own_d5_20 : decode jdk_65_method_123_code 20 = .ok (.aload_n 2, 1) := by decide +kernel
theorem own_d5_21 : decode jdk_65_method_123_code 21 = .ok (.iconst 0, 1) := by decide +kernel
theorem own_d5_22 : decode jdk_65_method_123_code 22 = .ok (.aload_n 0, 1) := by decide +kernel
theorem own_d5_23 : decode jdk_65_method_123_code 23 = .ok (.arraylength, 1) := by decide +kernel
theorem own_d5_24 : decode jdk_65_method_123_code 24 = .ok (.iload_n 1, 1) := by decide +kernel
theorem own_d5_25 : decode jdk_65_method_123_code 25 = .ok (.invokestatic 304, 3) := by decide +kernel
theorem own_d5_28 : decode jdk_65_method_123_code 28 = .ok (.invokestatic 150, 3) := by decide +kernel
theorem own_d5_31 : decode jdk_65_method_123_code 31 = .ok (.aload_n 2, 1) := by decide +kernel
theorem own_d5_32 : decode jdk_65_method_123_code 32 = .ok (.areturn, 1) := by decide +kernel
theorem own_pn_java_util_Arrays : plainName "java/util/Arrays" = true := by first | (simp [plainName, overriddenIn]; done) | decide +kernel
theorem own_pd_pAIIqAI : parseMethodDescriptor "([II)[I" = some ⟨[(.array .int), .int], some (.array .int)⟩ := by decide +kernel
theorem own_ef_own_d5 (m : MethodId) (x0 : Addr) (x1 : Int32) : entryFrame m #[(.ref x0), (.int x1)] 3 = mkF m 0 #[.val (.ref x0), .val (.int x1), .unset] [] := by
  first | (simp [entryFrame, mkF, argsToLocals, Value.category]; done) | rfl
set_option maxRecDepth 65536 in
set_option maxHeartbeats 40000000 in
theorem own_cpI (l : Launch) (Z : State) (a0 : Array Value) (hw : ∀ d ∈ tables_1, d.before a0 Z = true) (a : Addr) (ca : ClassId) (h0 : Heap) (n0 : Nat) (O : Old Z n0 h0) (Aa : Ary Z h0 a ca .int []) (Ea : Exa Z h0 a "[I") :
    Ctr l Z n0 (⟨"java/util/Arrays", "copyOf", "([II)[I"⟩ : MethodName) jdk_65_method_123_code 3 (some (.array .int)) [] ({ frames := 1, cells := 1, slots := 0, locals := 14 } : Room) #[(.ref a), (.int (0 : Int32))] h0 [] (fun v h => ∃ b cb, v = some (.ref b) ∧ h0.size ≤ b ∧ Ary Z h b cb .int []) := by
  refine enter (plainFor_of_name own_pn_java_util_Arrays) (fun m => own_ef_own_d5 m a (0 : Int32)) O (fun _ q => nomatch q) ?_
  intro p e s m below meth c T w
  refine i_iloadN w own_d5_0 rfl (pc' := 1) rfl ?_
  refine i_aloadN w own_d5_1 rfl rfl (pc' := 2) rfl ?_
  refine i_len w own_d5_2 Aa (z := (0 : Int32)) rfl (pc' := 3) rfl ?_
  refine i_icmp_ne_N w rfl own_d5_3 (pc' := 6) rfl ?_
  refine i_aloadN w own_d5_6 rfl rfl (pc' := 7) rfl ?_
  refine i_clone w (ad := "[I") own_d5_7 (hw _ (List.mem_of_getElem? (i := 41) rfl)) (hw _ (List.mem_of_getElem? (i := 42) rfl)) (hw _ (List.mem_of_getElem? (i := 46) rfl)) (hw _ (List.mem_of_getElem? (i := 44) rfl)) (hw _ (List.mem_of_getElem? (i := 45) rfl)) (hw _ (List.mem_of_getElem? (i := 47) rfl)) Aa Ea rfl (by decide) (W := 0) (Nat.le_of_eq rfl) (by decide) (cap := 0) (by decide) (by decide) (by decide) (pc' := 10) rfl ?_
  intro b T14 h14 g_b w14 z_b E14 A_b X_b
  show Goes p e below _ T14 (mkF m 10 #[.val (.ref a), .val (.int (0 : Int32)), .unset] [(.ref b)])
  refine i_cast w14 own_d5_10 (hw _ (List.mem_of_getElem? (i := 48) rfl)) (Ins.self X_b) (pc' := 13) rfl ?_
  intro T15 w15
  show Goes p e below _ T15 (mkF m 13 #[.val (.ref a), .val (.int (0 : Int32)), .unset] [(.ref b)])
  exact i_retA w15 own_d5_13 rfl rfl rfl ⟨b, ca, rfl, z_b, A_b⟩ (by decide) (by decide)
theorem own_d8_0 : decode jdk_29_method_69_code 0 = .ok (.iload_n 0, 1) := by decide +kernel
theorem own_d8_1 : decode jdk_29_method_69_code 1 = .ok (.iload_n 1, 1) := by decide +kernel
theorem own_d8_2 : decode jdk_29_method_69_code 2 = .ok (.if_icmp .gt 7, 3) := by decide +kernel
theorem own_d8_5 : decode jdk_29_method_69_code 5 = .ok (.iload_n 0, 1) := by decide +kernel
theorem own_d8_6 : decode jdk_29_method_69_code 6 = .ok (.goto 4, 3) := by decide +kernel
theorem own_d8_9 : decode jdk_29_method_69_code 9 = .ok (.iload_n 1, 1) := by decide +kernel
theorem own_d8_10 : decode jdk_29_method_69_code 10 = .ok (.ireturn, 1) := by decide +kernel
theorem own_pf_own_d8 : plainFor (⟨"java/lang/Math", "min", "(II)I"⟩ : MethodName) = true := by decide +kernel
theorem own_pd_pIIqI : parseMethodDescriptor "(II)I" = some ⟨[.int, .int], some .int⟩ := by decide +kernel
theorem own_ef_own_d8 (m : MethodId) (x0 : Int32) (x1 : Int32) : entryFrame m #[(.int x0), (.int x1)] 2 = mkF m 0 #[.val (.int x0), .val (.int x1)] [] := by
  first | (simp [entryFrame, mkF, argsToLocals, Value.category]; done) | rfl
set_option maxRecDepth 65536 in
set_option maxHeartbeats 40000000 in
theorem own_min (l : Launch) (Z : State) (a0 : Array Value) (hw : ∀ d ∈ tables_1, d.before a0 Z = true) (x y : Int32) (h0 : Heap) (n0 : Nat) (O : Old Z n0 h0)  :
    Ctr l Z n0 (⟨"java/lang/Math", "min", "(II)I"⟩ : MethodName) jdk_29_method_69_code 2 (some .int) [] ({ frames := 0, cells := 0, slots := 0, locals := 0 } : Room) #[(.int x), (.int y)] h0 [] (fun v h => v = some (.int (if y < x then y else x)) ∧ h0 = h) := by
  refine enter own_pf_own_d8 (fun m => own_ef_own_d8 m x y) O (fun _ q => nomatch q) ?_
  intro p e s m below meth c T w
  refine i_iloadN w own_d8_0 rfl (pc' := 1) rfl ?_
  refine i_iloadN w own_d8_1 rfl (pc' := 2) rfl ?_
  refine i_icmp_gt w own_d8_2 (pcY := 9) (by decide) (pc' := 5) rfl (fun hc2 => ?_) (fun hc2 => ?_)
  ·
    refine i_iloadN w own_d8_9 rfl (pc' := 10) rfl ?_
    exact i_retI w own_d8_10 rfl ⟨by rw [if_pos hc2], rfl⟩ (by decide) (by decide)
  ·
    refine i_iloadN w own_d8_5 rfl (pc' := 6) rfl ?_
    refine i_goto w own_d8_6 (pc' := 10) (by decide) ?_
    exact i_retI w own_d8_10 rfl ⟨by rw [if_neg hc2], rfl⟩ (by decide) (by decide)
theorem own_d7_0 : decode jdk_65_method_120_code 0 = .ok (.aload_n 2, 1) := by decide +kernel
theorem own_d7_1 : decode jdk_65_method_120_code 1 = .ok (.ldc 110, 2) := by decide +kernel
theorem own_d7_3 : decode jdk_65_method_120_code 3 = .ok (.if_acmp .ne 10, 3) := by decide +kernel
theorem own_d7_6 : decode jdk_65_method_120_code 6 = .ok (.iload_n 1, 1) := by decide +kernel
theorem own_d7_7 : decode jdk_65_method_120_code 7 = .ok (.anewarray 2, 3) := by decide +kernel
theorem own_d7_10 : decode jdk_65_method_120_code 10 = .ok (.goto 14, 3) := by decide +kernel
theorem own_d7_13 : decode jdk_65_method_120_code 13 = .ok (.aload_n 2, 1) := by decide +kernel
theorem own_d7_14 : decode jdk_65_method_120_code 14 = .ok (.invokevirtual 90, 3) := by decide +kernel
theorem own_d7_17 : decode jdk_65_method_120_code 17 = .ok (.iload_n 1, 1) := by decide +kernel
theorem own_d7_18 : decode jdk_65_method_120_code 18 = .ok (.invokestatic 95, 3) := by decide +kernel
theorem own_d7_21 : decode jdk_65_method_120_code 21 = .ok (.checkcast 110, 3) := by decide +kernel
theorem own_d7_24 : decode jdk_65_method_120_code 24 = .ok (.astore_n 3, 1) := by decide +kernel
theorem own_d7_25 : decode jdk_65_method_120_code 25 = .ok (.aload_n 0, 1) := by decide +kernel
theorem own_d7_26 : decode jdk_65_method_120_code 26 = .ok (.iconst 0, 1) := by decide +kernel
theorem own_d7_27 : decode jdk_65_method_120_code 27 = .ok (.aload_n 3, 1) := by decide +kernel
theorem own_d7_28 : decode jdk_65_method_120_code 28 = .ok (.iconst 0, 1) := by decide +kernel
theorem own_d7_29 : decode jdk_65_method_120_code 29 = .ok (.aload_n 0, 1) := by decide +kernel
theorem own_d7_30 : decode jdk_65_method_120_code 30 = .ok (.arraylength, 1) := by decide +kernel
theorem own_d7_31 : decode jdk_65_method_120_code 31 = .ok (.iload_n 1, 1) := by decide +kernel
theorem own_d7_32 : decode jdk_65_method_120_code 32 = .ok (.invokestatic 304, 3) := by decide +kernel
theorem own_d7_35 : decode jdk_65_method_120_code 35 = .ok (.invokestatic 150, 3) := by decide +kernel
theorem own_d7_38 : decode jdk_65_method_120_code 38 = .ok (.aload_n 3, 1) := by decide +kernel
theorem own_d7_39 : decode jdk_65_method_120_code 39 = .ok (.areturn, 1) := by decide +kernel
theorem own_pd_pALjava_lang_ObjecteILjava_lang_ClasseqALjava_lang_Objecte : parseMethodDescriptor "([Ljava/lang/Object;ILjava/lang/Class;)[Ljava/lang/Object;" = some ⟨[(.array (.object "java/lang/Object")), .int, (.object "java/lang/Class")], some (.array (.object "java/lang/Object"))⟩ := by decide +kernel
theorem own_ef_own_d7 (m : MethodId) (x0 : Addr) (x1 : Int32) (x2 : Addr) : entryFrame m #[(.ref x0), (.int x1), (.ref x2)] 4 = mkF m 0 #[.val (.ref x0), .val (.int x1), .val (.ref x2), .unset] [] := by
  first | (simp [entryFrame, mkF, argsToLocals, Value.category]; done) | rfl
set_option maxRecDepth 65536 in
set_option maxHeartbeats 40000000 in
theorem own_cp3 (l : Launch) (Z : State) (a0 : Array Value) (hw : ∀ d ∈ tables_1, d.before a0 Z = true) (a mr : Addr) (ca : ClassId) (h0 : Heap) (n0 : Nat) (O : Old Z n0 h0) (Aa : Ary Z h0 a ca (.object "java/lang/Object") []) (M : Mir Z "[Ljava/lang/Object;" mr) :
    Ctr l Z n0 (⟨"java/util/Arrays", "copyOf", "([Ljava/lang/Object;ILjava/lang/Class;)[Ljava/lang/Object;"⟩ : MethodName) jdk_65_method_120_code 4 (some (.array (.object "java/lang/Object"))) [] ({ frames := 1, cells := 1, slots := 0, locals := 18 } : Room) #[(.ref a), (.int (0 : Int32)), (.ref mr)] h0 [] (fun v h => ∃ b cb, v = some (.ref b) ∧ h0.size ≤ b ∧ Ary Z h b cb (.object "java/lang/Object") []) := by
  refine enter (plainFor_of_name own_pn_java_util_Arrays) (fun m => own_ef_own_d7 m a (0 : Int32) mr) O (fun _ q => nomatch q) ?_
  intro p e s m below meth c T w
  refine i_aloadN w own_d7_0 rfl rfl (pc' := 1) rfl ?_
  refine i_ldcM w own_d7_1 (hw _ (List.mem_of_getElem? (i := 62) rfl)) M (pc' := 3) rfl ?_
  intro T16 w16
  show Goes p e below _ T16 (mkF m 3 #[.val (.ref a), .val (.int (0 : Int32)), .val (.ref mr), .unset] [(.ref mr), (.ref mr)])
  refine i_acmp_ne_N w16 rfl rfl (by simp [XT.acmp]) own_d7_3 (pc' := 6) rfl ?_
  refine i_iloadN w16 own_d7_6 rfl (pc' := 7) rfl ?_
  refine i_newR w16 (ad := "[Ljava/lang/Object;") own_d7_7 (hw _ (List.mem_of_getElem? (i := 63) rfl)) (hw _ (List.mem_of_getElem? (i := 35) rfl)) (by decide) (N := 0) (by decide) (by decide) (cap := 0) (by decide) (by decide) (by decide) (by decide) (pc' := 10) rfl ?_
  intro b T17 h17 ca_b g_b w17 z_b E17 A_b X_b O_b
  show Goes p e below _ T17 (mkF m 10 #[.val (.ref a), .val (.int (0 : Int32)), .val (.ref mr), .unset] [(.ref b)])
  have lt_a_b : a < b := Nat.lt_of_lt_of_le Aa.lt (Nat.le_of_eq g_b.symm)
  have Aa_18 := Aa.ext E17
  refine i_goto w17 own_d7_10 (pc' := 24) (by decide) ?_
  refine i_astoreN w17 own_d7_24 rfl (l' := #[.val (.ref a), .val (.int (0 : Int32)), .val (.ref mr), .val (.ref b)]) rfl (pc' := 25) rfl ?_
  refine i_aloadN w17 own_d7_25 rfl rfl (pc' := 26) rfl ?_
  refine i_iconst w17 own_d7_26 (z := (0 : Int32)) (by decide) (pc' := 27) rfl ?_
  refine i_aloadN w17 own_d7_27 rfl rfl (pc' := 28) rfl ?_
  refine i_iconst w17 own_d7_28 (z := (0 : Int32)) (by decide) (pc' := 29) rfl ?_
  refine i_aloadN w17 own_d7_29 rfl rfl (pc' := 30) rfl ?_
  refine i_len w17 own_d7_30 Aa_18 (z := (0 : Int32)) rfl (pc' := 31) rfl ?_
  refine i_iloadN w17 own_d7_31 rfl (pc' := 32) rfl ?_
  refine c_static w17 (y := (⟨"java/lang/Math", "min", "(II)I"⟩ : MethodName)) (argsL := [(.int (0 : Int32)), (.int (0 : Int32))]) (st := [(.int (0 : Int32)), (.ref b), (.int (0 : Int32)), (.ref a)]) own_d7_32 (hw _ (List.mem_of_getElem? (i := 64) rfl)) (hw _ (List.mem_of_getElem? (i := 65) rfl)) (hw _ (List.mem_of_getElem? (i := 66) rfl)) (hw _ (List.mem_of_getElem? (i := 67) rfl)) (by decide) own_pd_pIIqI rfl (own_min l Z a0 hw 0 0 h17 n0 w17.old ) rfl (by decide) (W := 4) (Nat.le_of_eq rfl) (by decide) (by decide) (by decide) (fun _ q => nomatch q) (pc' := 35) rfl ?_
  intro v19 T19 h19 w19 K19 q19
  obtain ⟨rfl, rfl⟩ := q19
  show Goes p e below _ T19 (mkF m 35 #[.val (.ref a), .val (.int (0 : Int32)), .val (.ref mr), .val (.ref b)] [(.int (0 : Int32)), (.int (0 : Int32)), (.ref b), (.int (0 : Int32)), (.ref a)])
  refine i_acopyR w19 (sp := 0) (dp := 0) (nn := 0) own_d7_35 (hw _ (List.mem_of_getElem? (i := 68) rfl)) (hw _ (List.mem_of_getElem? (i := 71) rfl)) (hw _ (List.mem_of_getElem? (i := 69) rfl)) (hw _ (List.mem_of_getElem? (i := 70) rfl)) Aa_18 A_b ⟨rfl, rfl, trivial⟩ (by decide) (by decide) (Or.inr z_b) rfl (by decide) (W := 0) (Nat.le_of_eq rfl) (by decide) (pc' := 38) rfl ?_
  intro T20 h20 w20 K20 Ab1
  show Goes p e below _ T20 (mkF m 38 #[.val (.ref a), .val (.int (0 : Int32)), .val (.ref mr), .val (.ref b)] [])
  refine i_aloadN w20 own_d7_38 rfl rfl (pc' := 39) rfl ?_
  exact i_retA w20 own_d7_39 rfl rfl rfl ⟨b, ca_b, rfl, z_b, Ab1⟩ (by decide) (by decide)
theorem own_d6_0 : decode jdk_65_method_119_code 0 = .ok (.aload_n 0, 1) := by decide +kernel
theorem own_d6_1 : decode jdk_65_method_119_code 1 = .ok (.iload_n 1, 1) := by decide +kernel
theorem own_d6_2 : decode jdk_65_method_119_code 2 = .ok (.aload_n 0, 1) := by decide +kernel
theorem own_d6_3 : decode jdk_65_method_119_code 3 = .ok (.invokevirtual 86, 3) := by decide +kernel
theorem own_d6_6 : decode jdk_65_method_119_code 6 = .ok (.invokestatic 300, 3) := by decide +kernel
theorem own_d6_9 : decode jdk_65_method_119_code 9 = .ok (.areturn, 1) := by decide +kernel
theorem own_pd_pALjava_lang_ObjecteIqALjava_lang_Objecte : parseMethodDescriptor "([Ljava/lang/Object;I)[Ljava/lang/Object;" = some ⟨[(.array (.object "java/lang/Object")), .int], some (.array (.object "java/lang/Object"))⟩ := by decide +kernel
theorem own_ef_own_d6 (m : MethodId) (x0 : Addr) (x1 : Int32) : entryFrame m #[(.ref x0), (.int x1)] 2 = mkF m 0 #[.val (.ref x0), .val (.int x1)] [] := by
  first | (simp [entryFrame, mkF, argsToLocals, Value.category]; done) | rfl
set_option maxRecDepth 65536 in
set_option maxHeartbeats 40000000 in
theorem own_cpO (l : Launch) (Z : State) (a0 : Array Value) (hw : ∀ d ∈ tables_1, d.before a0 Z = true) (a mr : Addr) (ca : ClassId) (h0 : Heap) (n0 : Nat) (O : Old Z n0 h0) (Aa : Ary Z h0 a ca (.object "java/lang/Object") []) (Ea : Exa Z h0 a "[Ljava/lang/Object;") (M : Mir Z "[Ljava/lang/Object;" mr) :
    Ctr l Z n0 (⟨"java/util/Arrays", "copyOf", "([Ljava/lang/Object;I)[Ljava/lang/Object;"⟩ : MethodName) jdk_65_method_119_code 2 (some (.array (.object "java/lang/Object"))) [] ({ frames := 2, cells := 1, slots := 0, locals := 33 } : Room) #[(.ref a), (.int (0 : Int32))] h0 [] (fun v h => ∃ b cb, v = some (.ref b) ∧ h0.size ≤ b ∧ Ary Z h b cb (.object "java/lang/Object") []) := by
  refine enter (plainFor_of_name own_pn_java_util_Arrays) (fun m => own_ef_own_d6 m a (0 : Int32)) O (fun _ q => nomatch q) ?_
  intro p e s m below meth c T w
  refine i_aloadN w own_d6_0 rfl rfl (pc' := 1) rfl ?_
  refine i_iloadN w own_d6_1 rfl (pc' := 2) rfl ?_
  refine i_aloadN w own_d6_2 rfl rfl (pc' := 3) rfl ?_
  refine i_gcls w (C := "[Ljava/lang/Object;") own_d6_3 (hw _ (List.mem_of_getElem? (i := 53) rfl)) (hw _ (List.mem_of_getElem? (i := 54) rfl)) (hw _ (List.mem_of_getElem? (i := 56) rfl)) (hw _ (List.mem_of_getElem? (i := 55) rfl)) (hw _ (List.mem_of_getElem? (i := 57) rfl)) Ea M rfl (by decide) (W := 2) (Nat.le_of_eq rfl) (by decide) (pc' := 6) rfl ?_
  intro T21 w21
  show Goes p e below _ T21 (mkF m 6 #[.val (.ref a), .val (.int (0 : Int32))] [(.ref mr), (.int (0 : Int32)), (.ref a)])
  refine c_static w21 (y := (⟨"java/util/Arrays", "copyOf", "([Ljava/lang/Object;ILjava/lang/Class;)[Ljava/lang/Object;"⟩ : MethodName)) (argsL := [(.ref a), (.int (0 : Int32)), (.ref mr)]) (st := []) own_d6_6 (hw _ (List.mem_of_getElem? (i := 59) rfl)) (hw _ (List.mem_of_getElem? (i := 60) rfl)) (hw _ (List.mem_of_getElem? (i := 39) rfl)) (hw _ (List.mem_of_getElem? (i := 61) rfl)) (by decide) own_pd_pALjava_lang_ObjecteILjava_lang_ClasseqALjava_lang_Objecte rfl (own_cp3 l Z a0 hw a mr ca h0 n0 w21.old Aa M) rfl (by decide) (W := 0) (Nat.le_of_eq rfl) (by decide) (by decide) (by decide) (fun _ q => nomatch q) (pc' := 9) rfl ?_
  intro v22 T22 h22 w22 K22 q22
  obtain ⟨b, cb, rfl, zb, Ab⟩ := q22
  show Goes p e below _ T22 (mkF m 9 #[.val (.ref a), .val (.int (0 : Int32))] [(.ref b)])
  exact i_retA w22 own_d6_9 rfl rfl rfl ⟨b, cb, rfl, zb, Ab⟩ (by decide) (by decide)
theorem own_d4_0 : decode prog_16_method_4_code 0 = .ok (.aload_n 0, 1) := by decide +kernel
theorem own_d4_1 : decode prog_16_method_4_code 1 = .ok (.getfield 38, 3) := by decide +kernel
theorem own_d4_4 : decode prog_16_method_4_code 4 = .ok (.arraylength, 1) := by decide +kernel
theorem own_d4_5 : decode prog_16_method_4_code 5 = .ok (.aload_n 1, 1) := by decide +kernel
theorem own_d4_6 : decode prog_16_method_4_code 6 = .ok (.getfield 38, 3) := by decide +kernel
theorem own_d4_9 : decode prog_16_method_4_code 9 = .ok (.arraylength, 1) := by decide +kernel
theorem own_d4_10 : decode prog_16_method_4_code 10 = .ok (.iadd, 1) := by decide +kernel
theorem own_d4_11 : decode prog_16_method_4_code 11 = .ok (.newarray .int, 2) := by decide +kernel
theorem own_d4_13 : decode prog_16_method_4_code 13 = .ok (.astore_n 2, 1) := by decide +kernel
theorem own_d4_14 : decode prog_16_method_4_code 14 = .ok (.aload_n 2, 1) := by decide +kernel
theorem own_d4_15 : decode prog_16_method_4_code 15 = .ok (.arraylength, 1) := by decide +kernel
theorem own_d4_16 : decode prog_16_method_4_code 16 = .ok (.anewarray 28, 3) := by decide +kernel
theorem own_d4_19 : decode prog_16_method_4_code 19 = .ok (.astore_n 3, 1) := by decide +kernel
theorem own_d4_20 : decode prog_16_method_4_code 20 = .ok (.aload_n 2, 1) := by decide +kernel
theorem own_d4_21 : decode prog_16_method_4_code 21 = .ok (.arraylength, 1) := by decide +kernel
theorem own_d4_22 : decode prog_16_method_4_code 22 = .ok (.anewarray 28, 3) := by decide +kernel
theorem own_d4_25 : decode prog_16_method_4_code 25 = .ok (.astore 4, 2) := by decide +kernel
theorem own_d4_27 : decode prog_16_method_4_code 27 = .ok (.iconst 0, 1) := by decide +kernel
theorem own_d4_28 : decode prog_16_method_4_code 28 = .ok (.istore 5, 2) := by decide +kernel
theorem own_d4_30 : decode prog_16_method_4_code 30 = .ok (.iconst 0, 1) := by decide +kernel
theorem own_d4_31 : decode prog_16_method_4_code 31 = .ok (.istore 6, 2) := by decide +kernel
theorem own_d4_33 : decode prog_16_method_4_code 33 = .ok (.iconst 0, 1) := by decide +kernel
theorem own_d4_34 : decode prog_16_method_4_code 34 = .ok (.istore 7, 2) := by decide +kernel
theorem own_d4_36 : decode prog_16_method_4_code 36 = .ok (.iload 5, 2) := by decide +kernel
theorem own_d4_38 : decode prog_16_method_4_code 38 = .ok (.aload_n 0, 1) := by decide +kernel
theorem own_d4_39 : decode prog_16_method_4_code 39 = .ok (.getfield 38, 3) := by decide +kernel
theorem own_d4_42 : decode prog_16_method_4_code 42 = .ok (.arraylength, 1) := by decide +kernel
theorem own_d4_43 : decode prog_16_method_4_code 43 = .ok (.if_icmp .lt 13, 3) := by decide +kernel
theorem own_d4_46 : decode prog_16_method_4_code 46 = .ok (.iload 6, 2) := by decide +kernel
theorem own_d4_48 : decode prog_16_method_4_code 48 = .ok (.aload_n 1, 1) := by decide +kernel
theorem own_d4_49 : decode prog_16_method_4_code 49 = .ok (.getfield 38, 3) := by decide +kernel
theorem own_d4_52 : decode prog_16_method_4_code 52 = .ok (.arraylength, 1) := by decide +kernel
theorem own_d4_53 : decode prog_16_method_4_code 53 = .ok (.if_icmp .ge 144, 3) := by decide +kernel
theorem own_d4_56 : decode prog_16_method_4_code 56 = .ok (.aload_n 0, 1) := by decide +kernel
theorem own_d4_57 : decode prog_16_method_4_code 57 = .ok (.iload 5, 2) := by decide +kernel
theorem own_d4_59 : decode prog_16_method_4_code 59 = .ok (.invokestatic 49, 3) := by decide +kernel
theorem own_d4_62 : decode prog_16_method_4_code 62 = .ok (.istore 8, 2) := by decide +kernel
theorem own_d4_64 : decode prog_16_method_4_code 64 = .ok (.aload_n 1, 1) := by decide +kernel
theorem own_d4_65 : decode prog_16_method_4_code 65 = .ok (.iload 6, 2) := by decide +kernel
theorem own_d4_67 : decode prog_16_method_4_code 67 = .ok (.invokestatic 49, 3) := by decide +kernel
theorem own_d4_70 : decode prog_16_method_4_code 70 = .ok (.istore 9, 2) := by decide +kernel
theorem own_d4_72 : decode prog_16_method_4_code 72 = .ok (.iload 8, 2) := by decide +kernel
theorem own_d4_74 : decode prog_16_method_4_code 74 = .ok (.iload 9, 2) := by decide +kernel
theorem own_d4_76 : decode prog_16_method_4_code 76 = .ok (.if_icmp .ge 38, 3) := by decide +kernel
theorem own_d4_79 : decode prog_16_method_4_code 79 = .ok (.aload_n 2, 1) := by decide +kernel
theorem own_d4_80 : decode prog_16_method_4_code 80 = .ok (.iload 7, 2) := by decide +kernel
theorem own_d4_82 : decode prog_16_method_4_code 82 = .ok (.iload 8, 2) := by decide +kernel
theorem own_d4_84 : decode prog_16_method_4_code 84 = .ok (.iastore, 1) := by decide +kernel
theorem own_d4_85 : decode prog_16_method_4_code 85 = .ok (.aload_n 3, 1) := by decide +kernel
theorem own_d4_86 : decode prog_16_method_4_code 86 = .ok (.iload 7, 2) := by decide +kernel
theorem own_d4_88 : decode prog_16_method_4_code 88 = .ok (.aload_n 0, 1) := by decide +kernel
theorem own_d4_89 : decode prog_16_method_4_code 89 = .ok (.getfield 39, 3) := by decide +kernel
theorem own_d4_92 : decode prog_16_method_4_code 92 = .ok (.iload 5, 2) := by decide +kernel
theorem own_d4_94 : decode prog_16_method_4_code 94 = .ok (.aaload, 1) := by decide +kernel
theorem own_d4_95 : decode prog_16_method_4_code 95 = .ok (.aastore, 1) := by decide +kernel
theorem own_d4_96 : decode prog_16_method_4_code 96 = .ok (.aload 4, 2) := by decide +kernel
theorem own_d4_98 : decode prog_16_method_4_code 98 = .ok (.iload 7, 2) := by decide +kernel
theorem own_d4_100 : decode prog_16_method_4_code 100 = .ok (.aload_n 0, 1) := by decide +kernel
theorem own_d4_101 : decode prog_16_method_4_code 101 = .ok (.getfield 42, 3) := by decide +kernel
theorem own_d4_104 : decode prog_16_method_4_code 104 = .ok (.iload 5, 2) := by decide +kernel
theorem own_d4_106 : decode prog_16_method_4_code 106 = .ok (.aaload, 1) := by decide +kernel
theorem own_d4_107 : decode prog_16_method_4_code 107 = .ok (.aastore, 1) := by decide +kernel
theorem own_d4_108 : decode prog_16_method_4_code 108 = .ok (.iinc 5 1, 3) := by decide +kernel
theorem own_d4_111 : decode prog_16_method_4_code 111 = .ok (.goto 80, 3) := by decide +kernel
theorem own_d4_114 : decode prog_16_method_4_code 114 = .ok (.iload 9, 2) := by decide +kernel
theorem own_d4_116 : decode prog_16_method_4_code 116 = .ok (.iload 8, 2) := by decide +kernel
theorem own_d4_118 : decode prog_16_method_4_code 118 = .ok (.if_icmp .ge 38, 3) := by decide +kernel
theorem own_d4_121 : decode prog_16_method_4_code 121 = .ok (.aload_n 2, 1) := by decide +kernel
theorem own_d4_122 : decode prog_16_method_4_code 122 = .ok (.iload 7, 2) := by decide +kernel
theorem own_d4_124 : decode prog_16_method_4_code 124 = .ok (.iload 9, 2) := by decide +kernel
theorem own_d4_126 : decode prog_16_method_4_code 126 = .ok (.iastore, 1) := by decide +kernel
theorem own_d4_127 : decode prog_16_method_4_code 127 = .ok (.aload_n 3, 1) := by decide +kernel
theorem own_d4_128 : decode prog_16_method_4_code 128 = .ok (.iload 7, 2) := by decide +kernel
theorem own_d4_130 : decode prog_16_method_4_code 130 = .ok (.aload_n 1, 1) := by decide +kernel
theorem own_d4_131 : decode prog_16_method_4_code 131 = .ok (.getfield 39, 3) := by decide +kernel
theorem own_d4_134 : decode prog_16_method_4_code 134 = .ok (.iload 6, 2) := by decide +kernel
theorem own_d4_136 : decode prog_16_method_4_code 136 = .ok (.aaload, 1) := by decide +kernel
theorem own_d4_137 : decode prog_16_method_4_code 137 = .ok (.aastore, 1) := by decide +kernel
theorem own_d4_138 : decode prog_16_method_4_code 138 = .ok (.aload 4, 2) := by decide +kernel
theorem own_d4_140 : decode prog_16_method_4_code 140 = .ok (.iload 7, 2) := by decide +kernel
theorem own_d4_142 : decode prog_16_method_4_code 142 = .ok (.aload_n 1, 1) := by decide +kernel
theorem own_d4_143 : decode prog_16_method_4_code 143 = .ok (.getfield 42, 3) := by decide +kernel
theorem own_d4_146 : decode prog_16_method_4_code 146 = .ok (.iload 6, 2) := by decide +kernel
theorem own_d4_148 : decode prog_16_method_4_code 148 = .ok (.aaload, 1) := by decide +kernel
theorem own_d4_149 : decode prog_16_method_4_code 149 = .ok (.aastore, 1) := by decide +kernel
theorem own_d4_150 : decode prog_16_method_4_code 150 = .ok (.iinc 6 1, 3) := by decide +kernel
theorem own_d4_153 : decode prog_16_method_4_code 153 = .ok (.goto 38, 3) := by decide +kernel
theorem own_d4_156 : decode prog_16_method_4_code 156 = .ok (.aload_n 2, 1) := by decide +kernel
theorem own_d4_157 : decode prog_16_method_4_code 157 = .ok (.iload 7, 2) := by decide +kernel
theorem own_d4_159 : decode prog_16_method_4_code 159 = .ok (.iload 8, 2) := by decide +kernel
theorem own_d4_161 : decode prog_16_method_4_code 161 = .ok (.iastore, 1) := by decide +kernel
theorem own_d4_162 : decode prog_16_method_4_code 162 = .ok (.aload_n 3, 1) := by decide +kernel
theorem own_d4_163 : decode prog_16_method_4_code 163 = .ok (.iload 7, 2) := by decide +kernel
theorem own_d4_165 : decode prog_16_method_4_code 165 = .ok (.aload_n 1, 1) := by decide +kernel
theorem own_d4_166 : decode prog_16_method_4_code 166 = .ok (.getfield 39, 3) := by decide +kernel
theorem own_d4_169 : decode prog_16_method_4_code 169 = .ok (.iload 6, 2) := by decide +kernel
theorem own_d4_171 : decode prog_16_method_4_code 171 = .ok (.aaload, 1) := by decide +kernel
theorem own_d4_172 : decode prog_16_method_4_code 172 = .ok (.aastore, 1) := by decide +kernel
theorem own_d4_173 : decode prog_16_method_4_code 173 = .ok (.aload 4, 2) := by decide +kernel
theorem own_d4_175 : decode prog_16_method_4_code 175 = .ok (.iload 7, 2) := by decide +kernel
theorem own_d4_177 : decode prog_16_method_4_code 177 = .ok (.aload_n 0, 1) := by decide +kernel
theorem own_d4_178 : decode prog_16_method_4_code 178 = .ok (.getfield 42, 3) := by decide +kernel
theorem own_d4_181 : decode prog_16_method_4_code 181 = .ok (.iload 5, 2) := by decide +kernel
theorem own_d4_183 : decode prog_16_method_4_code 183 = .ok (.aaload, 1) := by decide +kernel
theorem own_d4_184 : decode prog_16_method_4_code 184 = .ok (.aastore, 1) := by decide +kernel
theorem own_d4_185 : decode prog_16_method_4_code 185 = .ok (.iinc 5 1, 3) := by decide +kernel
theorem own_d4_188 : decode prog_16_method_4_code 188 = .ok (.iinc 6 1, 3) := by decide +kernel
theorem own_d4_191 : decode prog_16_method_4_code 191 = .ok (.iinc 7 1, 3) := by decide +kernel
theorem own_d4_194 : decode prog_16_method_4_code 194 = .ok (.goto (-158), 3) := by decide +kernel
theorem own_d4_197 : decode prog_16_method_4_code 197 = .ok (.new 2, 3) := by decide +kernel
theorem own_d4_200 : decode prog_16_method_4_code 200 = .ok (.dup, 1) := by decide +kernel
theorem own_d4_201 : decode prog_16_method_4_code 201 = .ok (.aload_n 0, 1) := by decide +kernel
theorem own_d4_202 : decode prog_16_method_4_code 202 = .ok (.getfield 15, 3) := by decide +kernel
theorem own_d4_205 : decode prog_16_method_4_code 205 = .ok (.aload_n 1, 1) := by decide +kernel
theorem own_d4_206 : decode prog_16_method_4_code 206 = .ok (.getfield 32, 3) := by decide +kernel
theorem own_d4_209 : decode prog_16_method_4_code 209 = .ok (.aload_n 1, 1) := by decide +kernel
theorem own_d4_210 : decode prog_16_method_4_code 210 = .ok (.getfield 35, 3) := by decide +kernel
theorem own_d4_213 : decode prog_16_method_4_code 213 = .ok (.aload_n 2, 1) := by decide +kernel
theorem own_d4_214 : decode prog_16_method_4_code 214 = .ok (.iload 7, 2) := by decide +kernel
theorem own_d4_216 : decode prog_16_method_4_code 216 = .ok (.invokestatic 53, 3) := by decide +kernel
theorem own_d4_219 : decode prog_16_method_4_code 219 = .ok (.aload_n 3, 1) := by decide +kernel
theorem own_d4_220 : decode prog_16_method_4_code 220 = .ok (.iload 7, 2) := by decide +kernel
theorem own_d4_222 : decode prog_16_method_4_code 222 = .ok (.invokestatic 59, 3) := by decide +kernel
theorem own_d4_225 : decode prog_16_method_4_code 225 = .ok (.aload 4, 2) := by decide +kernel
theorem own_d4_227 : decode prog_16_method_4_code 227 = .ok (.iload 7, 2) := by decide +kernel
theorem own_d4_229 : decode prog_16_method_4_code 229 = .ok (.invokestatic 59, 3) := by decide +kernel
theorem own_d4_232 : decode prog_16_method_4_code 232 = .ok (.aload_n 1, 1) := by decide +kernel
theorem own_d4_233 : decode prog_16_method_4_code 233 = .ok (.getfield 45, 3) := by decide +kernel
theorem own_d4_236 : decode prog_16_method_4_code 236 = .ok (.invokespecial 11, 3) := by decide +kernel
theorem own_d4_239 : decode prog_16_method_4_code 239 = .ok (.astore 8, 2) := by decide +kernel
theorem own_d4_241 : decode prog_16_method_4_code 241 = .ok (.aload 8, 2) := by decide +kernel
theorem own_d4_243 : decode prog_16_method_4_code 243 = .ok (.getstatic 62, 3) := by decide +kernel
theorem own_d4_246 : decode prog_16_method_4_code 246 = .ok (.putfield 68, 3) := by decide +kernel
theorem own_d4_249 : decode prog_16_method_4_code 249 = .ok (.aload 8, 2) := by decide +kernel
theorem own_d4_251 : decode prog_16_method_4_code 251 = .ok (.areturn, 1) := by decide +kernel
theorem own_pd_pLcom_example_palimpsest_palimpsest_core_OverwriteeLcom_example_palimpsest_palimpsest_core_OverwriteeqLcom_example_palimpsest_palimpsest_core_Overwritee : parseMethodDescriptor "(Lcom/example/palimpsest/palimpsest/core/Overwrite;Lcom/example/palimpsest/palimpsest/core/Overwrite;)Lcom/example/palimpsest/palimpsest/core/Overwrite;" = some ⟨[(.object "com/example/palimpsest/palimpsest/core/Overwrite"), (.object "com/example/palimpsest/palimpsest/core/Overwrite")], some (.object "com/example/palimpsest/palimpsest/core/Overwrite")⟩ := by decide +kernel
theorem own_ef_own_d4 (m : MethodId) (x0 : Addr) (x1 : Addr) : entryFrame m #[(.ref x0), (.ref x1)] 10 = mkF m 0 #[.val (.ref x0), .val (.ref x1), .unset, .unset, .unset, .unset, .unset, .unset, .unset, .unset] [] := by
  first | (simp [entryFrame, mkF, argsToLocals, Value.category]; done) | rfl
set_option maxRecDepth 65536 in
set_option maxHeartbeats 40000000 in
theorem own_fold (l : Launch) (Z : State) (a0 : Array Value) (hw : ∀ d ∈ tables_1, d.before a0 Z = true) (a b ni mr ip : Addr) (cn : ClassId) (x y : Int64) (SP : Sta Z Z.heap "com/example/palimpsest/palimpsest/core/Placement" "IN_PLACE" "Lcom/example/palimpsest/palimpsest/core/Placement;" (.ref ip)) (M : Mir Z "[Ljava/lang/Object;" mr) (h0 : Heap) (n0 : Nat) (O : Old Z n0 h0) (An : Ary Z h0 ni cn .int []) (Fa0 : Fld Z h0 a "com/example/palimpsest/palimpsest/core/Overwrite" "stamp" "J" (.long x)) (Fa3 : Fld Z h0 a "com/example/palimpsest/palimpsest/core/Overwrite" "indices" "[I" (.ref ni)) (Fb1 : Fld Z h0 b "com/example/palimpsest/palimpsest/core/Overwrite" "since" "J" (.long y)) (Fb2 : Fld Z h0 b "com/example/palimpsest/palimpsest/core/Overwrite" "first" "J" (.long y)) (Fb3 : Fld Z h0 b "com/example/palimpsest/palimpsest/core/Overwrite" "indices" "[I" (.ref ni)) (Fb6 : Fld Z h0 b "com/example/palimpsest/palimpsest/core/Overwrite" "older" "Lcom/example/palimpsest/palimpsest/core/Overwrite;" .null) :
    Ctr l Z n0 (⟨"com/example/palimpsest/palimpsest/core/Overwrite", "folded", "(Lcom/example/palimpsest/palimpsest/core/Overwrite;Lcom/example/palimpsest/palimpsest/core/Overwrite;)Lcom/example/palimpsest/palimpsest/core/Overwrite;"⟩ : MethodName) prog_16_method_4_code 10 (some (.object "com/example/palimpsest/palimpsest/core/Overwrite")) [] ({ frames := 3, cells := 7, slots := 9, locals := 56 } : Room) #[(.ref a), (.ref b)] h0 [] (fun v h => ∃ f d cd, v = some (.ref f) ∧ h0.size ≤ f ∧ f < d ∧ Exa Z h f "com/example/palimpsest/palimpsest/core/Overwrite" ∧ Fld Z h f "com/example/palimpsest/palimpsest/core/Overwrite" "indices" "[I" (.ref d) ∧ Ary Z h d cd .int []) := by
  refine enter (plainFor_of_name own_pn_com_example_palimpsest_palimpsest_core_Overwrite) (fun m => own_ef_own_d4 m a b) O (fun _ q => nomatch q) ?_
  intro p e s m below meth c T w
  refine i_aloadN w own_d4_0 rfl rfl (pc' := 1) rfl ?_
  refine i_getF w own_d4_1 (hw _ (List.mem_of_getElem? (i := 22) rfl)) Fa3 (pc' := 4) rfl ?_
  intro T24 w24
  refine i_len w24 own_d4_4 An (z := (0 : Int32)) rfl (pc' := 5) rfl ?_
  refine i_aloadN w24 own_d4_5 rfl rfl (pc' := 6) rfl ?_
  refine i_getF w24 own_d4_6 (hw _ (List.mem_of_getElem? (i := 22) rfl)) Fb3 (pc' := 9) rfl ?_
  intro T25 w25
  refine i_len w25 own_d4_9 An (z := (0 : Int32)) rfl (pc' := 10) rfl ?_
  refine i_iadd w25 own_d4_10 (pc' := 11) rfl ?_
  refine i_newPE w25 (ad := "[I") own_d4_11 (hw _ (List.mem_of_getElem? (i := 33) rfl)) (by decide) (N := 0) (by decide) (by decide) (cap := 0) (by decide) (by decide) (by decide) (by decide) (pc' := 13) rfl ?_
  intro c2 T26 h26 ca_c2 g_c2 w26 z_c2 E26 A_c2 X_c2
  show Goes p e below _ T26 (mkF m 13 #[.val (.ref a), .val (.ref b), .unset, .unset, .unset, .unset, .unset, .unset, .unset, .unset] [(.ref c2)])
  have lt_a_c2 : a < c2 := Nat.lt_of_lt_of_le Fa0.lt (Nat.le_of_eq g_c2.symm)
  have lt_b_c2 : b < c2 := Nat.lt_of_lt_of_le Fb1.lt (Nat.le_of_eq g_c2.symm)
  have lt_ni_c2 : ni < c2 := Nat.lt_of_lt_of_le An.lt (Nat.le_of_eq g_c2.symm)
  have Fa0_27 := Fa0.ext E26
  have Fa3_27 := Fa3.ext E26
  have Fb1_27 := Fb1.ext E26
  have Fb2_27 := Fb2.ext E26
  have Fb3_27 := Fb3.ext E26
  have Fb6_27 := Fb6.ext E26
  have An_27 := An.ext E26
  refine i_astoreN w26 own_d4_13 rfl (l' := #[.val (.ref a), .val (.ref b), .val (.ref c2), .unset, .unset, .unset, .unset, .unset, .unset, .unset]) rfl (pc' := 14) rfl ?_
  refine i_aloadN w26 own_d4_14 rfl rfl (pc' := 15) rfl ?_
  refine i_len w26 own_d4_15 A_c2 (z := (0 : Int32)) rfl (pc' := 16) rfl ?_
  refine i_newR w26 (ad := "[Ljava/lang/Object;") own_d4_16 (hw _ (List.mem_of_getElem? (i := 34) rfl)) (hw _ (List.mem_of_getElem? (i := 35) rfl)) (by decide) (N := 0) (by decide) (by decide) (cap := 0) (by decide) (by decide) (by decide) (by decide) (pc' := 19) rfl ?_
  intro c3 T28 h28 ca_c3 g_c3 w28 z_c3 E28 A_c3 X_c3 O_c3
  show Goes p e below _ T28 (mkF m 19 #[.val (.ref a), .val (.ref b), .val (.ref c2), .unset, .unset, .unset, .unset, .unset, .unset, .unset] [(.ref c3)])
  have lt_a_c3 : a < c3 := Nat.lt_of_lt_of_le Fa0_27.lt (Nat.le_of_eq g_c3.symm)
  have lt_b_c3 : b < c3 := Nat.lt_of_lt_of_le Fb1_27.lt (Nat.le_of_eq g_c3.symm)
  have lt_ni_c3 : ni < c3 := Nat.lt_of_lt_of_le An_27.lt (Nat.le_of_eq g_c3.symm)
  have lt_c2_c3 : c2 < c3 := Nat.lt_of_lt_of_le A_c2.lt (Nat.le_of_eq g_c3.symm)
  have Fa0_29 := Fa0_27.ext E28
  have Fa3_29 := Fa3_27.ext E28
  have Fb1_29 := Fb1_27.ext E28
  have Fb2_29 := Fb2_27.ext E28
  have Fb3_29 := Fb3_27.ext E28
  have Fb6_29 := Fb6_27.ext E28
  have An_29 := An_27.ext E28
  have A_c2_29 := A_c2.ext E28
  have X_c2_29 := X_c2.ext E28
  refine i_astoreN w28 own_d4_19 rfl (l' := #[.val (.ref a), .val (.ref b), .val (.ref c2), .val (.ref c3), .unset, .unset, .unset, .unset, .unset, .unset]) rfl (pc' := 20) rfl ?_
  refine i_aloadN w28 own_d4_20 rfl rfl (pc' := 21) rfl ?_
  refine i_len w28 own_d4_21 A_c2_29 (z := (0 : Int32)) rfl (pc' := 22) rfl ?_
  refine i_newR w28 (ad := "[Ljava/lang/Object;") own_d4_22 (hw _ (List.mem_of_getElem? (i := 34) rfl)) (hw _ (List.mem_of_getElem? (i := 35) rfl)) (by decide) (N := 0) (by decide) (by decide) (cap := 0) (by decide) (by decide) (by decide) (by decide) (pc' := 25) rfl ?_
  intro c4 T30 h30 ca_c4 g_c4 w30 z_c4 E30 A_c4 X_c4 O_c4
  show Goes p e below _ T30 (mkF m 25 #[.val (.ref a), .val (.ref b), .val (.ref c2), .val (.ref c3), .unset, .unset, .unset, .unset, .unset, .unset] [(.ref c4)])
  have lt_a_c4 : a < c4 := Nat.lt_of_lt_of_le Fa0_29.lt (Nat.le_of_eq g_c4.symm)
  have lt_b_c4 : b < c4 := Nat.lt_of_lt_of_le Fb1_29.lt (Nat.le_of_eq g_c4.symm)
  have lt_ni_c4 : ni < c4 := Nat.lt_of_lt_of_le An_29.lt (Nat.le_of_eq g_c4.symm)
  have lt_c2_c4 : c2 < c4 := Nat.lt_of_lt_of_le A_c2_29.lt (Nat.le_of_eq g_c4.symm)
  have lt_c3_c4 : c3 < c4 := Nat.lt_of_lt_of_le A_c3.lt (Nat.le_of_eq g_c4.symm)
  have Fa0_31 := Fa0_29.ext E30
  have Fa3_31 := Fa3_29.ext E30
  have Fb1_31 := Fb1_29.ext E30
  have Fb2_31 := Fb2_29.ext E30
  have Fb3_31 := Fb3_29.ext E30
  have Fb6_31 := Fb6_29.ext E30
  have An_31 := An_29.ext E30
  have A_c2_31 := A_c2_29.ext E30
  have X_c2_31 := X_c2_29.ext E30
  have A_c3_31 := A_c3.ext E30
  have X_c3_31 := X_c3.ext E30
  refine i_astore w30 own_d4_25 rfl (l' := #[.val (.ref a), .val (.ref b), .val (.ref c2), .val (.ref c3), .val (.ref c4), .unset, .unset, .unset, .unset, .unset]) rfl (pc' := 27) rfl ?_
  refine i_iconst w30 own_d4_27 (z := (0 : Int32)) (by decide) (pc' := 28) rfl ?_
  refine i_istore w30 own_d4_28 (l' := #[.val (.ref a), .val (.ref b), .val (.ref c2), .val (.ref c3), .val (.ref c4), .val (.int (0 : Int32)), .unset, .unset, .unset, .unset]) rfl (pc' := 30) rfl ?_
  refine i_iconst w30 own_d4_30 (z := (0 : Int32)) (by decide) (pc' := 31) rfl ?_
  refine i_istore w30 own_d4_31 (l' := #[.val (.ref a), .val (.ref b), .val (.ref c2), .val (.ref c3), .val (.ref c4), .val (.int (0 : Int32)), .val (.int (0 : Int32)), .unset, .unset, .unset]) rfl (pc' := 33) rfl ?_
  refine i_iconst w30 own_d4_33 (z := (0 : Int32)) (by decide) (pc' := 34) rfl ?_
  refine i_istore w30 own_d4_34 (l' := #[.val (.ref a), .val (.ref b), .val (.ref c2), .val (.ref c3), .val (.ref c4), .val (.int (0 : Int32)), .val (.int (0 : Int32)), .val (.int (0 : Int32)), .unset, .unset]) rfl (pc' := 36) rfl ?_
  refine i_iload w30 own_d4_36 rfl (pc' := 38) rfl ?_
  refine i_aloadN w30 own_d4_38 rfl rfl (pc' := 39) rfl ?_
  refine i_getF w30 own_d4_39 (hw _ (List.mem_of_getElem? (i := 22) rfl)) Fa3_31 (pc' := 42) rfl ?_
  intro T32 w32
  refine i_len w32 own_d4_42 An_31 (z := (0 : Int32)) rfl (pc' := 43) rfl ?_
  refine i_icmp_lt_N w32 (by decide) own_d4_43 (pc' := 46) rfl ?_
  refine i_iload w32 own_d4_46 rfl (pc' := 48) rfl ?_
  refine i_aloadN w32 own_d4_48 rfl rfl (pc' := 49) rfl ?_
  refine i_getF w32 own_d4_49 (hw _ (List.mem_of_getElem? (i := 22) rfl)) Fb3_31 (pc' := 52) rfl ?_
  intro T33 w33
  refine i_len w33 own_d4_52 An_31 (z := (0 : Int32)) rfl (pc' := 53) rfl ?_
  refine i_icmp_ge_Y w33 (by decide) own_d4_53 (pc' := 197) (by decide) ?_
  refine i_new w33 own_d4_197 (hw _ (List.mem_of_getElem? (i := 36) rfl)) (hw _ (List.mem_of_getElem? (i := 1) rfl)) (hw _ (List.mem_of_getElem? (i := 2) rfl)) (by decide) (by decide) (pc' := 200) rfl ?_
  intro f T34 h34 g_f w34 z_f E34 A_f D_f
  show Goes p e below _ T34 (mkF m 200 #[.val (.ref a), .val (.ref b), .val (.ref c2), .val (.ref c3), .val (.ref c4), .val (.int (0 : Int32)), .val (.int (0 : Int32)), .val (.int (0 : Int32)), .unset, .unset] [(.ref f)])
  have lt_a_f : a < f := Nat.lt_of_lt_of_le Fa0_31.lt (Nat.le_of_eq g_f.symm)
  have lt_b_f : b < f := Nat.lt_of_lt_of_le Fb1_31.lt (Nat.le_of_eq g_f.symm)
  have lt_ni_f : ni < f := Nat.lt_of_lt_of_le An_31.lt (Nat.le_of_eq g_f.symm)
  have lt_c2_f : c2 < f := Nat.lt_of_lt_of_le A_c2_31.lt (Nat.le_of_eq g_f.symm)
  have lt_c3_f : c3 < f := Nat.lt_of_lt_of_le A_c3_31.lt (Nat.le_of_eq g_f.symm)
  have lt_c4_f : c4 < f := Nat.lt_of_lt_of_le A_c4.lt (Nat.le_of_eq g_f.symm)
  have Fa0_35 := Fa0_31.ext E34
  have Fa3_35 := Fa3_31.ext E34
  have Fb1_35 := Fb1_31.ext E34
  have Fb2_35 := Fb2_31.ext E34
  have Fb3_35 := Fb3_31.ext E34
  have Fb6_35 := Fb6_31.ext E34
  have An_35 := An_31.ext E34
  have A_c2_35 := A_c2_31.ext E34
  have X_c2_35 := X_c2_31.ext E34
  have A_c3_35 := A_c3_31.ext E34
  have X_c3_35 := X_c3_31.ext E34
  have A_c4_35 := A_c4.ext E34
  have X_c4_35 := X_c4.ext E34
  have Ff0 : Fld Z h34 f "com/example/palimpsest/palimpsest/core/Overwrite" "stamp" "J" (.long 0) := D_f (Or.inr (hw _ (List.mem_of_getElem? (i := 17) rfl))) (ty := .long) (by decide)
  have Ff1 : Fld Z h34 f "com/example/palimpsest/palimpsest/core/Overwrite" "since" "J" (.long 0) := D_f (Or.inr (hw _ (List.mem_of_getElem? (i := 19) rfl))) (ty := .long) (by decide)
  have Ff2 : Fld Z h34 f "com/example/palimpsest/palimpsest/core/Overwrite" "first" "J" (.long 0) := D_f (Or.inr (hw _ (List.mem_of_getElem? (i := 21) rfl))) (ty := .long) (by decide)
  have Ff3 : Fld Z h34 f "com/example/palimpsest/palimpsest/core/Overwrite" "indices" "[I" .null := D_f (Or.inr (hw _ (List.mem_of_getElem? (i := 23) rfl))) (ty := (.array .int)) (by decide)
  have Ff4 : Fld Z h34 f "com/example/palimpsest/palimpsest/core/Overwrite" "oldValues" "[Ljava/lang/Object;" .null := D_f (Or.inr (hw _ (List.mem_of_getElem? (i := 25) rfl))) (ty := (.array (.object "java/lang/Object"))) (by decide)
  have Ff5 : Fld Z h34 f "com/example/palimpsest/palimpsest/core/Overwrite" "newValues" "[Ljava/lang/Object;" .null := D_f (Or.inr (hw _ (List.mem_of_getElem? (i := 27) rfl))) (ty := (.array (.object "java/lang/Object"))) (by decide)
  have Ff6 : Fld Z h34 f "com/example/palimpsest/palimpsest/core/Overwrite" "older" "Lcom/example/palimpsest/palimpsest/core/Overwrite;" .null := D_f (Or.inl (hw _ (List.mem_of_getElem? (i := 29) rfl))) (ty := (.object "com/example/palimpsest/palimpsest/core/Overwrite")) (by decide)
  have Ff7 : Fld Z h34 f "com/example/palimpsest/palimpsest/core/Overwrite" "placement" "Lcom/example/palimpsest/palimpsest/core/Placement;" .null := D_f (Or.inl (hw _ (List.mem_of_getElem? (i := 76) rfl))) (ty := (.object "com/example/palimpsest/palimpsest/core/Placement")) (by decide)
  refine i_dup w34 own_d4_200 rfl (pc' := 201) rfl ?_
  refine i_aloadN w34 own_d4_201 rfl rfl (pc' := 202) rfl ?_
  refine i_getF w34 own_d4_202 (hw _ (List.mem_of_getElem? (i := 16) rfl)) Fa0_35 (pc' := 205) rfl ?_
  intro T36 w36
  refine i_aloadN w36 own_d4_205 rfl rfl (pc' := 206) rfl ?_
  refine i_getF w36 own_d4_206 (hw _ (List.mem_of_getElem? (i := 18) rfl)) Fb1_35 (pc' := 209) rfl ?_
  intro T37 w37
  refine i_aloadN w37 own_d4_209 rfl rfl (pc' := 210) rfl ?_
  refine i_getF w37 own_d4_210 (hw _ (List.mem_of_getElem? (i := 20) rfl)) Fb2_35 (pc' := 213) rfl ?_
  intro T38 w38
  refine i_aloadN w38 own_d4_213 rfl rfl (pc' := 214) rfl ?_
  refine i_iload w38 own_d4_214 rfl (pc' := 216) rfl ?_
  refine c_static w38 (y := (⟨"java/util/Arrays", "copyOf", "([II)[I"⟩ : MethodName)) (argsL := [(.ref c2), (.int (0 : Int32))]) (st := [(.long y), (.long y), (.long x), (.ref f), (.ref f)]) own_d4_216 (hw _ (List.mem_of_getElem? (i := 37) rfl)) (hw _ (List.mem_of_getElem? (i := 38) rfl)) (hw _ (List.mem_of_getElem? (i := 39) rfl)) (hw _ (List.mem_of_getElem? (i := 40) rfl)) (by decide) own_pd_pAIIqAI rfl (own_cpI l Z a0 hw c2 ca_c2 h34 n0 w38.old A_c2_35 X_c2_35) rfl (by decide) (W := 8) (Nat.le_of_eq rfl) (by decide) (by decide) (by decide) (fun _ q => nomatch q) (pc' := 219) rfl ?_
  intro v39 T39 h39 w39 K39 q39
  obtain ⟨d2, cd2, rfl, zd2, Ad2⟩ := q39
  show Goes p e below _ T39 (mkF m 219 #[.val (.ref a), .val (.ref b), .val (.ref c2), .val (.ref c3), .val (.ref c4), .val (.int (0 : Int32)), .val (.int (0 : Int32)), .val (.int (0 : Int32)), .unset, .unset] [(.ref d2), (.long y), (.long y), (.long x), (.ref f), (.ref f)])
  have lt_a_d2 : a < d2 := Nat.lt_of_lt_of_le Fa0_35.lt zd2
  have lt_b_d2 : b < d2 := Nat.lt_of_lt_of_le Fb1_35.lt zd2
  have lt_ni_d2 : ni < d2 := Nat.lt_of_lt_of_le An_35.lt zd2
  have lt_c2_d2 : c2 < d2 := Nat.lt_of_lt_of_le A_c2_35.lt zd2
  have lt_c3_d2 : c3 < d2 := Nat.lt_of_lt_of_le A_c3_35.lt zd2
  have lt_c4_d2 : c4 < d2 := Nat.lt_of_lt_of_le A_c4_35.lt zd2
  have lt_f_d2 : f < d2 := Nat.lt_of_lt_of_le A_f.lt zd2
  have Fa0_40 := Fa0_35.keep K39 nin0
  have Fa3_40 := Fa3_35.keep K39 nin0
  have Fb1_40 := Fb1_35.keep K39 nin0
  have Fb2_40 := Fb2_35.keep K39 nin0
  have Fb3_40 := Fb3_35.keep K39 nin0
  have Fb6_40 := Fb6_35.keep K39 nin0
  have An_40 := An_35.keep K39 nin0
  have A_c2_40 := A_c2_35.keep K39 nin0
  have X_c2_40 := X_c2_35.keep K39
  have A_c3_40 := A_c3_35.keep K39 nin0
  have X_c3_40 := X_c3_35.keep K39
  have A_c4_40 := A_c4_35.keep K39 nin0
  have X_c4_40 := X_c4_35.keep K39
  have E_f_40 := A_f.keep K39
  have Ff0_40 := Ff0.keep K39 nin0
  have Ff1_40 := Ff1.keep K39 nin0
  have Ff2_40 := Ff2.keep K39 nin0
  have Ff3_40 := Ff3.keep K39 nin0
  have Ff4_40 := Ff4.keep K39 nin0
  have Ff5_40 := Ff5.keep K39 nin0
  have Ff6_40 := Ff6.keep K39 nin0
  have Ff7_40 := Ff7.keep K39 nin0
  refine i_aloadN w39 own_d4_219 rfl rfl (pc' := 220) rfl ?_
  refine i_iload w39 own_d4_220 rfl (pc' := 222) rfl ?_
  refine c_static w39 (y := (⟨"java/util/Arrays", "copyOf", "([Ljava/lang/Object;I)[Ljava/lang/Object;"⟩ : MethodName)) (argsL := [(.ref c3), (.int (0 : Int32))]) (st := [(.ref d2), (.long y), (.long y), (.long x), (.ref f), (.ref f)]) own_d4_222 (hw _ (List.mem_of_getElem? (i := 50) rfl)) (hw _ (List.mem_of_getElem? (i := 51) rfl)) (hw _ (List.mem_of_getElem? (i := 39) rfl)) (hw _ (List.mem_of_getElem? (i := 52) rfl)) (by decide) own_pd_pALjava_lang_ObjecteIqALjava_lang_Objecte rfl (own_cpO l Z a0 hw c3 mr ca_c3 h39 n0 w39.old A_c3_40 X_c3_40 M) rfl (by decide) (W := 9) (Nat.le_of_eq rfl) (by decide) (by decide) (by decide) (fun _ q => nomatch q) (pc' := 225) rfl ?_
  intro v41 T41 h41 w41 K41 q41
  obtain ⟨d3, cd3, rfl, zd3, Ad3⟩ := q41
  show Goes p e below _ T41 (mkF m 225 #[.val (.ref a), .val (.ref b), .val (.ref c2), .val (.ref c3), .val (.ref c4), .val (.int (0 : Int32)), .val (.int (0 : Int32)), .val (.int (0 : Int32)), .unset, .unset] [(.ref d3), (.ref d2), (.long y), (.long y), (.long x), (.ref f), (.ref f)])
  have lt_a_d3 : a < d3 := Nat.lt_of_lt_of_le Fa0_40.lt zd3
  have lt_b_d3 : b < d3 := Nat.lt_of_lt_of_le Fb1_40.lt zd3
  have lt_ni_d3 : ni < d3 := Nat.lt_of_lt_of_le An_40.lt zd3
  have lt_c2_d3 : c2 < d3 := Nat.lt_of_lt_of_le A_c2_40.lt zd3
  have lt_c3_d3 : c3 < d3 := Nat.lt_of_lt_of_le A_c3_40.lt zd3
  have lt_c4_d3 : c4 < d3 := Nat.lt_of_lt_of_le A_c4_40.lt zd3
  have lt_f_d3 : f < d3 := Nat.lt_of_lt_of_le E_f_40.lt zd3
  have lt_d2_d3 : d2 < d3 := Nat.lt_of_lt_of_le Ad2.lt zd3
  have Fa0_42 := Fa0_40.keep K41 nin0
  have Fa3_42 := Fa3_40.keep K41 nin0
  have Fb1_42 := Fb1_40.keep K41 nin0
  have Fb2_42 := Fb2_40.keep K41 nin0
  have Fb3_42 := Fb3_40.keep K41 nin0
  have Fb6_42 := Fb6_40.keep K41 nin0
  have An_42 := An_40.keep K41 nin0
  have A_c2_42 := A_c2_40.keep K41 nin0
  have X_c2_42 := X_c2_40.keep K41
  have A_c3_42 := A_c3_40.keep K41 nin0
  have X_c3_42 := X_c3_40.keep K41
  have A_c4_42 := A_c4_40.keep K41 nin0
  have X_c4_42 := X_c4_40.keep K41
  have E_f_42 := E_f_40.keep K41
  have Ff0_42 := Ff0_40.keep K41 nin0
  have Ff1_42 := Ff1_40.keep K41 nin0
  have Ff2_42 := Ff2_40.keep K41 nin0
  have Ff3_42 := Ff3_40.keep K41 nin0
  have Ff4_42 := Ff4_40.keep K41 nin0
  have Ff5_42 := Ff5_40.keep K41 nin0
  have Ff6_42 := Ff6_40.keep K41 nin0
  have Ff7_42 := Ff7_40.keep K41 nin0
  have Ad2_42 := Ad2.keep K41 nin0
  refine i_aload w41 own_d4_225 rfl rfl (pc' := 227) rfl ?_
  refine i_iload w41 own_d4_227 rfl (pc' := 229) rfl ?_
  refine c_static w41 (y := (⟨"java/util/Arrays", "copyOf", "([Ljava/lang/Object;I)[Ljava/lang/Object;"⟩ : MethodName)) (argsL := [(.ref c4), (.int (0 : Int32))]) (st := [(.ref d3), (.ref d2), (.long y), (.long y), (.long x), (.ref f), (.ref f)]) own_d4_229 (hw _ (List.mem_of_getElem? (i := 50) rfl)) (hw _ (List.mem_of_getElem? (i := 51) rfl)) (hw _ (List.mem_of_getElem? (i := 39) rfl)) (hw _ (List.mem_of_getElem? (i := 52) rfl)) (by decide) own_pd_pALjava_lang_ObjecteIqALjava_lang_Objecte rfl (own_cpO l Z a0 hw c4 mr ca_c4 h41 n0 w41.old A_c4_42 X_c4_42 M) rfl (by decide) (W := 10) (Nat.le_of_eq rfl) (by decide) (by decide) (by decide) (fun _ q => nomatch q) (pc' := 232) rfl ?_
  intro v43 T43 h43 w43 K43 q43
  obtain ⟨d4, cd4, rfl, zd4, Ad4⟩ := q43
  show Goes p e below _ T43 (mkF m 232 #[.val (.ref a), .val (.ref b), .val (.ref c2), .val (.ref c3), .val (.ref c4), .val (.int (0 : Int32)), .val (.int (0 : Int32)), .val (.int (0 : Int32)), .unset, .unset] [(.ref d4), (.ref d3), (.ref d2), (.long y), (.long y), (.long x), (.ref f), (.ref f)])
  have lt_a_d4 : a < d4 := Nat.lt_of_lt_of_le Fa0_42.lt zd4
  have lt_b_d4 : b < d4 := Nat.lt_of_lt_of_le Fb1_42.lt zd4
  have lt_ni_d4 : ni < d4 := Nat.lt_of_lt_of_le An_42.lt zd4
  have lt_c2_d4 : c2 < d4 := Nat.lt_of_lt_of_le A_c2_42.lt zd4
  have lt_c3_d4 : c3 < d4 := Nat.lt_of_lt_of_le A_c3_42.lt zd4
  have lt_c4_d4 : c4 < d4 := Nat.lt_of_lt_of_le A_c4_42.lt zd4
  have lt_f_d4 : f < d4 := Nat.lt_of_lt_of_le E_f_42.lt zd4
  have lt_d2_d4 : d2 < d4 := Nat.lt_of_lt_of_le Ad2_42.lt zd4
  have Fa0_44 := Fa0_42.keep K43 nin0
  have Fa3_44 := Fa3_42.keep K43 nin0
  have Fb1_44 := Fb1_42.keep K43 nin0
  have Fb2_44 := Fb2_42.keep K43 nin0
  have Fb3_44 := Fb3_42.keep K43 nin0
  have Fb6_44 := Fb6_42.keep K43 nin0
  have An_44 := An_42.keep K43 nin0
  have A_c2_44 := A_c2_42.keep K43 nin0
  have X_c2_44 := X_c2_42.keep K43
  have A_c3_44 := A_c3_42.keep K43 nin0
  have X_c3_44 := X_c3_42.keep K43
  have A_c4_44 := A_c4_42.keep K43 nin0
  have X_c4_44 := X_c4_42.keep K43
  have E_f_44 := E_f_42.keep K43
  have Ff0_44 := Ff0_42.keep K43 nin0
  have Ff1_44 := Ff1_42.keep K43 nin0
  have Ff2_44 := Ff2_42.keep K43 nin0
  have Ff3_44 := Ff3_42.keep K43 nin0
  have Ff4_44 := Ff4_42.keep K43 nin0
  have Ff5_44 := Ff5_42.keep K43 nin0
  have Ff6_44 := Ff6_42.keep K43 nin0
  have Ff7_44 := Ff7_42.keep K43 nin0
  have Ad2_44 := Ad2_42.keep K43 nin0
  refine i_aloadN w43 own_d4_232 rfl rfl (pc' := 233) rfl ?_
  refine i_getF w43 own_d4_233 (hw _ (List.mem_of_getElem? (i := 28) rfl)) Fb6_44 (pc' := 236) rfl ?_
  intro T45 w45
  refine c_special w45 (y := (⟨"com/example/palimpsest/palimpsest/core/Overwrite", "<init>", "(JJJ[I[Ljava/lang/Object;[Ljava/lang/Object;Lcom/example/palimpsest/palimpsest/core/Overwrite;)V"⟩ : MethodName)) (a := f) (argsL := [(.long x), (.long y), (.long y), (.ref d2), (.ref d3), (.ref d4), .null]) (st := [(.ref f)]) own_d4_236 rfl (hw _ (List.mem_of_getElem? (i := 10) rfl)) (hw _ (List.mem_of_getElem? (i := 11) rfl)) (hw _ (List.mem_of_getElem? (i := 2) rfl)) (hw _ (List.mem_of_getElem? (i := 12) rfl)) (by decide) own_pd_pJJJAIALjava_lang_ObjecteALjava_lang_ObjecteLcom_example_palimpsest_palimpsest_core_OverwriteeqV rfl (own_ini2 l Z a0 hw f x y y d2 d3 d4 h43 n0 w45.old (Nat.le_trans w45.n0h0 z_f) E_f_44 Ff0_44 Ff1_44 Ff2_44 Ff3_44 Ff4_44 Ff5_44 Ff6_44 Ff7_44) rfl (by decide) (W := 1) (Nat.le_of_eq rfl) (by decide) (by decide) (by decide) (allS (Or.inr z_f) all0) (pc' := 239) rfl ?_
  intro v46 T46 h46 w46 K46 q46
  obtain ⟨rfl, Ef2, G0, G1, G2, G3, G4, G5, G6, G7⟩ := q46
  show Goes p e below _ T46 (mkF m 239 #[.val (.ref a), .val (.ref b), .val (.ref c2), .val (.ref c3), .val (.ref c4), .val (.int (0 : Int32)), .val (.int (0 : Int32)), .val (.int (0 : Int32)), .unset, .unset] [(.ref f)])
  have Fa0_47 := Fa0_44.keep K46 (ninS (Nat.ne_of_lt lt_a_f) nin0)
  have Fa3_47 := Fa3_44.keep K46 (ninS (Nat.ne_of_lt lt_a_f) nin0)
  have Fb1_47 := Fb1_44.keep K46 (ninS (Nat.ne_of_lt lt_b_f) nin0)
  have Fb2_47 := Fb2_44.keep K46 (ninS (Nat.ne_of_lt lt_b_f) nin0)
  have Fb3_47 := Fb3_44.keep K46 (ninS (Nat.ne_of_lt lt_b_f) nin0)
  have Fb6_47 := Fb6_44.keep K46 (ninS (Nat.ne_of_lt lt_b_f) nin0)
  have An_47 := An_44.keep K46 (ninS (Nat.ne_of_lt lt_ni_f) nin0)
  have A_c2_47 := A_c2_44.keep K46 (ninS (Nat.ne_of_lt lt_c2_f) nin0)
  have X_c2_47 := X_c2_44.keep K46
  have A_c3_47 := A_c3_44.keep K46 (ninS (Nat.ne_of_lt lt_c3_f) nin0)
  have X_c3_47 := X_c3_44.keep K46
  have A_c4_47 := A_c4_44.keep K46 (ninS (Nat.ne_of_lt lt_c4_f) nin0)
  have X_c4_47 := X_c4_44.keep K46
  have E_f_47 := E_f_44.keep K46
  have Ad2_47 := Ad2_44.keep K46 (ninS (Nat.ne_of_gt lt_f_d2) nin0)
  refine i_astore w46 own_d4_239 rfl (l' := #[.val (.ref a), .val (.ref b), .val (.ref c2), .val (.ref c3), .val (.ref c4), .val (.int (0 : Int32)), .val (.int (0 : Int32)), .val (.int (0 : Int32)), .val (.ref f), .unset]) rfl (pc' := 241) rfl ?_
  refine i_aload w46 own_d4_241 rfl rfl (pc' := 243) rfl ?_
  refine i_getS w46 own_d4_243 (hw _ (List.mem_of_getElem? (i := 72) rfl)) SP (pc' := 246) rfl ?_
  intro T48 w48
  refine i_putF w48 own_d4_246 (hw _ (List.mem_of_getElem? (i := 75) rfl)) G7 Ef2 (Or.inl (hw _ (List.mem_of_getElem? (i := 76) rfl))) (hw _ (List.mem_of_getElem? (i := 1) rfl)) (ty := (.object "com/example/palimpsest/palimpsest/core/Placement")) (by decide) rfl rfl (Or.inr z_f) (pc' := 249) rfl ?_
  intro T49 h49 w49 W49
  show Goes p e below _ T49 (mkF m 249 #[.val (.ref a), .val (.ref b), .val (.ref c2), .val (.ref c3), .val (.ref c4), .val (.int (0 : Int32)), .val (.int (0 : Int32)), .val (.int (0 : Int32)), .val (.ref f), .unset] [])
  have Ef3 := Ef2.wr W49
  have G3' := G3.other W49 (Or.inr (slot_ne (Or.inr (hw _ (List.mem_of_getElem? (i := 23) rfl))) (Or.inl (hw _ (List.mem_of_getElem? (i := 76) rfl))) (by decide) (t := (.array .int)) (t' := (.object "com/example/palimpsest/palimpsest/core/Placement")) (by decide) (by decide)))
  have Ad3 := Ad2_47.other W49 (Nat.ne_of_gt lt_f_d2)
  refine i_aload w49 own_d4_249 rfl rfl (pc' := 251) rfl ?_
  exact i_retA w49 own_d4_251 rfl rfl rfl ⟨f, d2, cd2, rfl, z_f, lt_f_d2, Ef3, G3', Ad3⟩ (by decide) (by decide)
theorem own_d9_0 : decode prog_16_method_6_code 0 = .ok (.aload_n 0, 1) := by decide +kernel
theorem own_d9_1 : decode prog_16_method_6_code 1 = .ok (.getfield 38, 3) := by decide +kernel
theorem own_d9_4 : decode prog_16_method_6_code 4 = .ok (.arraylength, 1) := by decide +kernel
theorem own_d9_5 : decode prog_16_method_6_code 5 = .ok (.ifCond .ne 7, 3) := by decide +kernel
theorem own_d9_8 : decode prog_16_method_6_code 8 = .ok (.iconst 1, 1) := by decide +kernel
theorem own_d9_9 : decode prog_16_method_6_code 9 = .ok (.goto 4, 3) := by decide +kernel
theorem own_d9_12 : decode prog_16_method_6_code 12 = .ok (.iconst 0, 1) := by decide +kernel
theorem own_d9_13 : decode prog_16_method_6_code 13 = .ok (.ireturn, 1) := by decide +kernel
theorem own_pd_pqZ : parseMethodDescriptor "()Z" = some ⟨[], some .boolean⟩ := by decide +kernel
theorem own_ef_own_d9 (m : MethodId) (x0 : Addr) : entryFrame m #[(.ref x0)] 1 = mkF m 0 #[.val (.ref x0)] [] := by
  first | (simp [entryFrame, mkF, argsToLocals, Value.category]; done) | rfl
set_option maxRecDepth 65536 in
set_option maxHeartbeats 40000000 in
theorem own_emp (l : Launch) (Z : State) (a0 : Array Value) (hw : ∀ d ∈ tables_1, d.before a0 Z = true) (a t : Addr) (ct : ClassId) (h0 : Heap) (n0 : Nat) (O : Old Z n0 h0) (F : Fld Z h0 a "com/example/palimpsest/palimpsest/core/Overwrite" "indices" "[I" (.ref t)) (At : Ary Z h0 t ct .int []) :
    Ctr l Z n0 (⟨"com/example/palimpsest/palimpsest/core/Overwrite", "isEmpty", "()Z"⟩ : MethodName) prog_16_method_6_code 1 (some .boolean) [] ({ frames := 0, cells := 0, slots := 0, locals := 0 } : Room) #[(.ref a)] h0 [] (fun v h => v = some (.int 1) ∧ h0 = h) := by
  refine enter (plainFor_of_name own_pn_com_example_palimpsest_palimpsest_core_Overwrite) (fun m => own_ef_own_d9 m a) O (fun _ q => nomatch q) ?_
  intro p e s m below meth c T w
  refine i_aloadN w own_d9_0 rfl rfl (pc' := 1) rfl ?_
  refine i_getF w own_d9_1 (hw _ (List.mem_of_getElem? (i := 22) rfl)) F (pc' := 4) rfl ?_
  intro T50 w50
  refine i_len w50 own_d9_4 At (z := (0 : Int32)) rfl (pc' := 5) rfl ?_
  refine i_if_ne_N w50 rfl own_d9_5 (pc' := 8) rfl ?_
  refine i_iconst w50 own_d9_8 (z := (1 : Int32)) (by decide) (pc' := 9) rfl ?_
  refine i_goto w50 own_d9_9 (pc' := 13) (by decide) ?_
  exact i_retN w50 own_d9_13 rfl (by simp) ⟨rfl, rfl⟩ (by decide) (by decide)
theorem own_d12_0 : decode jdk_65_method_59_code 0 = .ok (.iload_n 1, 1) := by decide +kernel
theorem own_d12_1 : decode jdk_65_method_59_code 1 = .ok (.istore 4, 2) := by decide +kernel
theorem own_d12_3 : decode jdk_65_method_59_code 3 = .ok (.iload_n 2, 1) := by decide +kernel
theorem own_d12_4 : decode jdk_65_method_59_code 4 = .ok (.iconst 1, 1) := by decide +kernel
theorem own_d12_5 : decode jdk_65_method_59_code 5 = .ok (.isub, 1) := by decide +kernel
theorem own_d12_6 : decode jdk_65_method_59_code 6 = .ok (.istore 5, 2) := by decide +kernel
theorem own_d12_8 : decode jdk_65_method_59_code 8 = .ok (.iload 4, 2) := by decide +kernel
theorem own_d12_10 : decode jdk_65_method_59_code 10 = .ok (.iload 5, 2) := by decide +kernel
theorem own_d12_12 : decode jdk_65_method_59_code 12 = .ok (.if_icmp .gt 54, 3) := by decide +kernel
theorem own_d12_15 : decode jdk_65_method_59_code 15 = .ok (.iload 4, 2) := by decide +kernel
theorem own_d12_17 : decode jdk_65_method_59_code 17 = .ok (.iload 5, 2) := by decide +kernel
theorem own_d12_19 : decode jdk_65_method_59_code 19 = .ok (.iadd, 1) := by decide +kernel
theorem own_d12_20 : decode jdk_65_method_59_code 20 = .ok (.iconst 1, 1) := by decide +kernel
theorem own_d12_21 : decode jdk_65_method_59_code 21 = .ok (.iushr, 1) := by decide +kernel
theorem own_d12_22 : decode jdk_65_method_59_code 22 = .ok (.istore 6, 2) := by decide +kernel
theorem own_d12_24 : decode jdk_65_method_59_code 24 = .ok (.aload_n 0, 1) := by decide +kernel
theorem own_d12_25 : decode jdk_65_method_59_code 25 = .ok (.iload 6, 2) := by decide +kernel
theorem own_d12_27 : decode jdk_65_method_59_code 27 = .ok (.iaload, 1) := by decide +kernel
theorem own_d12_28 : decode jdk_65_method_59_code 28 = .ok (.istore 7, 2) := by decide +kernel
theorem own_d12_30 : decode jdk_65_method_59_code 30 = .ok (.iload 7, 2) := by decide +kernel
theorem own_d12_32 : decode jdk_65_method_59_code 32 = .ok (.iload_n 3, 1) := by decide +kernel
theorem own_d12_33 : decode jdk_65_method_59_code 33 = .ok (.if_icmp .ge 12, 3) := by decide +kernel
theorem own_d12_36 : decode jdk_65_method_59_code 36 = .ok (.iload 6, 2) := by decide +kernel
theorem own_d12_38 : decode jdk_65_method_59_code 38 = .ok (.iconst 1, 1) := by decide +kernel
theorem own_d12_39 : decode jdk_65_method_59_code 39 = .ok (.iadd, 1) := by decide +kernel
theorem own_d12_40 : decode jdk_65_method_59_code 40 = .ok (.istore 4, 2) := by decide +kernel
theorem own_d12_42 : decode jdk_65_method_59_code 42 = .ok (.goto 21, 3) := by decide +kernel
theorem own_d12_45 : decode jdk_65_method_59_code 45 = .ok (.iload 7, 2) := by decide +kernel
theorem own_d12_47 : decode jdk_65_method_59_code 47 = .ok (.iload_n 3, 1) := by decide +kernel
theorem own_d12_48 : decode jdk_65_method_59_code 48 = .ok (.if_icmp .le 12, 3) := by decide +kernel
theorem own_d12_51 : decode jdk_65_method_59_code 51 = .ok (.iload 6, 2) := by decide +kernel
theorem own_d12_53 : decode jdk_65_method_59_code 53 = .ok (.iconst 1, 1) := by decide +kernel
theorem own_d12_54 : decode jdk_65_method_59_code 54 = .ok (.isub, 1) := by decide +kernel
theorem own_d12_55 : decode jdk_65_method_59_code 55 = .ok (.istore 5, 2) := by decide +kernel
theorem own_d12_57 : decode jdk_65_method_59_code 57 = .ok (.goto 6, 3) := by decide +kernel
theorem own_d12_60 : decode jdk_65_method_59_code 60 = .ok (.iload 6, 2) := by decide +kernel
theorem own_d12_62 : decode jdk_65_method_59_code 62 = .ok (.ireturn, 1) := by decide +kernel
theorem own_d12_63 : decode jdk_65_method_59_code 63 = .ok (.goto (-55), 3) := by decide +kernel
theorem own_d12_66 : decode jdk_65_method_59_code 66 = .ok (.iload 4, 2) := by decide +kernel
theorem own_d12_68 : decode jdk_65_method_59_code 68 = .ok (.iconst 1, 1) := by decide +kernel
theorem own_d12_69 : decode jdk_65_method_59_code 69 = .ok (.iadd, 1) := by decide +kernel
theorem own_d12_70 : decode jdk_65_method_59_code 70 = .ok (.ineg, 1) := by decide +kernel
theorem own_d12_71 : decode jdk_65_method_59_code 71 = .ok (.ireturn, 1) := by decide +kernel
theorem own_pd_pAIIIIqI : parseMethodDescriptor "([IIII)I" = some ⟨[(.array .int), .int, .int, .int], some .int⟩ := by decide +kernel
theorem own_ef_own_d12 (m : MethodId) (x0 : Addr) (x1 : Int32) (x2 : Int32) (x3 : Int32) : entryFrame m #[(.ref x0), (.int x1), (.int x2), (.int x3)] 8 = mkF m 0 #[.val (.ref x0), .val (.int x1), .val (.int x2), .val (.int x3), .unset, .unset, .unset, .unset] [] := by
  first | (simp [entryFrame, mkF, argsToLocals, Value.category]; done) | rfl
set_option maxRecDepth 65536 in
set_option maxHeartbeats 40000000 in
theorem own_bs0 (l : Launch) (Z : State) (a0 : Array Value) (hw : ∀ d ∈ tables_1, d.before a0 Z = true) (t : Addr) (x : Int32) (h0 : Heap) (n0 : Nat) (O : Old Z n0 h0)  :
    Ctr l Z n0 (⟨"java/util/Arrays", "binarySearch0", "([IIII)I"⟩ : MethodName) jdk_65_method_59_code 8 (some .int) [] ({ frames := 0, cells := 0, slots := 0, locals := 0 } : Room) #[(.ref t), (.int (0 : Int32)), (.int (0 : Int32)), (.int x)] h0 [] (fun v h => v = some (.int (-1)) ∧ h0 = h) := by
  refine enter (plainFor_of_name own_pn_java_util_Arrays) (fun m => own_ef_own_d12 m t (0 : Int32) (0 : Int32) x) O (fun _ q => nomatch q) ?_
  intro p e s m below meth c T w
  refine i_iloadN w own_d12_0 rfl (pc' := 1) rfl ?_
  refine i_istore w own_d12_1 (l' := #[.val (.ref t), .val (.int (0 : Int32)), .val (.int (0 : Int32)), .val (.int x), .val (.int (0 : Int32)), .unset, .unset, .unset]) rfl (pc' := 3) rfl ?_
  refine i_iloadN w own_d12_3 rfl (pc' := 4) rfl ?_
  refine i_iconst w own_d12_4 (z := (1 : Int32)) (by decide) (pc' := 5) rfl ?_
  refine i_isub w own_d12_5 (pc' := 6) rfl ?_
  refine i_istore w own_d12_6 (l' := #[.val (.ref t), .val (.int (0 : Int32)), .val (.int (0 : Int32)), .val (.int x), .val (.int (0 : Int32)), .val (.int ((0 : Int32) - (1 : Int32))), .unset, .unset]) rfl (pc' := 8) rfl ?_
  refine i_iload w own_d12_8 rfl (pc' := 10) rfl ?_
  refine i_iload w own_d12_10 rfl (pc' := 12) rfl ?_
  refine i_icmp_gt_Y w (by decide) own_d12_12 (pc' := 66) (by decide) ?_
  refine i_iload w own_d12_66 rfl (pc' := 68) rfl ?_
  refine i_iconst w own_d12_68 (z := (1 : Int32)) (by decide) (pc' := 69) rfl ?_
  refine i_iadd w own_d12_69 (pc' := 70) rfl ?_
  refine i_ineg w own_d12_70 (pc' := 71) rfl ?_
  exact i_retI w own_d12_71 rfl ⟨by decide, rfl⟩ (by decide) (by decide)
theorem own_d11_0 : decode jdk_65_method_57_code 0 = .ok (.aload_n 0, 1) := by decide +kernel
theorem own_d11_1 : decode jdk_65_method_57_code 1 = .ok (.iconst 0, 1) := by decide +kernel
theorem own_d11_2 : decode jdk_65_method_57_code 2 = .ok (.aload_n 0, 1) := by decide +kernel
theorem own_d11_3 : decode jdk_65_method_57_code 3 = .ok (.arraylength, 1) := by decide +kernel
theorem own_d11_4 : decode jdk_65_method_57_code 4 = .ok (.iload_n 1, 1) := by decide +kernel
theorem own_d11_5 : decode jdk_65_method_57_code 5 = .ok (.invokestatic 209, 3) := by decide +kernel
theorem own_d11_8 : decode jdk_65_method_57_code 8 = .ok (.ireturn, 1) := by decide +kernel
theorem own_pd_pAIIqI : parseMethodDescriptor "([II)I" = some ⟨[(.array .int), .int], some .int⟩ := by decide +kernel
theorem own_ef_own_d11 (m : MethodId) (x0 : Addr) (x1 : Int32) : entryFrame m #[(.ref x0), (.int x1)] 2 = mkF m 0 #[.val (.ref x0), .val (.int x1)] [] := by
  first | (simp [entryFrame, mkF, argsToLocals, Value.category]; done) | rfl
set_option maxRecDepth 65536 in
set_option maxHeartbeats 40000000 in
theorem own_bs (l : Launch) (Z : State) (a0 : Array Value) (hw : ∀ d ∈ tables_1, d.before a0 Z = true) (t : Addr) (ct : ClassId) (x : Int32) (h0 : Heap) (n0 : Nat) (O : Old Z n0 h0) (At : Ary Z h0 t ct .int []) :
    Ctr l Z n0 (⟨"java/util/Arrays", "binarySearch", "([II)I"⟩ : MethodName) jdk_65_method_57_code 2 (some .int) [] ({ frames := 1, cells := 0, slots := 0, locals := 19 } : Room) #[(.ref t), (.int x)] h0 [] (fun v h => v = some (.int (-1)) ∧ h0 = h) := by
  refine enter (plainFor_of_name own_pn_java_util_Arrays) (fun m => own_ef_own_d11 m t x) O (fun _ q => nomatch q) ?_
  intro p e s m below meth c T w
  refine i_aloadN w own_d11_0 rfl rfl (pc' := 1) rfl ?_
  refine i_iconst w own_d11_1 (z := (0 : Int32)) (by decide) (pc' := 2) rfl ?_
  refine i_aloadN w own_d11_2 rfl rfl (pc' := 3) rfl ?_
  refine i_len w own_d11_3 At (z := (0 : Int32)) rfl (pc' := 4) rfl ?_
  refine i_iloadN w own_d11_4 rfl (pc' := 5) rfl ?_
  refine c_static w (y := (⟨"java/util/Arrays", "binarySearch0", "([IIII)I"⟩ : MethodName)) (argsL := [(.ref t), (.int (0 : Int32)), (.int (0 : Int32)), (.int x)]) (st := []) own_d11_5 (hw _ (List.mem_of_getElem? (i := 90) rfl)) (hw _ (List.mem_of_getElem? (i := 91) rfl)) (hw _ (List.mem_of_getElem? (i := 39) rfl)) (hw _ (List.mem_of_getElem? (i := 92) rfl)) (by decide) own_pd_pAIIIIqI rfl (own_bs0 l Z a0 hw t x h0 n0 w.old ) rfl (by decide) (W := 0) (Nat.le_of_eq rfl) (by decide) (by decide) (by decide) (fun _ q => nomatch q) (pc' := 8) rfl ?_
  intro v51 T51 h51 w51 K51 q51
  obtain ⟨rfl, rfl⟩ := q51
  show Goes p e below _ T51 (mkF m 8 #[.val (.ref t), .val (.int x)] [(.int (-1 : Int32))])
  exact i_retI w51 own_d11_8 rfl ⟨rfl, rfl⟩ (by decide) (by decide)
theorem own_d10_0 : decode prog_16_method_7_code 0 = .ok (.aload_n 0, 1) := by decide +kernel
theorem own_d10_1 : decode prog_16_method_7_code 1 = .ok (.getfield 38, 3) := by decide +kernel
theorem own_d10_4 : decode prog_16_method_7_code 4 = .ok (.iload_n 1, 1) := by decide +kernel
theorem own_d10_5 : decode prog_16_method_7_code 5 = .ok (.invokestatic 74, 3) := by decide +kernel
theorem own_d10_8 : decode prog_16_method_7_code 8 = .ok (.ireturn, 1) := by decide +kernel
theorem own_pd_pIqI : parseMethodDescriptor "(I)I" = some ⟨[.int], some .int⟩ := by decide +kernel
theorem own_ef_own_d10 (m : MethodId) (x0 : Addr) (x1 : Int32) : entryFrame m #[(.ref x0), (.int x1)] 2 = mkF m 0 #[.val (.ref x0), .val (.int x1)] [] := by
  first | (simp [entryFrame, mkF, argsToLocals, Value.category]; done) | rfl
set_option maxRecDepth 65536 in
set_option maxHeartbeats 40000000 in
theorem own_pos (l : Launch) (Z : State) (a0 : Array Value) (hw : ∀ d ∈ tables_1, d.before a0 Z = true) (a t : Addr) (ct : ClassId) (x : Int32) (h0 : Heap) (n0 : Nat) (O : Old Z n0 h0) (F : Fld Z h0 a "com/example/palimpsest/palimpsest/core/Overwrite" "indices" "[I" (.ref t)) (At : Ary Z h0 t ct .int []) :
    Ctr l Z n0 (⟨"com/example/palimpsest/palimpsest/core/Overwrite", "positionOf", "(I)I"⟩ : MethodName) prog_16_method_7_code 2 (some .int) [] ({ frames := 2, cells := 0, slots := 0, locals := 32 } : Room) #[(.ref a), (.int x)] h0 [] (fun v h => v = some (.int (-1)) ∧ h0 = h) := by
  refine enter (plainFor_of_name own_pn_com_example_palimpsest_palimpsest_core_Overwrite) (fun m => own_ef_own_d10 m a x) O (fun _ q => nomatch q) ?_
  intro p e s m below meth c T w
  refine i_aloadN w own_d10_0 rfl rfl (pc' := 1) rfl ?_
  refine i_getF w own_d10_1 (hw _ (List.mem_of_getElem? (i := 22) rfl)) F (pc' := 4) rfl ?_
  intro T52 w52
  refine i_iloadN w52 own_d10_4 rfl (pc' := 5) rfl ?_
  refine c_static w52 (y := (⟨"java/util/Arrays", "binarySearch", "([II)I"⟩ : MethodName)) (argsL := [(.ref t), (.int x)]) (st := []) own_d10_5 (hw _ (List.mem_of_getElem? (i := 87) rfl)) (hw _ (List.mem_of_getElem? (i := 88) rfl)) (hw _ (List.mem_of_getElem? (i := 39) rfl)) (hw _ (List.mem_of_getElem? (i := 89) rfl)) (by decide) own_pd_pAIIqI rfl (own_bs l Z a0 hw t ct x h0 n0 w52.old At) rfl (by decide) (W := 0) (Nat.le_of_eq rfl) (by decide) (by decide) (by decide) (fun _ q => nomatch q) (pc' := 8) rfl ?_
  intro v53 T53 h53 w53 K53 q53
  obtain ⟨rfl, rfl⟩ := q53
  show Goes p e below _ T53 (mkF m 8 #[.val (.ref a), .val (.int x)] [(.int (-1 : Int32))])
  exact i_retI w53 own_d10_8 rfl ⟨rfl, rfl⟩ (by decide) (by decide)
theorem own_pn_com_example_palimpsest_palimpsest_core_OverwriteIsEmptyPinLaw : plainName "com/example/palimpsest/palimpsest/core/OverwriteIsEmptyPinLaw" = true := by first | (simp [plainName, overriddenIn]; done) | decide +kernel
theorem own_ef_at (m : MethodId) (x0 : Int64) (x1 : Int64) (x2 : Int32) : entryFrame m #[(.long x0), (.long x1), (.int x2)] maxLocals = mkF m 0 #[.val (.long x0), .second, .val (.long x1), .second, .val (.int x2), .unset, .unset, .unset, .unset, .unset, .unset, .unset, .unset] [] := by
  first | (simp [entryFrame, mkF, argsToLocals, Value.category, maxLocals]; done) | rfl
set_option maxRecDepth 65536 in
set_option maxHeartbeats 40000000 in
theorem own_law (l : Launch) (Z : State) (a0 : Array Value) (hw : ∀ d ∈ tables_1, d.before a0 Z = true) (y0 y1 : Int64) (y2 : Int32) (ni nv : Addr) (SI : Sta Z Z.heap "com/example/palimpsest/palimpsest/core/Overwrite" "NO_INDICES" "[I" (.ref ni)) (SV : Sta Z Z.heap "com/example/palimpsest/palimpsest/core/Overwrite" "NO_VALUES" "[Ljava/lang/Object;" (.ref nv)) (ip mr : Addr) (cn : ClassId) (SP : Sta Z Z.heap "com/example/palimpsest/palimpsest/core/Placement" "IN_PLACE" "Lcom/example/palimpsest/palimpsest/core/Placement;" (.ref ip)) (M : Mir Z "[Ljava/lang/Object;" mr) (An : Ary Z Z.heap ni cn .int []) (h0 : Heap) (n0 : Nat) (O : Old Z n0 h0)  :
    Ctr l Z n0 x code maxLocals ret tables_1 room_1 #[(.long y0), (.long y1), (.int y2)] h0 [] (fun v h => v = some (.int 1)) := by
  refine enter (plainFor_of_name own_pn_com_example_palimpsest_palimpsest_core_OverwriteIsEmptyPinLaw) (fun m => own_ef_at m y0 y1 y2) O (fun _ q => nomatch q) ?_
  intro p e s m below meth c T w
  have An0 : Ary Z h0 ni cn .int [] := An.ext O.2
  refine i_new w at_0 (hw _ (List.mem_of_getElem? (i := 0) rfl)) (hw _ (List.mem_of_getElem? (i := 1) rfl)) (hw _ (List.mem_of_getElem? (i := 2) rfl)) (by decide) (by decide) (pc' := 3) rfl ?_
  intro a T54 h54 g_a w54 z_a E54 A_a D_a
  show Goes p e below _ T54 (mkF m 3 #[.val (.long y0), .second, .val (.long y1), .second, .val (.int y2), .unset, .unset, .unset, .unset, .unset, .unset, .unset, .unset] [(.ref a)])
  have lt_ni_a : ni < a := Nat.lt_of_lt_of_le An0.lt (Nat.le_of_eq g_a.symm)
  have An_55 := An0.ext E54
  have Da0 : Fld Z h54 a "com/example/palimpsest/palimpsest/core/Overwrite" "stamp" "J" (.long 0) := D_a (Or.inr (hw _ (List.mem_of_getElem? (i := 17) rfl))) (ty := .long) (by decide)
  have Da1 : Fld Z h54 a "com/example/palimpsest/palimpsest/core/Overwrite" "since" "J" (.long 0) := D_a (Or.inr (hw _ (List.mem_of_getElem? (i := 19) rfl))) (ty := .long) (by decide)
  have Da2 : Fld Z h54 a "com/example/palimpsest/palimpsest/core/Overwrite" "first" "J" (.long 0) := D_a (Or.inr (hw _ (List.mem_of_getElem? (i := 21) rfl))) (ty := .long) (by decide)
  have Da3 : Fld Z h54 a "com/example/palimpsest/palimpsest/core/Overwrite" "indices" "[I" .null := D_a (Or.inr (hw _ (List.mem_of_getElem? (i := 23) rfl))) (ty := (.array .int)) (by decide)
  have Da4 : Fld Z h54 a "com/example/palimpsest/palimpsest/core/Overwrite" "oldValues" "[Ljava/lang/Object;" .null := D_a (Or.inr (hw _ (List.mem_of_getElem? (i := 25) rfl))) (ty := (.array (.object "java/lang/Object"))) (by decide)
  have Da5 : Fld Z h54 a "com/example/palimpsest/palimpsest/core/Overwrite" "newValues" "[Ljava/lang/Object;" .null := D_a (Or.inr (hw _ (List.mem_of_getElem? (i := 27) rfl))) (ty := (.array (.object "java/lang/Object"))) (by decide)
  have Da6 : Fld Z h54 a "com/example/palimpsest/palimpsest/core/Overwrite" "older" "Lcom/example/palimpsest/palimpsest/core/Overwrite;" .null := D_a (Or.inl (hw _ (List.mem_of_getElem? (i := 29) rfl))) (ty := (.object "com/example/palimpsest/palimpsest/core/Overwrite")) (by decide)
  have Da7 : Fld Z h54 a "com/example/palimpsest/palimpsest/core/Overwrite" "placement" "Lcom/example/palimpsest/palimpsest/core/Placement;" .null := D_a (Or.inl (hw _ (List.mem_of_getElem? (i := 76) rfl))) (ty := (.object "com/example/palimpsest/palimpsest/core/Placement")) (by decide)
  refine i_dup w54 at_3 rfl (pc' := 4) rfl ?_
  refine i_lloadN w54 at_4 rfl (pc' := 5) rfl ?_
  refine c_special w54 (y := (⟨"com/example/palimpsest/palimpsest/core/Overwrite", "<init>", "(J)V"⟩ : MethodName)) (a := a) (argsL := [(.long y0)]) (st := [(.ref a)]) at_5 rfl (hw _ (List.mem_of_getElem? (i := 3) rfl)) (hw _ (List.mem_of_getElem? (i := 4) rfl)) (hw _ (List.mem_of_getElem? (i := 2) rfl)) (hw _ (List.mem_of_getElem? (i := 5) rfl)) (by decide) own_pd_pJqV rfl (own_ini1 l Z a0 hw a y0 ni nv SI SV h54 n0 w54.old (Nat.le_trans w54.n0h0 z_a) A_a Da0 Da1 Da2 Da3 Da4 Da5 Da6 Da7) rfl (by decide) (W := 1) (Nat.le_of_eq rfl) (by decide) (by decide) (by decide) (allS (Or.inr z_a) all0) (pc' := 8) rfl ?_
  intro v56 T56 h56 w56 K56 q56
  obtain ⟨rfl, -, A0, A1, A2, A3, A4, A5, A6, A7⟩ := q56
  show Goes p e below _ T56 (mkF m 8 #[.val (.long y0), .second, .val (.long y1), .second, .val (.int y2), .unset, .unset, .unset, .unset, .unset, .unset, .unset, .unset] [(.ref a)])
  have An_57 := An_55.keep K56 (ninS (Nat.ne_of_lt lt_ni_a) nin0)
  have E_a_57 := A_a.keep K56
  refine i_astore w56 at_8 rfl (l' := #[.val (.long y0), .second, .val (.long y1), .second, .val (.int y2), .val (.ref a), .unset, .unset, .unset, .unset, .unset, .unset, .unset]) rfl (pc' := 10) rfl ?_
  refine i_new w56 at_10 (hw _ (List.mem_of_getElem? (i := 0) rfl)) (hw _ (List.mem_of_getElem? (i := 1) rfl)) (hw _ (List.mem_of_getElem? (i := 2) rfl)) (by decide) (by decide) (pc' := 13) rfl ?_
  intro b T58 h58 g_b w58 z_b E58 A_b D_b
  show Goes p e below _ T58 (mkF m 13 #[.val (.long y0), .second, .val (.long y1), .second, .val (.int y2), .val (.ref a), .unset, .unset, .unset, .unset, .unset, .unset, .unset] [(.ref b)])
  have lt_ni_b : ni < b := Nat.lt_of_lt_of_le An_57.lt (Nat.le_of_eq g_b.symm)
  have lt_a_b : a < b := Nat.lt_of_lt_of_le E_a_57.lt (Nat.le_of_eq g_b.symm)
  have An_59 := An_57.ext E58
  have E_a_59 := E_a_57.ext E58
  have A0_59 := A0.ext E58
  have A1_59 := A1.ext E58
  have A2_59 := A2.ext E58
  have A3_59 := A3.ext E58
  have A4_59 := A4.ext E58
  have A5_59 := A5.ext E58
  have A6_59 := A6.ext E58
  have A7_59 := A7.ext E58
  have Db0 : Fld Z h58 b "com/example/palimpsest/palimpsest/core/Overwrite" "stamp" "J" (.long 0) := D_b (Or.inr (hw _ (List.mem_of_getElem? (i := 17) rfl))) (ty := .long) (by decide)
  have Db1 : Fld Z h58 b "com/example/palimpsest/palimpsest/core/Overwrite" "since" "J" (.long 0) := D_b (Or.inr (hw _ (List.mem_of_getElem? (i := 19) rfl))) (ty := .long) (by decide)
  have Db2 : Fld Z h58 b "com/example/palimpsest/palimpsest/core/Overwrite" "first" "J" (.long 0) := D_b (Or.inr (hw _ (List.mem_of_getElem? (i := 21) rfl))) (ty := .long) (by decide)
  have Db3 : Fld Z h58 b "com/example/palimpsest/palimpsest/core/Overwrite" "indices" "[I" .null := D_b (Or.inr (hw _ (List.mem_of_getElem? (i := 23) rfl))) (ty := (.array .int)) (by decide)
  have Db4 : Fld Z h58 b "com/example/palimpsest/palimpsest/core/Overwrite" "oldValues" "[Ljava/lang/Object;" .null := D_b (Or.inr (hw _ (List.mem_of_getElem? (i := 25) rfl))) (ty := (.array (.object "java/lang/Object"))) (by decide)
  have Db5 : Fld Z h58 b "com/example/palimpsest/palimpsest/core/Overwrite" "newValues" "[Ljava/lang/Object;" .null := D_b (Or.inr (hw _ (List.mem_of_getElem? (i := 27) rfl))) (ty := (.array (.object "java/lang/Object"))) (by decide)
  have Db6 : Fld Z h58 b "com/example/palimpsest/palimpsest/core/Overwrite" "older" "Lcom/example/palimpsest/palimpsest/core/Overwrite;" .null := D_b (Or.inl (hw _ (List.mem_of_getElem? (i := 29) rfl))) (ty := (.object "com/example/palimpsest/palimpsest/core/Overwrite")) (by decide)
  have Db7 : Fld Z h58 b "com/example/palimpsest/palimpsest/core/Overwrite" "placement" "Lcom/example/palimpsest/palimpsest/core/Placement;" .null := D_b (Or.inl (hw _ (List.mem_of_getElem? (i := 76) rfl))) (ty := (.object "com/example/palimpsest/palimpsest/core/Placement")) (by decide)
  refine i_dup w58 at_13 rfl (pc' := 14) rfl ?_
  refine i_lloadN w58 at_14 rfl (pc' := 15) rfl ?_
  refine c_special w58 (y := (⟨"com/example/palimpsest/palimpsest/core/Overwrite", "<init>", "(J)V"⟩ : MethodName)) (a := b) (argsL := [(.long y1)]) (st := [(.ref b)]) at_15 rfl (hw _ (List.mem_of_getElem? (i := 3) rfl)) (hw _ (List.mem_of_getElem? (i := 4) rfl)) (hw _ (List.mem_of_getElem? (i := 2) rfl)) (hw _ (List.mem_of_getElem? (i := 5) rfl)) (by decide) own_pd_pJqV rfl (own_ini1 l Z a0 hw b y1 ni nv SI SV h58 n0 w58.old (Nat.le_trans w58.n0h0 z_b) A_b Db0 Db1 Db2 Db3 Db4 Db5 Db6 Db7) rfl (by decide) (W := 1) (Nat.le_of_eq rfl) (by decide) (by decide) (by decide) (allS (Or.inr z_b) all0) (pc' := 18) rfl ?_
  intro v60 T60 h60 w60 K60 q60
  obtain ⟨rfl, -, B0, B1, B2, B3, B4, B5, B6, B7⟩ := q60
  show Goes p e below _ T60 (mkF m 18 #[.val (.long y0), .second, .val (.long y1), .second, .val (.int y2), .val (.ref a), .unset, .unset, .unset, .unset, .unset, .unset, .unset] [(.ref b)])
  have An_61 := An_59.keep K60 (ninS (Nat.ne_of_lt lt_ni_b) nin0)
  have E_a_61 := E_a_59.keep K60
  have A0_61 := A0_59.keep K60 (ninS (Nat.ne_of_lt lt_a_b) nin0)
  have A1_61 := A1_59.keep K60 (ninS (Nat.ne_of_lt lt_a_b) nin0)
  have A2_61 := A2_59.keep K60 (ninS (Nat.ne_of_lt lt_a_b) nin0)
  have A3_61 := A3_59.keep K60 (ninS (Nat.ne_of_lt lt_a_b) nin0)
  have A4_61 := A4_59.keep K60 (ninS (Nat.ne_of_lt lt_a_b) nin0)
  have A5_61 := A5_59.keep K60 (ninS (Nat.ne_of_lt lt_a_b) nin0)
  have A6_61 := A6_59.keep K60 (ninS (Nat.ne_of_lt lt_a_b) nin0)
  have A7_61 := A7_59.keep K60 (ninS (Nat.ne_of_lt lt_a_b) nin0)
  have E_b_61 := A_b.keep K60
  refine i_astore w60 at_18 rfl (l' := #[.val (.long y0), .second, .val (.long y1), .second, .val (.int y2), .val (.ref a), .val (.ref b), .unset, .unset, .unset, .unset, .unset, .unset]) rfl (pc' := 20) rfl ?_
  refine i_aload w60 at_20 rfl rfl (pc' := 22) rfl ?_
  refine i_aload w60 at_22 rfl rfl (pc' := 24) rfl ?_
  refine c_static w60 (y := (⟨"com/example/palimpsest/palimpsest/core/Overwrite", "folded", "(Lcom/example/palimpsest/palimpsest/core/Overwrite;Lcom/example/palimpsest/palimpsest/core/Overwrite;)Lcom/example/palimpsest/palimpsest/core/Overwrite;"⟩ : MethodName)) (argsL := [(.ref a), (.ref b)]) (st := []) at_24 (hw _ (List.mem_of_getElem? (i := 30) rfl)) (hw _ (List.mem_of_getElem? (i := 31) rfl)) (hw _ (List.mem_of_getElem? (i := 2) rfl)) (hw _ (List.mem_of_getElem? (i := 32) rfl)) (by decide) own_pd_pLcom_example_palimpsest_palimpsest_core_OverwriteeLcom_example_palimpsest_palimpsest_core_OverwriteeqLcom_example_palimpsest_palimpsest_core_Overwritee rfl (own_fold l Z a0 hw a b ni mr ip cn y0 y1 SP M h60 n0 w60.old An_61 A0_61 A3_61 B1 B2 B3 B6) rfl (by decide) (W := 0) (Nat.le_of_eq rfl) (by decide) (by decide) (by decide) (fun _ q => nomatch q) (pc' := 27) rfl ?_
  intro v62 T62 h62 w62 K62 q62
  obtain ⟨f, d, cd, rfl, zf, lfd, Ef, F3, Ad⟩ := q62
  show Goes p e below _ T62 (mkF m 27 #[.val (.long y0), .second, .val (.long y1), .second, .val (.int y2), .val (.ref a), .val (.ref b), .unset, .unset, .unset, .unset, .unset, .unset] [(.ref f)])
  have lt_ni_f : ni < f := Nat.lt_of_lt_of_le An_61.lt zf
  have lt_a_f : a < f := Nat.lt_of_lt_of_le E_a_61.lt zf
  have lt_b_f : b < f := Nat.lt_of_lt_of_le E_b_61.lt zf
  have An_63 := An_61.keep K62 nin0
  have E_a_63 := E_a_61.keep K62
  have A0_63 := A0_61.keep K62 nin0
  have A1_63 := A1_61.keep K62 nin0
  have A2_63 := A2_61.keep K62 nin0
  have A3_63 := A3_61.keep K62 nin0
  have A4_63 := A4_61.keep K62 nin0
  have A5_63 := A5_61.keep K62 nin0
  have A6_63 := A6_61.keep K62 nin0
  have A7_63 := A7_61.keep K62 nin0
  have E_b_63 := E_b_61.keep K62
  have B0_63 := B0.keep K62 nin0
  have B1_63 := B1.keep K62 nin0
  have B2_63 := B2.keep K62 nin0
  have B3_63 := B3.keep K62 nin0
  have B4_63 := B4.keep K62 nin0
  have B5_63 := B5.keep K62 nin0
  have B6_63 := B6.keep K62 nin0
  have B7_63 := B7.keep K62 nin0
  refine i_astore w62 at_27 rfl (l' := #[.val (.long y0), .second, .val (.long y1), .second, .val (.int y2), .val (.ref a), .val (.ref b), .val (.ref f), .unset, .unset, .unset, .unset, .unset]) rfl (pc' := 29) rfl ?_
  refine i_aload w62 at_29 rfl rfl (pc' := 31) rfl ?_
  refine c_virtual w62 (y := (⟨"com/example/palimpsest/palimpsest/core/Overwrite", "isEmpty", "()Z"⟩ : MethodName)) (C := "com/example/palimpsest/palimpsest/core/Overwrite") (a := a) (argsL := []) (st := []) at_31 (hw _ (List.mem_of_getElem? (i := 77) rfl)) (hw _ (List.mem_of_getElem? (i := 78) rfl)) (hw _ (List.mem_of_getElem? (i := 80) rfl)) (hw _ (List.mem_of_getElem? (i := 79) rfl)) (hw _ (List.mem_of_getElem? (i := 81) rfl)) (hw _ (List.mem_of_getElem? (i := 2) rfl)) (by decide) own_pd_pqZ rfl E_a_63 (own_emp l Z a0 hw a ni cn h62 n0 w62.old A3_63 An_63) rfl (by decide) (W := 0) (Nat.le_of_eq rfl) (by decide) (by decide) (by decide) (fun _ q => nomatch q) (pc' := 34) rfl ?_
  intro v64 T64 h64 w64 K64 q64
  obtain ⟨rfl, rfl⟩ := q64
  show Goes p e below _ T64 (mkF m 34 #[.val (.long y0), .second, .val (.long y1), .second, .val (.int y2), .val (.ref a), .val (.ref b), .val (.ref f), .unset, .unset, .unset, .unset, .unset] [(.int (1 : Int32))])
  refine i_istore w64 at_34 (l' := #[.val (.long y0), .second, .val (.long y1), .second, .val (.int y2), .val (.ref a), .val (.ref b), .val (.ref f), .val (.int (1 : Int32)), .unset, .unset, .unset, .unset]) rfl (pc' := 36) rfl ?_
  refine i_aload w64 at_36 rfl rfl (pc' := 38) rfl ?_
  refine c_virtual w64 (y := (⟨"com/example/palimpsest/palimpsest/core/Overwrite", "isEmpty", "()Z"⟩ : MethodName)) (C := "com/example/palimpsest/palimpsest/core/Overwrite") (a := b) (argsL := []) (st := []) at_38 (hw _ (List.mem_of_getElem? (i := 77) rfl)) (hw _ (List.mem_of_getElem? (i := 78) rfl)) (hw _ (List.mem_of_getElem? (i := 80) rfl)) (hw _ (List.mem_of_getElem? (i := 79) rfl)) (hw _ (List.mem_of_getElem? (i := 81) rfl)) (hw _ (List.mem_of_getElem? (i := 2) rfl)) (by decide) own_pd_pqZ rfl E_b_63 (own_emp l Z a0 hw b ni cn h62 n0 w64.old B3_63 An_63) rfl (by decide) (W := 0) (Nat.le_of_eq rfl) (by decide) (by decide) (by decide) (fun _ q => nomatch q) (pc' := 41) rfl ?_
  intro v65 T65 h65 w65 K65 q65
  obtain ⟨rfl, rfl⟩ := q65
  show Goes p e below _ T65 (mkF m 41 #[.val (.long y0), .second, .val (.long y1), .second, .val (.int y2), .val (.ref a), .val (.ref b), .val (.ref f), .val (.int (1 : Int32)), .unset, .unset, .unset, .unset] [(.int (1 : Int32))])
  refine i_istore w65 at_41 (l' := #[.val (.long y0), .second, .val (.long y1), .second, .val (.int y2), .val (.ref a), .val (.ref b), .val (.ref f), .val (.int (1 : Int32)), .val (.int (1 : Int32)), .unset, .unset, .unset]) rfl (pc' := 43) rfl ?_
  refine i_aload w65 at_43 rfl rfl (pc' := 45) rfl ?_
  refine c_virtual w65 (y := (⟨"com/example/palimpsest/palimpsest/core/Overwrite", "isEmpty", "()Z"⟩ : MethodName)) (C := "com/example/palimpsest/palimpsest/core/Overwrite") (a := f) (argsL := []) (st := []) at_45 (hw _ (List.mem_of_getElem? (i := 77) rfl)) (hw _ (List.mem_of_getElem? (i := 78) rfl)) (hw _ (List.mem_of_getElem? (i := 80) rfl)) (hw _ (List.mem_of_getElem? (i := 79) rfl)) (hw _ (List.mem_of_getElem? (i := 81) rfl)) (hw _ (List.mem_of_getElem? (i := 2) rfl)) (by decide) own_pd_pqZ rfl Ef (own_emp l Z a0 hw f d cd h62 n0 w65.old F3 Ad) rfl (by decide) (W := 0) (Nat.le_of_eq rfl) (by decide) (by decide) (by decide) (fun _ q => nomatch q) (pc' := 48) rfl ?_
  intro v66 T66 h66 w66 K66 q66
  obtain ⟨rfl, rfl⟩ := q66
  show Goes p e below _ T66 (mkF m 48 #[.val (.long y0), .second, .val (.long y1), .second, .val (.int y2), .val (.ref a), .val (.ref b), .val (.ref f), .val (.int (1 : Int32)), .val (.int (1 : Int32)), .unset, .unset, .unset] [(.int (1 : Int32))])
  refine i_istore w66 at_48 (l' := #[.val (.long y0), .second, .val (.long y1), .second, .val (.int y2), .val (.ref a), .val (.ref b), .val (.ref f), .val (.int (1 : Int32)), .val (.int (1 : Int32)), .val (.int (1 : Int32)), .unset, .unset]) rfl (pc' := 50) rfl ?_
  refine i_aload w66 at_50 rfl rfl (pc' := 52) rfl ?_
  refine i_iload w66 at_52 rfl (pc' := 54) rfl ?_
  refine c_virtual w66 (y := (⟨"com/example/palimpsest/palimpsest/core/Overwrite", "positionOf", "(I)I"⟩ : MethodName)) (C := "com/example/palimpsest/palimpsest/core/Overwrite") (a := a) (argsL := [(.int y2)]) (st := []) at_54 (hw _ (List.mem_of_getElem? (i := 82) rfl)) (hw _ (List.mem_of_getElem? (i := 83) rfl)) (hw _ (List.mem_of_getElem? (i := 85) rfl)) (hw _ (List.mem_of_getElem? (i := 84) rfl)) (hw _ (List.mem_of_getElem? (i := 86) rfl)) (hw _ (List.mem_of_getElem? (i := 2) rfl)) (by decide) own_pd_pIqI rfl E_a_63 (own_pos l Z a0 hw a ni cn y2 h62 n0 w66.old A3_63 An_63) rfl (by decide) (W := 0) (Nat.le_of_eq rfl) (by decide) (by decide) (by decide) (fun _ q => nomatch q) (pc' := 57) rfl ?_
  intro v67 T67 h67 w67 K67 q67
  obtain ⟨rfl, rfl⟩ := q67
  show Goes p e below _ T67 (mkF m 57 #[.val (.long y0), .second, .val (.long y1), .second, .val (.int y2), .val (.ref a), .val (.ref b), .val (.ref f), .val (.int (1 : Int32)), .val (.int (1 : Int32)), .val (.int (1 : Int32)), .unset, .unset] [(.int (-1 : Int32))])
  refine i_if_ge_N w67 (by decide) at_57 (pc' := 60) rfl ?_
  refine i_iconst w67 at_60 (z := (1 : Int32)) (by decide) (pc' := 61) rfl ?_
  refine i_goto w67 at_61 (pc' := 65) (by decide) ?_
  refine i_istore w67 at_65 (l' := #[.val (.long y0), .second, .val (.long y1), .second, .val (.int y2), .val (.ref a), .val (.ref b), .val (.ref f), .val (.int (1 : Int32)), .val (.int (1 : Int32)), .val (.int (1 : Int32)), .val (.int (1 : Int32)), .unset]) rfl (pc' := 67) rfl ?_
  refine i_aload w67 at_67 rfl rfl (pc' := 69) rfl ?_
  refine i_iload w67 at_69 rfl (pc' := 71) rfl ?_
  refine c_virtual w67 (y := (⟨"com/example/palimpsest/palimpsest/core/Overwrite", "positionOf", "(I)I"⟩ : MethodName)) (C := "com/example/palimpsest/palimpsest/core/Overwrite") (a := f) (argsL := [(.int y2)]) (st := []) at_71 (hw _ (List.mem_of_getElem? (i := 82) rfl)) (hw _ (List.mem_of_getElem? (i := 83) rfl)) (hw _ (List.mem_of_getElem? (i := 85) rfl)) (hw _ (List.mem_of_getElem? (i := 84) rfl)) (hw _ (List.mem_of_getElem? (i := 86) rfl)) (hw _ (List.mem_of_getElem? (i := 2) rfl)) (by decide) own_pd_pIqI rfl Ef (own_pos l Z a0 hw f d cd y2 h62 n0 w67.old F3 Ad) rfl (by decide) (W := 0) (Nat.le_of_eq rfl) (by decide) (by decide) (by decide) (fun _ q => nomatch q) (pc' := 74) rfl ?_
  intro v68 T68 h68 w68 K68 q68
  obtain ⟨rfl, rfl⟩ := q68
  show Goes p e below _ T68 (mkF m 74 #[.val (.long y0), .second, .val (.long y1), .second, .val (.int y2), .val (.ref a), .val (.ref b), .val (.ref f), .val (.int (1 : Int32)), .val (.int (1 : Int32)), .val (.int (1 : Int32)), .val (.int (1 : Int32)), .unset] [(.int (-1 : Int32))])
  refine i_if_ge_N w68 (by decide) at_74 (pc' := 77) rfl ?_
  refine i_iconst w68 at_77 (z := (1 : Int32)) (by decide) (pc' := 78) rfl ?_
  refine i_goto w68 at_78 (pc' := 82) (by decide) ?_
  refine i_istore w68 at_82 (l' := #[.val (.long y0), .second, .val (.long y1), .second, .val (.int y2), .val (.ref a), .val (.ref b), .val (.ref f), .val (.int (1 : Int32)), .val (.int (1 : Int32)), .val (.int (1 : Int32)), .val (.int (1 : Int32)), .val (.int (1 : Int32))]) rfl (pc' := 84) rfl ?_
  refine i_iload w68 at_84 rfl (pc' := 86) rfl ?_
  refine i_if_eq_N w68 (by decide) at_86 (pc' := 89) rfl ?_
  refine i_iload w68 at_89 rfl (pc' := 91) rfl ?_
  refine i_if_eq_N w68 (by decide) at_91 (pc' := 94) rfl ?_
  refine i_iload w68 at_94 rfl (pc' := 96) rfl ?_
  refine i_if_eq_N w68 (by decide) at_96 (pc' := 99) rfl ?_
  refine i_iload w68 at_99 rfl (pc' := 101) rfl ?_
  refine i_if_eq_N w68 (by decide) at_101 (pc' := 104) rfl ?_
  refine i_iload w68 at_104 rfl (pc' := 106) rfl ?_
  refine i_if_eq_N w68 (by decide) at_106 (pc' := 109) rfl ?_
  refine i_iconst w68 at_109 (z := (1 : Int32)) (by decide) (pc' := 110) rfl ?_
  refine i_goto w68 at_110 (pc' := 114) (by decide) ?_
  exact i_retN w68 at_114 rfl (by simp) rfl (by decide) (by decide)
set_option maxRecDepth 65536 in
set_option maxHeartbeats 40000000 in
theorem comes_1 {Post : Tables → Env → Array Value → State → Outcome → State → Prop} (hpost : ∀ tb e args s v u, (limb_1_1.after args s (.returned v) u = true ∧ limb_1_2.after args s (.returned v) u = true ∧ True) → FrameEnd s (.returned v) u (Jvm.fieldLocs frame_1_writes args s ++ Jvm.arrayLocs frame_1_arrays args s ++ Jvm.staticLocs frame_1_statics s) 32 128 → Post tb e args s (.returned v) u) :
    ArmFor flags0 classFile x code maxLocals ret World_1 tables_1 room_1 Calls_1 rest_1 Pre_1 Post := by
  intro l hfl _ _ p e ha hc hk s m args below hf hA hF happ hP
  obtain ⟨hcalls, hrest, hpre⟩ := hP
  obtain ⟨-, -, -, hnamed, -, -, -, hat⟩ := (Spec.applies_iff hf).mp happ
  obtain ⟨hg, hn⟩ := and_e (Cond.before_iff.mp (show (Jvm.Cond.and given_1 narrow_1).before args s = true from hpre))
  obtain ⟨gc, g0⟩ := and_e hg
  obtain ⟨q0, g1⟩ := and_e g0
  obtain ⟨q1, g2⟩ := and_e g1
  have q2 := g2
  obtain ⟨x0, x1, x2, rfl⟩ : ∃ x0 x1 x2 : Value, args = #[x0, x1, x2] := by
    have hs : args.size = 3 := by simpa [Cond.value, given_1] using gc
    obtain ⟨L⟩ := args
    match L, hs with
    | [x0, x1, x2], _ => exact ⟨x0, x1, x2, rfl⟩
  have hw := fun d (hd : d ∈ tables_1) => atoms_spec (ws := Jvm.Cond.code x code maxLocals ret :: tables_1) hat d (List.mem_cons_of_mem _ hd)
  have hfit : Fit s := fun {y c} hc i hi => by
    obtain ⟨ha, rfl⟩ := Array.getElem?_eq_some_iff.mp hc
    have q := List.all_eq_true.mp ((Array.all_eq_true_iff_forall_mem.mp hF) _ (Array.getElem_mem ha)) i (List.mem_range.mpr hi)
    simpa [Array.getElem?_eq_getElem hi] using q
  obtain ⟨y0, ey0⟩ := isL_v q0
  obtain rfl : x0 = (.long y0) := Option.some.inj ey0
  obtain ⟨y1, ey1⟩ := isL_v q1
  obtain rfl : x1 = (.long y1) := Option.some.inj ey1
  obtain ⟨y2, ey2⟩ := is_v q2
  obtain rfl : x2 = (.int y2) := Option.some.inj ey2
  obtain ⟨u1, hn1⟩ := and_e hn
  obtain ⟨u2, hn2⟩ := and_e hn1
  obtain ⟨u3, hn3⟩ := and_e hn2
  obtain ⟨u4, u5⟩ := and_e hn3
  obtain ⟨ni, eni⟩ := arr_v u1
  obtain ⟨nv, env⟩ := arr_v u3
  obtain ⟨ip, eip⟩ := exa_v u5
  have SI : Sta s s.heap "com/example/palimpsest/palimpsest/core/Overwrite" "NO_INDICES" "[I" (.ref ni) := Sta.start eni (Or.inr ⟨hw _ (List.mem_of_getElem? (i := 2) rfl), hw _ (List.mem_of_getElem? (i := 7) rfl)⟩)
  have SV : Sta s s.heap "com/example/palimpsest/palimpsest/core/Overwrite" "NO_VALUES" "[Ljava/lang/Object;" (.ref nv) := Sta.start env (Or.inr ⟨hw _ (List.mem_of_getElem? (i := 2) rfl), hw _ (List.mem_of_getElem? (i := 9) rfl)⟩)
  have SP : Sta s s.heap "com/example/palimpsest/palimpsest/core/Placement" "IN_PLACE" "Lcom/example/palimpsest/palimpsest/core/Placement;" (.ref ip) := Sta.start eip (Or.inr ⟨hw _ (List.mem_of_getElem? (i := 73) rfl), hw _ (List.mem_of_getElem? (i := 74) rfl)⟩)
  obtain ⟨cel, Ar0⟩ := Arr.start eni u1
  have An : Ary s s.heap ni cel.cls .int [] := own_empty hfit Ar0 eni u2
  obtain ⟨⟨cM, kM, mr, M1, M2, M3, cellM, M4, M5⟩, -⟩ := hcalls
  have M : Mir s "[Ljava/lang/Object;" mr := ⟨cM, kM, M1, M2, M3, cellM, M4, M5⟩
  obtain ⟨n, o, h1, h2, h3, _, L, rfl, ⟨rfl, N, -⟩, hq⟩ := own_law l s _ hw y0 y1 y2 ni nv SI SV ip mr _ SP M An s.heap s.heap.size (Old.start s)  p e ha hc hk s m _ below hf ((Spec.applies_iff_loose hf).mp happ).1 ⟨rfl, State.Warmed39.refl s, rfl⟩ trivial
  refine ⟨n, _, h1, h2, h3, hpost _ _ _ _ _ _ ⟨Cond.after_iff.mpr rfl, Cond.after_iff.mpr (eq_i res_at (Term.int_eval (1)) rfl), trivial⟩ ⟨hq.1, hq.2.1, (hq.2.2.sift fun y hy => Or.inr (N y hy)).mono (by decide) (by decide)⟩⟩
theorem main_1_1 : Claimed_1_1 := comes_1 fun _ _ _ _ _ _ h hF => ⟨h.1, hF⟩
theorem main_1_2 : Claimed_1_2 := comes_1 fun _ _ _ _ _ _ h hF => ⟨h.2.1, hF⟩
end Jvm.Pilot.@@N@@
namespace Jvm.Pilot.@@N@@
open Jvm Jvm.ClassFile Sem Op Lib Jvm.Free Jvm.Stand Jvm.Pilot.@@N@@.Jvm.D
/-! MADE BY PROGRAM (witnessworld.py) out of the Statement's table words and the real class files: 14 classes; the members and pool entries that the words name. The judged class is class 1, her method 1. -/
namespace start1
open Jvm.ClassFile
def u (s : String) : CpInfo := .utf8 (stringToUtf16 s)
/-- a pool by its gaps: so many unusable entries, then the entry; so many at the end -/
def gap : Nat → List CpInfo → List CpInfo
  | 0, r => r
  | n + 1, r => .unusable :: gap n r
def poolList (es : List (Nat × CpInfo)) (last : Nat) : List CpInfo := es.foldr (fun e r => gap e.1 (e.2 :: r)) (gap last [])
def pool (es : List (Nat × CpInfo)) (last : Nat) : Array CpInfo := ⟨poolList es last⟩
def fileOf (pool : Array CpInfo) (this : Nat) (attrs : Array Attribute := #[]) (ms : Array MethodInfo := #[]) (fl : Nat := 33) (sup : Nat := 0) (ifs : Array Nat := #[]) (fds : Array FieldInfo := #[]) : ClassFile where
  minorVersion := 0
  majorVersion := 65
  constantPool := pool
  accessFlags := fl
  thisClass := this
  superClass := sup
  interfaces := ifs
  fields := fds
  methods := ms
  attributes := attrs
def plain (name : String) (sup : Option ClassId) : Class where
  name := name
  kind := .ordinary
  loader := none
  accessFlags := 33
  super := sup
  interfaces := #[]
  cf := none
  fields := #[]
  methods := #[]
  instanceTypes := #[]
  staticTypes := #[]
  resolved := #[]
  callSites := []
  init := .initialized
  statics := none
  mirror := none

def pool0 : Array CpInfo := pool [(5, u "<init>"), (0, u "()V"), (1, .class_ 10), (1, u "java/lang/Object"), (0, u "getClass"), (0, u "()Ljava/lang/Class;"), (83, u "clone"), (0, u "()Ljava/lang/Object;")] 26

def k0c0 : Code := { maxStack := 0, maxLocals := 1, code := object_method_1_code, exceptionTable := #[], attributes := #[] }
def k0m0 : Method := { name := "<init>", desc := "()V", sig := { parameters := [], returnType := none }, accessFlags := 1, code := some k0c0 }
def k0m1 : Method := { name := "getClass", desc := "()Ljava/lang/Class;", sig := { parameters := [], returnType := some (.object "java/lang/Class") }, accessFlags := 273, code := none }
def k0m2 : Method := { name := "clone", desc := "()Ljava/lang/Object;", sig := { parameters := [], returnType := some (.object "java/lang/Object") }, accessFlags := 260, code := none }
/-- java/lang/Object -/
def k0 : Class := { plain "java/lang/Object" none with
  accessFlags := 33
  interfaces := #[]
  cf := some (fileOf pool0 8 #[] #[{ accessFlags := 1, nameIndex := 5, descriptorIndex := 6, attributes := #[] }, { accessFlags := 273, nameIndex := 11, descriptorIndex := 12, attributes := #[] }, { accessFlags := 260, nameIndex := 96, descriptorIndex := 97, attributes := #[] }] 33 0 #[] #[])
  fields := #[]
  methods := #[k0m0, k0m1, k0m2]
  instanceTypes := #[]
  staticTypes := #[]
  resolved := Array.replicate 124 none
  statics := none }

def pool1 : Array CpInfo := pool [(2, .class_ 4), (1, u "java/lang/Object"), (0, u "<init>"), (0, u "()V"), (0, .class_ 8), (0, u "com/example/palimpsest/palimpsest/core/Overwrite"), (0, .methodref 7 10), (0, .nameAndType 5 11), (0, u "(J)V"), (0, .methodref 7 13), (0, .nameAndType 14 15), (0, u "folded"), (0, u "(Lcom/example/palimpsest/palimpsest/core/Overwrite;Lcom/example/palimpsest/palimpsest/core/Overwrite;)Lcom/example/palimpsest/palimpsest/core/Overwrite;"), (0, .methodref 7 17), (0, .nameAndType 18 19), (0, u "isEmpty"), (0, u "()Z"), (0, .methodref 7 21), (0, .nameAndType 22 23), (0, u "positionOf"), (0, u "(I)I"), (0, .class_ 25), (0, u "com/example/palimpsest/palimpsest/core/OverwriteIsEmptyPinLaw"), (2, u "law"), (0, u "(JJI)Z")] 3

def k1m0 : Method := { name := "<init>", desc := "()V", sig := { parameters := [], returnType := none }, accessFlags := 2, code := none }
def k1c1 : Code := { maxStack := 4, maxLocals := 13, code := code, exceptionTable := #[], attributes := #[] }
def k1m1 : Method := { name := "law", desc := "(JJI)Z", sig := { parameters := [.long, .long, .int], returnType := some .boolean }, accessFlags := 9, code := some k1c1 }
/-- com/example/palimpsest/palimpsest/core/OverwriteIsEmptyPinLaw -/
def k1 : Class := { plain "com/example/palimpsest/palimpsest/core/OverwriteIsEmptyPinLaw" (some 0) with
  accessFlags := 49
  interfaces := #[]
  cf := some (fileOf pool1 24 #[] #[{ accessFlags := 2, nameIndex := 5, descriptorIndex := 6, attributes := #[] }, { accessFlags := 9, nameIndex := 28, descriptorIndex := 29, attributes := #[] }] 49 2 #[] #[])
  fields := #[]
  methods := #[k1m0, k1m1]
  instanceTypes := #[]
  staticTypes := #[]
  resolved := Array.replicate 33 none
  statics := none }

def pool2 : Array CpInfo := pool [(1, .fieldref 2 3), (0, .class_ 4), (0, .nameAndType 5 6), (0, u "com/example/palimpsest/palimpsest/core/Overwrite"), (0, u "NO_INDICES"), (0, u "[I"), (0, .fieldref 2 8), (0, .nameAndType 9 10), (0, u "NO_VALUES"), (0, u "[Ljava/lang/Object;"), (0, .methodref 2 12), (0, .nameAndType 13 14), (0, u "<init>"), (0, u "(JJJ[I[Ljava/lang/Object;[Ljava/lang/Object;Lcom/example/palimpsest/palimpsest/core/Overwrite;)V"), (0, .fieldref 2 16), (0, .nameAndType 17 18), (0, u "stamp"), (0, u "J"), (2, .nameAndType 23 6), (1, u "indices"), (3, .methodref 28 29), (0, .class_ 30), (0, .nameAndType 13 31), (0, u "java/lang/Object"), (0, u "()V"), (0, .fieldref 2 33), (0, .nameAndType 34 18), (0, u "since"), (0, .fieldref 2 36), (0, .nameAndType 37 18), (0, u "first"), (0, .fieldref 2 21), (0, .fieldref 2 40), (0, .nameAndType 41 10), (0, u "oldValues"), (0, .fieldref 2 43), (0, .nameAndType 44 10), (0, u "newValues"), (0, .fieldref 2 46), (0, .nameAndType 47 48), (0, u "older"), (0, u "Lcom/example/palimpsest/palimpsest/core/Overwrite;"), (4, .methodref 54 55), (0, .class_ 56), (0, .nameAndType 57 58), (0, u "java/util/Arrays"), (0, u "copyOf"), (0, u "([II)[I"), (0, .methodref 54 60), (0, .nameAndType 57 61), (0, u "([Ljava/lang/Object;I)[Ljava/lang/Object;"), (0, .fieldref 63 64), (0, .class_ 65), (0, .nameAndType 66 67), (0, u "com/example/palimpsest/palimpsest/core/Placement"), (0, u "IN_PLACE"), (0, u "Lcom/example/palimpsest/palimpsest/core/Placement;"), (0, .fieldref 2 69), (0, .nameAndType 70 67), (0, u "placement"), (3, .methodref 54 75), (0, .nameAndType 76 77), (0, u "binarySearch"), (0, u "([II)I"), (2, u "OLDER"), (0, u "Ljava/lang/invoke/VarHandle;"), (8, u "CLAIMED"), (5, u "PLACEMENT"), (17, u "claimed"), (14, u "Z"), (0, u "(J)V"), (3, u "folded"), (0, u "(Lcom/example/palimpsest/palimpsest/core/Overwrite;Lcom/example/palimpsest/palimpsest/core/Overwrite;)Lcom/example/palimpsest/palimpsest/core/Overwrite;"), (3, u "isEmpty"), (0, u "()Z"), (0, u "positionOf"), (0, u "(I)I")] 12

def k2c0 : Code := { maxStack := 11, maxLocals := 3, code := prog_16_method_1_code, exceptionTable := #[], attributes := #[] }
def k2m0 : Method := { name := "<init>", desc := "(J)V", sig := { parameters := [.long], returnType := none }, accessFlags := 0, code := some k2c0 }
def k2c1 : Code := { maxStack := 3, maxLocals := 11, code := prog_16_method_3_code, exceptionTable := #[], attributes := #[] }
def k2m1 : Method := { name := "<init>", desc := "(JJJ[I[Ljava/lang/Object;[Ljava/lang/Object;Lcom/example/palimpsest/palimpsest/core/Overwrite;)V", sig := { parameters := [.long, .long, .long, (.array .int), (.array (.object "java/lang/Object")), (.array (.object "java/lang/Object")), (.object "com/example/palimpsest/palimpsest/core/Overwrite")], returnType := none }, accessFlags := 2, code := some k2c1 }
def k2c2 : Code := { maxStack := 12, maxLocals := 10, code := prog_16_method_4_code, exceptionTable := #[], attributes := #[] }
def k2m2 : Method := { name := "folded", desc := "(Lcom/example/palimpsest/palimpsest/core/Overwrite;Lcom/example/palimpsest/palimpsest/core/Overwrite;)Lcom/example/palimpsest/palimpsest/core/Overwrite;", sig := { parameters := [(.object "com/example/palimpsest/palimpsest/core/Overwrite"), (.object "com/example/palimpsest/palimpsest/core/Overwrite")], returnType := some (.object "com/example/palimpsest/palimpsest/core/Overwrite") }, accessFlags := 8, code := some k2c2 }
def k2c3 : Code := { maxStack := 1, maxLocals := 1, code := prog_16_method_6_code, exceptionTable := #[], attributes := #[] }
def k2m3 : Method := { name := "isEmpty", desc := "()Z", sig := { parameters := [], returnType := some .boolean }, accessFlags := 0, code := some k2c3 }
def k2c4 : Code := { maxStack := 2, maxLocals := 2, code := prog_16_method_7_code, exceptionTable := #[], attributes := #[] }
def k2m4 : Method := { name := "positionOf", desc := "(I)I", sig := { parameters := [.int], returnType := some .int }, accessFlags := 0, code := some k2c4 }
/-- com/example/palimpsest/palimpsest/core/Overwrite -/
def k2 : Class := { plain "com/example/palimpsest/palimpsest/core/Overwrite" (some 0) with
  accessFlags := 48
  interfaces := #[]
  cf := some (fileOf pool2 2 #[] #[{ accessFlags := 0, nameIndex := 13, descriptorIndex := 130, attributes := #[] }, { accessFlags := 2, nameIndex := 13, descriptorIndex := 14, attributes := #[] }, { accessFlags := 8, nameIndex := 134, descriptorIndex := 135, attributes := #[] }, { accessFlags := 0, nameIndex := 139, descriptorIndex := 140, attributes := #[] }, { accessFlags := 0, nameIndex := 141, descriptorIndex := 142, attributes := #[] }] 48 28 #[] #[{ accessFlags := 26, nameIndex := 80, descriptorIndex := 81, attributes := #[] }, { accessFlags := 26, nameIndex := 90, descriptorIndex := 81, attributes := #[] }, { accessFlags := 26, nameIndex := 96, descriptorIndex := 81, attributes := #[] }, { accessFlags := 26, nameIndex := 5, descriptorIndex := 6, attributes := #[] }, { accessFlags := 26, nameIndex := 9, descriptorIndex := 10, attributes := #[] }, { accessFlags := 16, nameIndex := 17, descriptorIndex := 18, attributes := #[] }, { accessFlags := 16, nameIndex := 34, descriptorIndex := 18, attributes := #[] }, { accessFlags := 16, nameIndex := 37, descriptorIndex := 18, attributes := #[] }, { accessFlags := 16, nameIndex := 23, descriptorIndex := 6, attributes := #[] }, { accessFlags := 16, nameIndex := 41, descriptorIndex := 10, attributes := #[] }, { accessFlags := 16, nameIndex := 44, descriptorIndex := 10, attributes := #[] }, { accessFlags := 64, nameIndex := 47, descriptorIndex := 48, attributes := #[] }, { accessFlags := 66, nameIndex := 114, descriptorIndex := 129, attributes := #[] }, { accessFlags := 66, nameIndex := 70, descriptorIndex := 67, attributes := #[] }])
  fields := #[{ name := "OLDER", type := (.object "java/lang/invoke/VarHandle"), accessFlags := 26, slot := 0, constantValue := 0 }, { name := "CLAIMED", type := (.object "java/lang/invoke/VarHandle"), accessFlags := 26, slot := 1, constantValue := 0 }, { name := "PLACEMENT", type := (.object "java/lang/invoke/VarHandle"), accessFlags := 26, slot := 2, constantValue := 0 }, { name := "NO_INDICES", type := (.array .int), accessFlags := 26, slot := 3, constantValue := 0 }, { name := "NO_VALUES", type := (.array (.object "java/lang/Object")), accessFlags := 26, slot := 4, constantValue := 0 }, { name := "stamp", type := .long, accessFlags := 16, slot := 0, constantValue := 0 }, { name := "since", type := .long, accessFlags := 16, slot := 1, constantValue := 0 }, { name := "first", type := .long, accessFlags := 16, slot := 2, constantValue := 0 }, { name := "indices", type := (.array .int), accessFlags := 16, slot := 3, constantValue := 0 }, { name := "oldValues", type := (.array (.object "java/lang/Object")), accessFlags := 16, slot := 4, constantValue := 0 }, { name := "newValues", type := (.array (.object "java/lang/Object")), accessFlags := 16, slot := 5, constantValue := 0 }, { name := "older", type := (.object "com/example/palimpsest/palimpsest/core/Overwrite"), accessFlags := 64, slot := 6, constantValue := 0 }, { name := "claimed", type := .boolean, accessFlags := 66, slot := 7, constantValue := 0 }, { name := "placement", type := (.object "com/example/palimpsest/palimpsest/core/Placement"), accessFlags := 66, slot := 8, constantValue := 0 }]
  methods := #[k2m0, k2m1, k2m2, k2m3, k2m4]
  instanceTypes := #[.long, .long, .long, (.array .int), (.array (.object "java/lang/Object")), (.array (.object "java/lang/Object")), (.object "com/example/palimpsest/palimpsest/core/Overwrite"), .boolean, (.object "com/example/palimpsest/palimpsest/core/Placement")]
  staticTypes := #[(.object "java/lang/invoke/VarHandle"), (.object "java/lang/invoke/VarHandle"), (.object "java/lang/invoke/VarHandle"), (.array .int), (.array (.object "java/lang/Object"))]
  resolved := Array.replicate 155 none
  statics := some 0 }

def pool3 : Array CpInfo := pool [(2, .class_ 4), (1, u "java/lang/Object"), (0, u "<init>"), (0, u "()V"), (7, .class_ 16), (1, u "java/util/Arrays"), (57, .class_ 76), (1, u "java/util/Arrays$NaturalOrder"), (9, .methodref 2 87), (0, .nameAndType 88 89), (0, u "getClass"), (0, u "()Ljava/lang/Class;"), (19, u "()Ljava/lang/Object;"), (0, .class_ 111), (0, u "[Ljava/lang/Object;"), (1, .class_ 115), (1, u "java/util/Arrays$LegacyMergeSort"), (1, u "Z"), (10, .nameAndType 129 109), (0, u "clone"), (20, .methodref 151 152), (0, .class_ 153), (0, .nameAndType 154 155), (0, u "java/lang/System"), (0, u "arraycopy"), (0, u "(Ljava/lang/Object;ILjava/lang/Object;II)V"), (51, u "binarySearch0"), (1, .methodref 14 210), (0, .nameAndType 207 211), (0, u "([IIII)I"), (88, .methodref 14 301), (0, .nameAndType 302 303), (0, u "copyOf"), (0, u "([Ljava/lang/Object;ILjava/lang/Class;)[Ljava/lang/Object;"), (0, .methodref 305 306), (0, .class_ 307), (0, .nameAndType 308 309), (0, u "java/lang/Math"), (0, u "min"), (0, u "(II)I"), (6, .methodref 317 128), (0, .class_ 318), (0, u "[I"), (56, .class_ 376), (0, u "java/util/Arrays$ArrayList"), (68, u "$assertionsDisabled"), (269, u "MIN_ARRAY_SORT_GRAN"), (0, u "I"), (2, u "INSERTIONSORT_THRESHOLD"), (74, u "binarySearch"), (4, u "([II)I"), (60, u "([Ljava/lang/Object;I)[Ljava/lang/Object;"), (10, u "([II)[I"), (103, .class_ 976), (0, u "java/util/Arrays$ArrayItr")] 52

def k3m0 : Method := { name := "<init>", desc := "()V", sig := { parameters := [], returnType := none }, accessFlags := 2, code := none }
def k3c1 : Code := { maxStack := 4, maxLocals := 2, code := jdk_65_method_57_code, exceptionTable := #[], attributes := #[] }
def k3m1 : Method := { name := "binarySearch", desc := "([II)I", sig := { parameters := [(.array .int), .int], returnType := some .int }, accessFlags := 9, code := some k3c1 }
def k3c2 : Code := { maxStack := 2, maxLocals := 8, code := jdk_65_method_59_code, exceptionTable := #[], attributes := #[] }
def k3m2 : Method := { name := "binarySearch0", desc := "([IIII)I", sig := { parameters := [(.array .int), .int, .int, .int], returnType := some .int }, accessFlags := 10, code := some k3c2 }
def k3c3 : Code := { maxStack := 3, maxLocals := 2, code := jdk_65_method_119_code, exceptionTable := #[], attributes := #[] }
def k3m3 : Method := { name := "copyOf", desc := "([Ljava/lang/Object;I)[Ljava/lang/Object;", sig := { parameters := [(.array (.object "java/lang/Object")), .int], returnType := some (.array (.object "java/lang/Object")) }, accessFlags := 9, code := some k3c3 }
def k3c4 : Code := { maxStack := 6, maxLocals := 4, code := jdk_65_method_120_code, exceptionTable := #[], attributes := #[] }
def k3m4 : Method := { name := "copyOf", desc := "([Ljava/lang/Object;ILjava/lang/Class;)[Ljava/lang/Object;", sig := { parameters := [(.array (.object "java/lang/Object")), .int, (.object "java/lang/Class")], returnType := some (.array (.object "java/lang/Object")) }, accessFlags := 9, code := some k3c4 }
def k3c5 : Code := { maxStack := 6, maxLocals := 3, code := jdk_65_method_123_code, exceptionTable := #[], attributes := #[] }
def k3m5 : Method := { name := "copyOf", desc := "([II)[I", sig := { parameters := [(.array .int), .int], returnType := some (.array .int) }, accessFlags := 9, code := some k3c5 }
/-- java/util/Arrays -/
def k3 : Class := { plain "java/util/Arrays" (some 0) with
  accessFlags := 49
  interfaces := #[]
  cf := some (fileOf pool3 14 #[.nestMembers #[975, 375, 113, 74]] #[{ accessFlags := 2, nameIndex := 5, descriptorIndex := 6, attributes := #[] }, { accessFlags := 9, nameIndex := 794, descriptorIndex := 799, attributes := #[] }, { accessFlags := 10, nameIndex := 207, descriptorIndex := 211, attributes := #[] }, { accessFlags := 9, nameIndex := 302, descriptorIndex := 860, attributes := #[] }, { accessFlags := 9, nameIndex := 302, descriptorIndex := 303, attributes := #[] }, { accessFlags := 9, nameIndex := 302, descriptorIndex := 871, attributes := #[] }] 49 2 #[] #[{ accessFlags := 26, nameIndex := 715, descriptorIndex := 716, attributes := #[] }, { accessFlags := 26, nameIndex := 719, descriptorIndex := 716, attributes := #[] }, { accessFlags := 4120, nameIndex := 445, descriptorIndex := 117, attributes := #[] }])
  fields := #[{ name := "MIN_ARRAY_SORT_GRAN", type := .int, accessFlags := 26, slot := 0, constantValue := 0 }, { name := "INSERTIONSORT_THRESHOLD", type := .int, accessFlags := 26, slot := 1, constantValue := 0 }, { name := "$assertionsDisabled", type := .boolean, accessFlags := 4120, slot := 2, constantValue := 0 }]
  methods := #[k3m0, k3m1, k3m2, k3m3, k3m4, k3m5]
  instanceTypes := #[]
  staticTypes := #[.int, .int, .boolean]
  resolved := Array.replicate 1029 none
  statics := none }

def pool4 : Array CpInfo := pool [(1, .class_ 2), (0, u "java/lang/Cloneable"), (0, .class_ 4), (0, u "java/lang/Object")] 2

/-- java/lang/Cloneable -/
def k4 : Class := { plain "java/lang/Cloneable" (some 0) with
  accessFlags := 1537
  interfaces := #[]
  cf := some (fileOf pool4 1 #[] #[] 1537 3 #[] #[])
  fields := #[]
  methods := #[]
  instanceTypes := #[]
  staticTypes := #[]
  resolved := Array.replicate 7 none
  statics := none }

def pool5 : Array CpInfo := pool [(1, .class_ 2), (0, u "java/lang/Math"), (1, .class_ 6), (1, u "java/lang/Object"), (0, u "<init>"), (0, u "()V"), (89, .class_ 100), (1, u "java/lang/Math$RandomNumberGeneratorHolder"), (71, u "negativeZeroFloatBits"), (0, u "J"), (2, u "negativeZeroDoubleBits"), (24, u "min"), (43, u "$assertionsDisabled"), (0, u "Z"), (88, u "(II)I"), (2, u "twoToTheDoubleScaleDown"), (0, u "D"), (4, u "twoToTheDoubleScaleUp"), (9, u "E"), (3, u "PI"), (2, u "TAU"), (2, u "DEGREES_TO_RADIANS"), (0, u "RADIANS_TO_DEGREES")] 94

def k5m0 : Method := { name := "<init>", desc := "()V", sig := { parameters := [], returnType := none }, accessFlags := 2, code := none }
def k5c1 : Code := { maxStack := 2, maxLocals := 2, code := jdk_29_method_69_code, exceptionTable := #[], attributes := #[] }
def k5m1 : Method := { name := "min", desc := "(II)I", sig := { parameters := [.int, .int], returnType := some .int }, accessFlags := 9, code := some k5c1 }
/-- java/lang/Math -/
def k5 : Class := { plain "java/lang/Math" (some 0) with
  accessFlags := 49
  interfaces := #[]
  cf := some (fileOf pool5 1 #[.nestMembers #[98]] #[{ accessFlags := 2, nameIndex := 7, descriptorIndex := 8, attributes := #[] }, { accessFlags := 9, nameIndex := 201, descriptorIndex := 335, attributes := #[] }] 49 4 #[] #[{ accessFlags := 25, nameIndex := 354, descriptorIndex := 339, attributes := #[] }, { accessFlags := 25, nameIndex := 358, descriptorIndex := 339, attributes := #[] }, { accessFlags := 25, nameIndex := 361, descriptorIndex := 339, attributes := #[] }, { accessFlags := 26, nameIndex := 364, descriptorIndex := 339, attributes := #[] }, { accessFlags := 26, nameIndex := 365, descriptorIndex := 339, attributes := #[] }, { accessFlags := 26, nameIndex := 172, descriptorIndex := 173, attributes := #[] }, { accessFlags := 26, nameIndex := 176, descriptorIndex := 173, attributes := #[] }, { accessFlags := 8, nameIndex := 344, descriptorIndex := 339, attributes := #[] }, { accessFlags := 8, nameIndex := 338, descriptorIndex := 339, attributes := #[] }, { accessFlags := 4120, nameIndex := 245, descriptorIndex := 246, attributes := #[] }])
  fields := #[{ name := "E", type := .double, accessFlags := 25, slot := 0, constantValue := 0 }, { name := "PI", type := .double, accessFlags := 25, slot := 1, constantValue := 0 }, { name := "TAU", type := .double, accessFlags := 25, slot := 2, constantValue := 0 }, { name := "DEGREES_TO_RADIANS", type := .double, accessFlags := 26, slot := 3, constantValue := 0 }, { name := "RADIANS_TO_DEGREES", type := .double, accessFlags := 26, slot := 4, constantValue := 0 }, { name := "negativeZeroFloatBits", type := .long, accessFlags := 26, slot := 5, constantValue := 0 }, { name := "negativeZeroDoubleBits", type := .long, accessFlags := 26, slot := 6, constantValue := 0 }, { name := "twoToTheDoubleScaleUp", type := .double, accessFlags := 8, slot := 7, constantValue := 0 }, { name := "twoToTheDoubleScaleDown", type := .double, accessFlags := 8, slot := 8, constantValue := 0 }, { name := "$assertionsDisabled", type := .boolean, accessFlags := 4120, slot := 9, constantValue := 0 }]
  methods := #[k5m0, k5m1]
  instanceTypes := #[]
  staticTypes := #[.double, .double, .double, .double, .double, .long, .long, .double, .double, .boolean]
  resolved := Array.replicate 460 none
  statics := none }

def pool6 : Array CpInfo := pool [(2, .class_ 4), (1, u "java/lang/Object"), (0, u "<init>"), (0, u "()V"), (1, .class_ 10), (1, u "java/lang/System"), (0, u "allowSecurityManager"), (0, u "I"), (16, u "cons"), (0, u "Ljava/io/Console;"), (77, .class_ 110), (1, u "java/lang/System$CallersHolder"), (43, u "initialErrStream"), (0, u "Ljava/io/PrintStream;"), (19, u "security"), (0, u "Ljava/lang/SecurityManager;"), (31, .class_ 209), (0, u "java/lang/System$1"), (7, u "props"), (0, u "Ljava/util/Properties;"), (2, u "lineSeparator"), (0, u "Ljava/lang/String;"), (96, .class_ 321), (1, u "java/lang/System$LoggerFinder"), (5, .class_ 328), (0, u "java/lang/System$Logger"), (67, u "err"), (2, u "out"), (91, u "notSupportedJnuEncoding"), (15, u "in"), (17, u "initialIn"), (0, u "Ljava/io/InputStream;"), (35, u "bootLayer"), (0, u "Ljava/lang/ModuleLayer;"), (99, .class_ 664), (0, u "java/lang/System$2"), (9, u "NEVER"), (2, u "MAYBE"), (49, u "arraycopy"), (0, u "(Ljava/lang/Object;ILjava/lang/Object;II)V"), (72, .class_ 802), (0, u "java/lang/System$Logger$Level")] 31

def k6m0 : Method := { name := "<init>", desc := "()V", sig := { parameters := [], returnType := none }, accessFlags := 2, code := none }
def k6m1 : Method := { name := "arraycopy", desc := "(Ljava/lang/Object;ILjava/lang/Object;II)V", sig := { parameters := [(.object "java/lang/Object"), .int, (.object "java/lang/Object"), .int, .int], returnType := none }, accessFlags := 265, code := none }
/-- java/lang/System -/
def k6 : Class := { plain "java/lang/System" (some 0) with
  accessFlags := 49
  interfaces := #[]
  cf := some (fileOf pool6 8 #[.nestMembers #[319, 327, 801, 108, 663, 208]] #[{ accessFlags := 2, nameIndex := 5, descriptorIndex := 6, attributes := #[] }, { accessFlags := 265, nameIndex := 727, descriptorIndex := 728, attributes := #[] }] 49 2 #[] #[{ accessFlags := 25, nameIndex := 507, descriptorIndex := 526, attributes := #[] }, { accessFlags := 25, nameIndex := 399, descriptorIndex := 155, attributes := #[] }, { accessFlags := 25, nameIndex := 396, descriptorIndex := 155, attributes := #[] }, { accessFlags := 10, nameIndex := 525, descriptorIndex := 526, attributes := #[] }, { accessFlags := 26, nameIndex := 674, descriptorIndex := 12, attributes := #[] }, { accessFlags := 26, nameIndex := 677, descriptorIndex := 12, attributes := #[] }, { accessFlags := 10, nameIndex := 11, descriptorIndex := 12, attributes := #[] }, { accessFlags := 74, nameIndex := 175, descriptorIndex := 176, attributes := #[] }, { accessFlags := 10, nameIndex := 491, descriptorIndex := 222, attributes := #[] }, { accessFlags := 74, nameIndex := 29, descriptorIndex := 30, attributes := #[] }, { accessFlags := 74, nameIndex := 154, descriptorIndex := 155, attributes := #[] }, { accessFlags := 10, nameIndex := 217, descriptorIndex := 218, attributes := #[] }, { accessFlags := 10, nameIndex := 221, descriptorIndex := 222, attributes := #[] }, { accessFlags := 8, nameIndex := 562, descriptorIndex := 563, attributes := #[] }])
  fields := #[{ name := "in", type := (.object "java/io/InputStream"), accessFlags := 25, slot := 0, constantValue := 0 }, { name := "out", type := (.object "java/io/PrintStream"), accessFlags := 25, slot := 1, constantValue := 0 }, { name := "err", type := (.object "java/io/PrintStream"), accessFlags := 25, slot := 2, constantValue := 0 }, { name := "initialIn", type := (.object "java/io/InputStream"), accessFlags := 10, slot := 3, constantValue := 0 }, { name := "NEVER", type := .int, accessFlags := 26, slot := 4, constantValue := 0 }, { name := "MAYBE", type := .int, accessFlags := 26, slot := 5, constantValue := 0 }, { name := "allowSecurityManager", type := .int, accessFlags := 10, slot := 6, constantValue := 0 }, { name := "security", type := (.object "java/lang/SecurityManager"), accessFlags := 74, slot := 7, constantValue := 0 }, { name := "notSupportedJnuEncoding", type := (.object "java/lang/String"), accessFlags := 10, slot := 8, constantValue := 0 }, { name := "cons", type := (.object "java/io/Console"), accessFlags := 74, slot := 9, constantValue := 0 }, { name := "initialErrStream", type := (.object "java/io/PrintStream"), accessFlags := 74, slot := 10, constantValue := 0 }, { name := "props", type := (.object "java/util/Properties"), accessFlags := 10, slot := 11, constantValue := 0 }, { name := "lineSeparator", type := (.object "java/lang/String"), accessFlags := 10, slot := 12, constantValue := 0 }, { name := "bootLayer", type := (.object "java/lang/ModuleLayer"), accessFlags := 8, slot := 13, constantValue := 0 }]
  methods := #[k6m0, k6m1]
  instanceTypes := #[]
  staticTypes := #[(.object "java/io/InputStream"), (.object "java/io/PrintStream"), (.object "java/io/PrintStream"), (.object "java/io/InputStream"), .int, .int, .int, (.object "java/lang/SecurityManager"), (.object "java/lang/String"), (.object "java/io/Console"), (.object "java/io/PrintStream"), (.object "java/util/Properties"), (.object "java/lang/String"), (.object "java/lang/ModuleLayer")]
  resolved := Array.replicate 834 none
  statics := none }

def pool7 : Array CpInfo := pool [(2, .class_ 4), (1, u "java/lang/Object"), (3, .class_ 10), (1, u "com/example/palimpsest/palimpsest/core/Placement"), (0, u "chunkNumbers"), (0, u "[I"), (2, u "replaced"), (0, u "[[Ljava/lang/Object;"), (2, u "copies"), (7, u "IN_PLACE"), (0, u "Lcom/example/palimpsest/palimpsest/core/Placement;")] 5

/-- com/example/palimpsest/palimpsest/core/Placement -/
def k7 : Class := { plain "com/example/palimpsest/palimpsest/core/Placement" (some 0) with
  accessFlags := 48
  interfaces := #[]
  cf := some (fileOf pool7 8 #[] #[] 48 2 #[] #[{ accessFlags := 24, nameIndex := 27, descriptorIndex := 28, attributes := #[] }, { accessFlags := 16, nameIndex := 11, descriptorIndex := 12, attributes := #[] }, { accessFlags := 16, nameIndex := 15, descriptorIndex := 16, attributes := #[] }, { accessFlags := 16, nameIndex := 19, descriptorIndex := 16, attributes := #[] }])
  fields := #[{ name := "IN_PLACE", type := (.object "com/example/palimpsest/palimpsest/core/Placement"), accessFlags := 24, slot := 0, constantValue := 0 }, { name := "chunkNumbers", type := (.array .int), accessFlags := 16, slot := 0, constantValue := 0 }, { name := "replaced", type := (.array (.array (.object "java/lang/Object"))), accessFlags := 16, slot := 1, constantValue := 0 }, { name := "copies", type := (.array (.array (.object "java/lang/Object"))), accessFlags := 16, slot := 2, constantValue := 0 }]
  methods := #[]
  instanceTypes := #[(.array .int), (.array (.array (.object "java/lang/Object"))), (.array (.array (.object "java/lang/Object")))]
  staticTypes := #[(.object "com/example/palimpsest/palimpsest/core/Placement")]
  resolved := Array.replicate 34 none
  statics := some 1 }

def pool8 : Array CpInfo := pool [(1, u "java/io/Serializable"), (0, .class_ 1), (0, u "java/lang/Object"), (0, .class_ 3)] 3

/-- java/io/Serializable -/
def k8 : Class := { plain "java/io/Serializable" (some 0) with
  accessFlags := 1537
  interfaces := #[]
  cf := some (fileOf pool8 2 #[] #[] 1537 4 #[] #[])
  fields := #[]
  methods := #[]
  instanceTypes := #[]
  staticTypes := #[]
  resolved := Array.replicate 8 none
  statics := none }

/-- the primitive byte -/
def k9 : Class := { plain "byte" none with kind := .primitive 'B', accessFlags := 0x411 }
/-- [B -/
def k10 : Class := { plain "[B" (some 0) with kind := .array 9 .byte, interfaces := #[4, 8], accessFlags := 1041 }

/-- the primitive int -/
def k11 : Class := { plain "int" none with kind := .primitive 'I', accessFlags := 0x411 }
/-- [I -/
def k12 : Class := { plain "[I" (some 0) with kind := .array 11 .int, interfaces := #[4, 8], accessFlags := 1041 }

/-- [Ljava/lang/Object; -/
def k13 : Class := { plain "[Ljava/lang/Object;" (some 0) with mirror := some 2, kind := .array 0 (.object "java/lang/Object"), interfaces := #[4, 8], accessFlags := 1041 }

def heap : Heap := #[{ cls := 2, slots := #[.null, .null, .null, .ref 4, .ref 3], vm := .statics 2 },
  { cls := 7, slots := #[.ref 5], vm := .statics 7 },
  { cls := 0, slots := #[], vm := .mirror 13 },
  { cls := 13, slots := #[], vm := .none },
  { cls := 12, slots := #[], vm := .none },
  { cls := 7, slots := #[.null, .null, .null], vm := .none }]
def classes : Array Class := #[k0, k1, k2, k3, k4, k5, k6, k7, k8, k9, k10, k11, k12, k13]
def interned : List (Array UInt16 × Addr) := []
def slotsUsed : Nat := 9
def theMethod : MethodId := ⟨1, 1⟩
def args0 : Array Value := #[.long 1, .long 2, .int 3]
def aboutOver (below : List Frame) : State where
  vm := { classes := classes, interned := interned.toArray }
  heap := heap
  slotsUsed := slotsUsed
  threads := #[{ frames := .invoking theMethod args0 :: below }]
def below0 : List Frame := [.native { method := ⟨0, 0⟩, args := #[] }]
def about1 : State := aboutOver below0
def p0 : Program := .bare "" "" ""
def e0 : Env := launch0.env 0 0 0
theorem w_frames : about1.frames = Frame.invoking theMethod args0 :: below0 := rfl
set_option maxRecDepth 65536 in
theorem w_args : argsFit about1.vm theMethod args0 = true := by decide +kernel
set_option maxRecDepth 65536 in
theorem w_heap : heapFits about1 = true := by decide +kernel
set_option maxRecDepth 65536 in
theorem w_runnable : about1.curStatus? = some .runnable := by decide +kernel
set_option maxRecDepth 65536 in
theorem w_alone : about1.alone = true := by decide +kernel
set_option maxRecDepth 65536 in
theorem w_named : about1.methodNamed? x = some theMethod := by decide +kernel
set_option maxRecDepth 65536 in
theorem w_hears : about1.hears theMethod below0 = true := by decide +kernel
set_option maxRecDepth 65536 in
theorem w_ripe : about1.ripe theMethod args0 below0 = true := by decide +kernel
theorem w_running : about1.status = .running := rfl
set_option maxRecDepth 65536 in
theorem w_room : about1.hasRoom e0.platform room_1 = true :=
  launch0.hasRoom_least _ room_1 (by decide +kernel) (by decide +kernel) (by decide +kernel) (by decide +kernel) (by decide +kernel) (by decide +kernel)
theorem allAtoms_all (ts : List Jvm.Cond) (a : Array Jvm.Value) (st : Jvm.State) : (allAtoms ts).before a st = ts.all (fun c => c.before a st) := by
  induction ts with
  | nil => rfl
  | cons c t ih =>
    show (Jvm.Cond.and c (allAtoms t)).before a st = _
    rw [Jvm.Cond.before_and, ih, List.all_cons]
def words1 : List Jvm.Cond := Jvm.Cond.code x code maxLocals ret :: tables_1
/-- a 'code' word, met by the world's own term for the bytes: nothing is compared byte by byte -/
theorem code_word {y : MethodName} {bytes : ByteArray} {mx : Nat} {rt : Option FieldType} {a : Array Value} {s : State} {m : MethodId} {meth : Method} {c : Code} (h1 : s.methodNamed? y = some m) (h2 : s.vm.method? m = some meth) (h3 : meth.code = some c) (h4 : c.code = bytes)
    (h5 : (c.maxLocals == mx && c.exceptionTable.isEmpty && decide (c.maxStack ≤ mostOperands) && decide (meth.sig.returnType = rt) && !meth.locks && decide (parseMethodDescriptor y.desc = some meth.sig)) = true) : (Jvm.Cond.code y bytes mx rt).before a s = true := by
  simp only [Bool.and_eq_true, beq_iff_eq, Bool.not_eq_true', decide_eq_true_eq] at h5
  obtain ⟨⟨⟨⟨⟨g1, g2⟩, g3⟩, g4⟩, g5⟩, g6⟩ := h5
  simp [Cond.before, Cond.holds, Cond.value, h1, h2, h3, h4, g1, g2, g3, g4, g5, g6]
def isCode : Jvm.Cond → Bool
  | .code _ _ _ _ => true
  | _ => false
theorem all_split {L : List Jvm.Cond} {P : Jvm.Cond → Bool} (h1 : L.all (fun c => isCode c || P c) = true) (h2 : ∀ c ∈ L.filter isCode, P c = true) : L.all P = true := by
  refine List.all_eq_true.mpr fun c hc => ?_
  have h := List.all_eq_true.mp h1 c hc
  rcases Bool.eq_false_or_eq_true (isCode c) with hi | hi
  · exact h2 c (List.mem_filter.mpr ⟨hc, hi⟩)
  · simpa [hi] using h
set_option maxRecDepth 65536 in
theorem w_c0 : (Jvm.Cond.code x code maxLocals ret).before args0 about1 = true := code_word (m := ⟨1, 1⟩) (meth := k1m1) (c := k1c1) (by decide +kernel) rfl rfl rfl (by decide +kernel)
set_option maxRecDepth 65536 in
theorem w_c1 : (Jvm.Cond.code ({ cls := "com/example/palimpsest/palimpsest/core/Overwrite", name := "<init>", desc := "(J)V" } : Jvm.MethodName) prog_16_method_1_code (3 : Nat) (Option.none : Option Jvm.ClassFile.FieldType)).before args0 about1 = true := code_word (m := ⟨2, 0⟩) (meth := k2m0) (c := k2c0) (by decide +kernel) rfl rfl rfl (by decide +kernel)
set_option maxRecDepth 65536 in
theorem w_c2 : (Jvm.Cond.code ({ cls := "com/example/palimpsest/palimpsest/core/Overwrite", name := "<init>", desc := "(JJJ[I[Ljava/lang/Object;[Ljava/lang/Object;Lcom/example/palimpsest/palimpsest/core/Overwrite;)V" } : Jvm.MethodName) prog_16_method_3_code (11 : Nat) (Option.none : Option Jvm.ClassFile.FieldType)).before args0 about1 = true := code_word (m := ⟨2, 1⟩) (meth := k2m1) (c := k2c1) (by decide +kernel) rfl rfl rfl (by decide +kernel)
set_option maxRecDepth 65536 in
theorem w_c3 : (Jvm.Cond.code ({ cls := "java/lang/Object", name := "<init>", desc := "()V" } : Jvm.MethodName) object_method_1_code (1 : Nat) (Option.none : Option Jvm.ClassFile.FieldType)).before args0 about1 = true := code_word (m := ⟨0, 0⟩) (meth := k0m0) (c := k0c0) (by decide +kernel) rfl rfl rfl (by decide +kernel)
set_option maxRecDepth 65536 in
theorem w_c4 : (Jvm.Cond.code ({ cls := "com/example/palimpsest/palimpsest/core/Overwrite", name := "folded", desc := "(Lcom/example/palimpsest/palimpsest/core/Overwrite;Lcom/example/palimpsest/palimpsest/core/Overwrite;)Lcom/example/palimpsest/palimpsest/core/Overwrite;" } : Jvm.MethodName) prog_16_method_4_code (10 : Nat) (Option.some (Jvm.ClassFile.FieldType.object "com/example/palimpsest/palimpsest/core/Overwrite"))).before args0 about1 = true := code_word (m := ⟨2, 2⟩) (meth := k2m2) (c := k2c2) (by decide +kernel) rfl rfl rfl (by decide +kernel)
set_option maxRecDepth 65536 in
theorem w_c5 : (Jvm.Cond.code ({ cls := "java/util/Arrays", name := "copyOf", desc := "([II)[I" } : Jvm.MethodName) jdk_65_method_123_code (3 : Nat) (Option.some (Jvm.ClassFile.FieldType.array Jvm.ClassFile.FieldType.int))).before args0 about1 = true := code_word (m := ⟨3, 5⟩) (meth := k3m5) (c := k3c5) (by decide +kernel) rfl rfl rfl (by decide +kernel)
set_option maxRecDepth 65536 in
theorem w_c6 : (Jvm.Cond.code ({ cls := "java/util/Arrays", name := "copyOf", desc := "([Ljava/lang/Object;I)[Ljava/lang/Object;" } : Jvm.MethodName) jdk_65_method_119_code (2 : Nat) (Option.some (Jvm.ClassFile.FieldType.array (Jvm.ClassFile.FieldType.object "java/lang/Object")))).before args0 about1 = true := code_word (m := ⟨3, 3⟩) (meth := k3m3) (c := k3c3) (by decide +kernel) rfl rfl rfl (by decide +kernel)
set_option maxRecDepth 65536 in
theorem w_c7 : (Jvm.Cond.code ({ cls := "java/util/Arrays", name := "copyOf", desc := "([Ljava/lang/Object;ILjava/lang/Class;)[Ljava/lang/Object;" } : Jvm.MethodName) jdk_65_method_120_code (4 : Nat) (Option.some (Jvm.ClassFile.FieldType.array (Jvm.ClassFile.FieldType.object "java/lang/Object")))).before args0 about1 = true := code_word (m := ⟨3, 4⟩) (meth := k3m4) (c := k3c4) (by decide +kernel) rfl rfl rfl (by decide +kernel)
set_option maxRecDepth 65536 in
theorem w_c8 : (Jvm.Cond.code ({ cls := "java/lang/Math", name := "min", desc := "(II)I" } : Jvm.MethodName) jdk_29_method_69_code (2 : Nat) (Option.some Jvm.ClassFile.FieldType.int)).before args0 about1 = true := code_word (m := ⟨5, 1⟩) (meth := k5m1) (c := k5c1) (by decide +kernel) rfl rfl rfl (by decide +kernel)
set_option maxRecDepth 65536 in
theorem w_c9 : (Jvm.Cond.code ({ cls := "com/example/palimpsest/palimpsest/core/Overwrite", name := "isEmpty", desc := "()Z" } : Jvm.MethodName) prog_16_method_6_code (1 : Nat) (Option.some Jvm.ClassFile.FieldType.boolean)).before args0 about1 = true := code_word (m := ⟨2, 3⟩) (meth := k2m3) (c := k2c3) (by decide +kernel) rfl rfl rfl (by decide +kernel)
set_option maxRecDepth 65536 in
theorem w_c10 : (Jvm.Cond.code ({ cls := "com/example/palimpsest/palimpsest/core/Overwrite", name := "positionOf", desc := "(I)I" } : Jvm.MethodName) prog_16_method_7_code (2 : Nat) (Option.some Jvm.ClassFile.FieldType.int)).before args0 about1 = true := code_word (m := ⟨2, 4⟩) (meth := k2m4) (c := k2c4) (by decide +kernel) rfl rfl rfl (by decide +kernel)
set_option maxRecDepth 65536 in
theorem w_c11 : (Jvm.Cond.code ({ cls := "java/util/Arrays", name := "binarySearch", desc := "([II)I" } : Jvm.MethodName) jdk_65_method_57_code (2 : Nat) (Option.some Jvm.ClassFile.FieldType.int)).before args0 about1 = true := code_word (m := ⟨3, 1⟩) (meth := k3m1) (c := k3c1) (by decide +kernel) rfl rfl rfl (by decide +kernel)
set_option maxRecDepth 65536 in
theorem w_c12 : (Jvm.Cond.code ({ cls := "java/util/Arrays", name := "binarySearch0", desc := "([IIII)I" } : Jvm.MethodName) jdk_65_method_59_code (8 : Nat) (Option.some Jvm.ClassFile.FieldType.int)).before args0 about1 = true := code_word (m := ⟨3, 2⟩) (meth := k3m2) (c := k3c2) (by decide +kernel) rfl rfl rfl (by decide +kernel)
def codes1 : List Jvm.Cond := [Jvm.Cond.code x code maxLocals ret, Jvm.Cond.code ({ cls := "com/example/palimpsest/palimpsest/core/Overwrite", name := "<init>", desc := "(J)V" } : Jvm.MethodName) prog_16_method_1_code (3 : Nat) (Option.none : Option Jvm.ClassFile.FieldType), Jvm.Cond.code ({ cls := "com/example/palimpsest/palimpsest/core/Overwrite", name := "<init>", desc := "(JJJ[I[Ljava/lang/Object;[Ljava/lang/Object;Lcom/example/palimpsest/palimpsest/core/Overwrite;)V" } : Jvm.MethodName) prog_16_method_3_code (11 : Nat) (Option.none : Option Jvm.ClassFile.FieldType), Jvm.Cond.code ({ cls := "java/lang/Object", name := "<init>", desc := "()V" } : Jvm.MethodName) object_method_1_code (1 : Nat) (Option.none : Option Jvm.ClassFile.FieldType), Jvm.Cond.code ({ cls := "com/example/palimpsest/palimpsest/core/Overwrite", name := "folded", desc := "(Lcom/example/palimpsest/palimpsest/core/Overwrite;Lcom/example/palimpsest/palimpsest/core/Overwrite;)Lcom/example/palimpsest/palimpsest/core/Overwrite;" } : Jvm.MethodName) prog_16_method_4_code (10 : Nat) (Option.some (Jvm.ClassFile.FieldType.object "com/example/palimpsest/palimpsest/core/Overwrite")), Jvm.Cond.code ({ cls := "java/util/Arrays", name := "copyOf", desc := "([II)[I" } : Jvm.MethodName) jdk_65_method_123_code (3 : Nat) (Option.some (Jvm.ClassFile.FieldType.array Jvm.ClassFile.FieldType.int)), Jvm.Cond.code ({ cls := "java/util/Arrays", name := "copyOf", desc := "([Ljava/lang/Object;I)[Ljava/lang/Object;" } : Jvm.MethodName) jdk_65_method_119_code (2 : Nat) (Option.some (Jvm.ClassFile.FieldType.array (Jvm.ClassFile.FieldType.object "java/lang/Object"))), Jvm.Cond.code ({ cls := "java/util/Arrays", name := "copyOf", desc := "([Ljava/lang/Object;ILjava/lang/Class;)[Ljava/lang/Object;" } : Jvm.MethodName) jdk_65_method_120_code (4 : Nat) (Option.some (Jvm.ClassFile.FieldType.array (Jvm.ClassFile.FieldType.object "java/lang/Object"))), Jvm.Cond.code ({ cls := "java/lang/Math", name := "min", desc := "(II)I" } : Jvm.MethodName) jdk_29_method_69_code (2 : Nat) (Option.some Jvm.ClassFile.FieldType.int), Jvm.Cond.code ({ cls := "com/example/palimpsest/palimpsest/core/Overwrite", name := "isEmpty", desc := "()Z" } : Jvm.MethodName) prog_16_method_6_code (1 : Nat) (Option.some Jvm.ClassFile.FieldType.boolean), Jvm.Cond.code ({ cls := "com/example/palimpsest/palimpsest/core/Overwrite", name := "positionOf", desc := "(I)I" } : Jvm.MethodName) prog_16_method_7_code (2 : Nat) (Option.some Jvm.ClassFile.FieldType.int), Jvm.Cond.code ({ cls := "java/util/Arrays", name := "binarySearch", desc := "([II)I" } : Jvm.MethodName) jdk_65_method_57_code (2 : Nat) (Option.some Jvm.ClassFile.FieldType.int), Jvm.Cond.code ({ cls := "java/util/Arrays", name := "binarySearch0", desc := "([IIII)I" } : Jvm.MethodName) jdk_65_method_59_code (8 : Nat) (Option.some Jvm.ClassFile.FieldType.int)]
set_option maxRecDepth 65536 in
theorem codes_eq : words1.filter isCode = codes1 := rfl
theorem w_codes : ∀ c ∈ words1.filter isCode, c.before args0 about1 = true := by
  rw [codes_eq]
  intro c hc
  simp only [codes1, List.mem_cons, List.not_mem_nil, or_false] at hc
  rcases hc with rfl | rfl | rfl | rfl | rfl | rfl | rfl | rfl | rfl | rfl | rfl | rfl | rfl
  · exact w_c0
  · exact w_c1
  · exact w_c2
  · exact w_c3
  · exact w_c4
  · exact w_c5
  · exact w_c6
  · exact w_c7
  · exact w_c8
  · exact w_c9
  · exact w_c10
  · exact w_c11
  · exact w_c12
set_option maxRecDepth 65536 in
theorem w_t1 : (words1.take 24).all (fun c => isCode c || c.before args0 about1) = true := by decide +kernel
set_option maxRecDepth 65536 in
theorem w_t2 : ((words1.drop 24).take 24).all (fun c => isCode c || c.before args0 about1) = true := by decide +kernel
set_option maxRecDepth 65536 in
theorem w_t3 : (((words1.drop 24).drop 24).take 24).all (fun c => isCode c || c.before args0 about1) = true := by decide +kernel
set_option maxRecDepth 65536 in
theorem w_t4 : (((words1.drop 24).drop 24).drop 24).all (fun c => isCode c || c.before args0 about1) = true := by decide +kernel
theorem w_tables : (allAtoms (Jvm.Cond.code x code maxLocals ret :: tables_1)).before args0 about1 = true := by
  rw [allAtoms_all]
  show words1.all (fun c => c.before args0 about1) = true
  refine all_split ?_ w_codes
  rw [← List.take_append_drop 24 words1, List.all_append, w_t1, ← List.take_append_drop 24 (words1.drop 24), List.all_append, w_t2, ← List.take_append_drop 24 ((words1.drop 24).drop 24), List.all_append, w_t3, w_t4]
  rfl
set_option maxRecDepth 65536 in
theorem w_case : (Jvm.Cond.and given_1 narrow_1).before args0 about1 = true := by decide +kernel
theorem w_applies : (headSpec (Jvm.Cond.code x code maxLocals ret :: tables_1) room_1).applies x e0.platform about1 = true :=
  (Spec.applies_iff w_frames).mpr ⟨w_running, w_runnable, w_alone, w_named, w_hears, w_ripe, w_room, w_tables⟩
theorem atStart : AtStart classFile x code maxLocals ret World_1 tables_1 room_1 Calls_1 rest_1 Pre_1 launch0 p0 e0 about1 theMethod args0 below0 :=
  ⟨lists_1, trivial, launch0.admits_env _ _ _, launch0.least_env, fairChoices_fair.cas, fairChoices_fair.clock, w_frames, w_args, w_heap, w_applies, ⟨⟨13, k13, 2, by decide +kernel, rfl, rfl, _, rfl, rfl⟩, trivial⟩, trivial, w_case⟩
end start1
theorem witness_1 : WitnessClaimed_1 := ⟨start1.p0, start1.e0, start1.about1, start1.theMethod, start1.args0, start1.below0, start1.atStart⟩
end Jvm.Pilot.@@N@@
